/- What the functions over revisions come to: buckets' keys read back, and the law on them. -/
import Derived.Test.YtfdnfnjmphjdnaaRvC
set_option linter.unusedVariables false
set_option linter.unusedSimpArgs false
namespace Go.Proofs.Ytfdnfnjmphjdnaa
open Go Go.RowKit Gw

set_option maxHeartbeats 400000 in
theorem bbIn17 (R : HP) (b1 b2 b3 : Nat) (x y : Int) (t0 : Bool) (v : Value) (m s : Int) (hm : 0 ≤ m) (hm2 : m < 9223372036854775808) (hs : 0 ≤ s) (hs2 : s < 9223372036854775808) (hv : RS R 1 v 17 (bytesV (rvb (IntKind.u64.wrap m) (IntKind.u64.wrap s) ++ []))) :
    Tri Try.prog 48 #[(Value.pointer (some ⟨b1, 0, none⟩)), (Value.pointer (some ⟨b2, 0, none⟩)), (Value.pointer (some ⟨b3, 0, none⟩))] R [cl b1 25 [v], cl b2 23 [.int .i64 x, .int .i64 y], cl b3 4 [.bool t0]] (fun r post => r = .tuple #[] ∧ post = [cl b1 25 [v], cl b2 23 [.int .i64 m, .int .i64 s], cl b3 4 [.bool false]]) := by
  obtain ⟨a, cap, rfl, hcap⟩ := RS.len hv
  refine Tri.into (n := 11) (al := [(Value.pointer (some ⟨b1, 0, none⟩)), (Value.pointer (some ⟨b2, 0, none⟩)), (Value.pointer (some ⟨b3, 0, none⟩))]) Try.func48 rfl Try.ntmps48 rfl rfl fun w F H => ?_
  replace H : Holds w (ro R :: cl b1 25 [(Value.slice a 17 cap)] :: cl b2 23 [(Value.int .i64 x), (Value.int .i64 y)] :: cl b3 4 [(Value.bool t0)] :: F) := H
  refine C_seq (fun K1_ hK1_ => ?_)
  refine C_reg ?_
  refine S_list (T_val (v := (Value.slice a 17 cap)) (x_load1 rfl Try.underlying25 rfl ((Holds.rd H 1 rfl) 0 (Value.slice a 17 cap) rfl)) ?_)
  refine S_list (T_call (al := [(Value.slice a 17 cap)]) (pre := []) (F := cl b1 25 [(Value.slice a 17 cap)] :: cl b2 23 [(Value.int .i64 x), (Value.int .i64 y)] :: cl b3 4 [(Value.bool t0)] :: F) rfl rfl cb49 (b2bk17 R (Value.slice a 17 cap) m s hm hm2 hs hs2 hv) H ?_)
  rintro v5_ p6_ w2_ ⟨rfl, rfl⟩ S4_ H3_
  replace H3_ : Holds w2_ (ro R :: cl b1 25 [(Value.slice a 17 cap)] :: cl b2 23 [(Value.int .i64 x), (Value.int .i64 y)] :: cl b3 4 [(Value.bool t0)] :: F) := H3_
  have S7_ := Same.trans (Same.refl w) S4_
  refine S_list (T_alloc z82 H3_ ?_)
  intro b8_ w9_ S11_ H10_
  replace H10_ : Holds w9_ (cl b8_ 82 [(Value.int .i64 0), (Value.int .i64 0), (Value.bool false)] :: ro R :: cl b1 25 [(Value.slice a 17 cap)] :: cl b2 23 [(Value.int .i64 x), (Value.int .i64 y)] :: cl b3 4 [(Value.bool t0)] :: F) := H10_
  have S12_ := Same.trans S7_ S11_
  refine S_list0 (T_storeN (vs := [(Value.int .i64 m), (Value.int .i64 s), (Value.bool false)]) rfl rfl z82 rfl (by simp [Value.oneCell']) H10_ 0 rfl (Nat.le_of_ble_eq_true (by rfl)) ?_)
  intro w13_ S15_ H14_
  replace H14_ : Holds w13_ (cl b8_ 82 [(Value.int .i64 m), (Value.int .i64 s), (Value.bool false)] :: ro R :: cl b1 25 [(Value.slice a 17 cap)] :: cl b2 23 [(Value.int .i64 x), (Value.int .i64 y)] :: cl b3 4 [(Value.bool t0)] :: F) := H14_
  have S16_ := Same.trans S12_ S15_
  refine wpList_nil ?_
  refine (X_then (hK1_ _ _ ?_))
  clear hK1_
  refine C_seq (fun K17_ hK17_ => ?_)
  refine C_reg ?_
  refine S_list (T_val (v := (Value.pointer (some ⟨b8_, 0, none⟩))) (by kernel_rfl) ?_)
  refine S_list (T_val (v := (Value.agg #[(Value.int .i64 m), (Value.int .i64 s)])) (x_loadN (vs := [(Value.int .i64 m), (Value.int .i64 s)]) rfl Try.underlying61 rfl z61 rfl (Rd.cells (Holds.rd H14_ 0 rfl) 0 rfl)) ?_)
  refine S_list (T_callW (al := [(Value.agg #[(Value.int .i64 m), (Value.int .i64 s)])]) rfl rfl cb50 (Calls.into (n := 8) (al := [(Value.agg #[(Value.int .i64 m), (Value.int .i64 s)])]) Try.func50 rfl Try.ntmps50 rfl rfl ?_))
  refine C_seq (fun K18_ hK18_ => ?_)
  refine C_reg ?_
  refine S_list (T_box (v := (Value.agg #[(Value.int .i64 m), (Value.int .i64 s)])) rfl H14_ ?_)
  intro b19_ w20_ S22_ H21_
  replace H21_ : Holds w20_ (cl b19_ 61 [(Value.int .i64 m), (Value.int .i64 s)] :: cl b8_ 82 [(Value.int .i64 m), (Value.int .i64 s), (Value.bool false)] :: ro R :: cl b1 25 [(Value.slice a 17 cap)] :: cl b2 23 [(Value.int .i64 x), (Value.int .i64 y)] :: cl b3 4 [(Value.bool t0)] :: F) := H21_
  have S23_ := Same.trans S16_ S22_
  refine S_list (T_alloc z23 H21_ ?_)
  intro b24_ w25_ S27_ H26_
  replace H26_ : Holds w25_ (cl b24_ 23 [(Value.int .i64 0), (Value.int .i64 0)] :: cl b19_ 61 [(Value.int .i64 m), (Value.int .i64 s)] :: cl b8_ 82 [(Value.int .i64 m), (Value.int .i64 s), (Value.bool false)] :: ro R :: cl b1 25 [(Value.slice a 17 cap)] :: cl b2 23 [(Value.int .i64 x), (Value.int .i64 y)] :: cl b3 4 [(Value.bool t0)] :: F) := H26_
  have S28_ := Same.trans S23_ S27_
  refine wpList_nil ?_
  refine (X_then (hK18_ _ _ ?_))
  clear hK18_
  refine C_seq (fun K29_ hK29_ => ?_)
  refine C_reg ?_
  refine S_list (T_val (v := (Value.pointer (some ⟨b19_, 0, none⟩))) (by kernel_rfl) ?_)
  refine S_list (T_val (v := (Value.int .i64 m)) (x_load1 rfl Try.underlying2 rfl ((Holds.rd H26_ 1 rfl) 0 (Value.int .i64 m) rfl)) ?_)
  refine S_list (T_val (v := (Value.pointer (some ⟨b19_, 1, none⟩))) (by kernel_rfl) ?_)
  refine S_list (T_val (v := (Value.int .i64 s)) (x_load1 rfl Try.underlying2 rfl ((Holds.rd H26_ 1 rfl) 1 (Value.int .i64 s) rfl)) ?_)
  refine S_list (T_val (v := (Value.agg #[(Value.int .i64 m), (Value.int .i64 s)])) (by kernel_rfl) ?_)
  refine S_list0 (T_storeN (vs := [(Value.int .i64 m), (Value.int .i64 s)]) rfl rfl z23 rfl (by simp [Value.oneCell']) H26_ 0 rfl (Nat.le_of_ble_eq_true (by rfl)) ?_)
  intro w30_ S32_ H31_
  replace H31_ : Holds w30_ (cl b24_ 23 [(Value.int .i64 m), (Value.int .i64 s)] :: cl b19_ 61 [(Value.int .i64 m), (Value.int .i64 s)] :: cl b8_ 82 [(Value.int .i64 m), (Value.int .i64 s), (Value.bool false)] :: ro R :: cl b1 25 [(Value.slice a 17 cap)] :: cl b2 23 [(Value.int .i64 x), (Value.int .i64 y)] :: cl b3 4 [(Value.bool t0)] :: F) := H31_
  have S33_ := Same.trans S28_ S32_
  refine wpList_nil ?_
  refine (X_then (hK29_ _ _ ?_))
  clear hK29_
  refine C_ret ?_
  refine R_any (v := (Value.agg #[(Value.int .i64 m), (Value.int .i64 s)])) (run_results1 rfl ⟨_, rfl, load_resN Try.underlying23 rfl z23 rfl (vs := [(Value.int .i64 m), (Value.int .i64 s)]) (Holds.cl_cells H31_ 0 rfl 0 rfl)⟩) ⟨_, rfl, ?_⟩
  refine S_list0 (T_storeN (vs := [(Value.int .i64 m), (Value.int .i64 s)]) rfl rfl z23 rfl (by simp [Value.oneCell']) H31_ 5 rfl (Nat.le_of_ble_eq_true (by rfl)) ?_)
  intro w34_ S36_ H35_
  replace H35_ : Holds w34_ (cl b24_ 23 [(Value.int .i64 m), (Value.int .i64 s)] :: cl b19_ 61 [(Value.int .i64 m), (Value.int .i64 s)] :: cl b8_ 82 [(Value.int .i64 m), (Value.int .i64 s), (Value.bool false)] :: ro R :: cl b1 25 [(Value.slice a 17 cap)] :: cl b2 23 [(Value.int .i64 m), (Value.int .i64 s)] :: cl b3 4 [(Value.bool t0)] :: F) := H35_
  have S37_ := Same.trans S33_ S36_
  refine wpList_nil ?_
  refine (X_then (hK17_ _ _ ?_))
  clear hK17_
  refine C_reg ?_
  refine S_list (T_val (v := (Value.agg #[(Value.int .i64 m), (Value.int .i64 s), (Value.bool false)])) (x_loadN (vs := [(Value.int .i64 m), (Value.int .i64 s), (Value.bool false)]) rfl Try.underlying82 rfl z82 rfl (Rd.cells (Holds.rd H35_ 2 rfl) 0 rfl)) ?_)
  refine S_list (T_callW (al := [(Value.agg #[(Value.int .i64 m), (Value.int .i64 s), (Value.bool false)])]) rfl rfl cb51 (Calls.into (n := 5) (al := [(Value.agg #[(Value.int .i64 m), (Value.int .i64 s), (Value.bool false)])]) Try.func51 rfl Try.ntmps51 rfl rfl ?_))
  refine C_seq (fun K38_ hK38_ => ?_)
  refine C_reg ?_
  refine S_list (T_box (v := (Value.agg #[(Value.int .i64 m), (Value.int .i64 s), (Value.bool false)])) rfl H35_ ?_)
  intro b39_ w40_ S42_ H41_
  replace H41_ : Holds w40_ (cl b39_ 82 [(Value.int .i64 m), (Value.int .i64 s), (Value.bool false)] :: cl b24_ 23 [(Value.int .i64 m), (Value.int .i64 s)] :: cl b19_ 61 [(Value.int .i64 m), (Value.int .i64 s)] :: cl b8_ 82 [(Value.int .i64 m), (Value.int .i64 s), (Value.bool false)] :: ro R :: cl b1 25 [(Value.slice a 17 cap)] :: cl b2 23 [(Value.int .i64 m), (Value.int .i64 s)] :: cl b3 4 [(Value.bool t0)] :: F) := H41_
  have S43_ := Same.trans S37_ S42_
  refine S_list (T_val (v := (Value.bool false)) (x_assign rfl) ?_)
  refine wpList_nil ?_
  refine (X_then (hK38_ _ _ ?_))
  clear hK38_
  refine C_seq (fun K44_ hK44_ => ?_)
  refine C_reg ?_
  refine S_list (T_val (v := (Value.pointer (some ⟨b39_, 2, none⟩))) (by kernel_rfl) ?_)
  refine S_list (T_val (v := (Value.bool false)) (x_load1 rfl Try.underlying4 rfl ((Holds.rd H41_ 0 rfl) 2 (Value.bool false) rfl)) ?_)
  refine S_list (T_val (v := (Value.bool false)) (x_assign rfl) ?_)
  refine wpList_nil ?_
  refine (X_then (hK44_ _ _ ?_))
  clear hK44_
  refine C_ret ?_
  refine R_any (v := (Value.bool false)) (run_results1 rfl rfl) ⟨_, rfl, ?_⟩
  refine S_list0 (T_store1 (v := (Value.bool false)) rfl rfl z4 rfl H41_ 7 rfl (Nat.le_of_ble_eq_true (by rfl)) ?_)
  intro w45_ S47_ H46_
  replace H46_ : Holds w45_ (cl b39_ 82 [(Value.int .i64 m), (Value.int .i64 s), (Value.bool false)] :: cl b24_ 23 [(Value.int .i64 m), (Value.int .i64 s)] :: cl b19_ 61 [(Value.int .i64 m), (Value.int .i64 s)] :: cl b8_ 82 [(Value.int .i64 m), (Value.int .i64 s), (Value.bool false)] :: ro R :: cl b1 25 [(Value.slice a 17 cap)] :: cl b2 23 [(Value.int .i64 m), (Value.int .i64 s)] :: cl b3 4 [(Value.bool false)] :: F) := H46_
  have S48_ := Same.trans S43_ S47_
  refine wpList_nil ?_
  refine R_0 rfl ?_
  have H49_ : Holds w45_ (ro R :: cl b1 25 [(Value.slice a 17 cap)] :: cl b2 23 [(Value.int .i64 m), (Value.int .i64 s)] :: cl b3 4 [(Value.bool false)] :: F) := (Holds.erase (Holds.erase (Holds.erase (Holds.erase (Holds.bring (Holds.bring (Holds.bring (Holds.bring H46_ 7 rfl) 7 rfl) 7 rfl) 7 rfl) 4) 4) 4) 4)
  exact ⟨_, [cl b1 25 [(Value.slice a 17 cap)], cl b2 23 [(Value.int .i64 m), (Value.int .i64 s)], cl b3 4 [(Value.bool false)]], rfl, ⟨rfl, rfl⟩, S48_, H49_⟩

set_option maxHeartbeats 400000 in
theorem bbIn18t (R : HP) (b1 b2 b3 : Nat) (x y : Int) (t0 : Bool) (v : Value) (m s : Int) (hm : 0 ≤ m) (hm2 : m < 9223372036854775808) (hs : 0 ≤ s) (hs2 : s < 9223372036854775808) (hv : RS R 1 v 18 (bytesV (rvb (IntKind.u64.wrap m) (IntKind.u64.wrap s) ++ [116]))) :
    Tri Try.prog 48 #[(Value.pointer (some ⟨b1, 0, none⟩)), (Value.pointer (some ⟨b2, 0, none⟩)), (Value.pointer (some ⟨b3, 0, none⟩))] R [cl b1 25 [v], cl b2 23 [.int .i64 x, .int .i64 y], cl b3 4 [.bool t0]] (fun r post => r = .tuple #[] ∧ post = [cl b1 25 [v], cl b2 23 [.int .i64 m, .int .i64 s], cl b3 4 [.bool true]]) := by
  obtain ⟨a, cap, rfl, hcap⟩ := RS.len hv
  refine Tri.into (n := 11) (al := [(Value.pointer (some ⟨b1, 0, none⟩)), (Value.pointer (some ⟨b2, 0, none⟩)), (Value.pointer (some ⟨b3, 0, none⟩))]) Try.func48 rfl Try.ntmps48 rfl rfl fun w F H => ?_
  replace H : Holds w (ro R :: cl b1 25 [(Value.slice a 18 cap)] :: cl b2 23 [(Value.int .i64 x), (Value.int .i64 y)] :: cl b3 4 [(Value.bool t0)] :: F) := H
  refine C_seq (fun K1_ hK1_ => ?_)
  refine C_reg ?_
  refine S_list (T_val (v := (Value.slice a 18 cap)) (x_load1 rfl Try.underlying25 rfl ((Holds.rd H 1 rfl) 0 (Value.slice a 18 cap) rfl)) ?_)
  refine S_list (T_call (al := [(Value.slice a 18 cap)]) (pre := []) (F := cl b1 25 [(Value.slice a 18 cap)] :: cl b2 23 [(Value.int .i64 x), (Value.int .i64 y)] :: cl b3 4 [(Value.bool t0)] :: F) rfl rfl cb49 (b2bk18t R (Value.slice a 18 cap) m s hm hm2 hs hs2 hv) H ?_)
  rintro v5_ p6_ w2_ ⟨rfl, rfl⟩ S4_ H3_
  replace H3_ : Holds w2_ (ro R :: cl b1 25 [(Value.slice a 18 cap)] :: cl b2 23 [(Value.int .i64 x), (Value.int .i64 y)] :: cl b3 4 [(Value.bool t0)] :: F) := H3_
  have S7_ := Same.trans (Same.refl w) S4_
  refine S_list (T_alloc z82 H3_ ?_)
  intro b8_ w9_ S11_ H10_
  replace H10_ : Holds w9_ (cl b8_ 82 [(Value.int .i64 0), (Value.int .i64 0), (Value.bool false)] :: ro R :: cl b1 25 [(Value.slice a 18 cap)] :: cl b2 23 [(Value.int .i64 x), (Value.int .i64 y)] :: cl b3 4 [(Value.bool t0)] :: F) := H10_
  have S12_ := Same.trans S7_ S11_
  refine S_list0 (T_storeN (vs := [(Value.int .i64 m), (Value.int .i64 s), (Value.bool true)]) rfl rfl z82 rfl (by simp [Value.oneCell']) H10_ 0 rfl (Nat.le_of_ble_eq_true (by rfl)) ?_)
  intro w13_ S15_ H14_
  replace H14_ : Holds w13_ (cl b8_ 82 [(Value.int .i64 m), (Value.int .i64 s), (Value.bool true)] :: ro R :: cl b1 25 [(Value.slice a 18 cap)] :: cl b2 23 [(Value.int .i64 x), (Value.int .i64 y)] :: cl b3 4 [(Value.bool t0)] :: F) := H14_
  have S16_ := Same.trans S12_ S15_
  refine wpList_nil ?_
  refine (X_then (hK1_ _ _ ?_))
  clear hK1_
  refine C_seq (fun K17_ hK17_ => ?_)
  refine C_reg ?_
  refine S_list (T_val (v := (Value.pointer (some ⟨b8_, 0, none⟩))) (by kernel_rfl) ?_)
  refine S_list (T_val (v := (Value.agg #[(Value.int .i64 m), (Value.int .i64 s)])) (x_loadN (vs := [(Value.int .i64 m), (Value.int .i64 s)]) rfl Try.underlying61 rfl z61 rfl (Rd.cells (Holds.rd H14_ 0 rfl) 0 rfl)) ?_)
  refine S_list (T_callW (al := [(Value.agg #[(Value.int .i64 m), (Value.int .i64 s)])]) rfl rfl cb50 (Calls.into (n := 8) (al := [(Value.agg #[(Value.int .i64 m), (Value.int .i64 s)])]) Try.func50 rfl Try.ntmps50 rfl rfl ?_))
  refine C_seq (fun K18_ hK18_ => ?_)
  refine C_reg ?_
  refine S_list (T_box (v := (Value.agg #[(Value.int .i64 m), (Value.int .i64 s)])) rfl H14_ ?_)
  intro b19_ w20_ S22_ H21_
  replace H21_ : Holds w20_ (cl b19_ 61 [(Value.int .i64 m), (Value.int .i64 s)] :: cl b8_ 82 [(Value.int .i64 m), (Value.int .i64 s), (Value.bool true)] :: ro R :: cl b1 25 [(Value.slice a 18 cap)] :: cl b2 23 [(Value.int .i64 x), (Value.int .i64 y)] :: cl b3 4 [(Value.bool t0)] :: F) := H21_
  have S23_ := Same.trans S16_ S22_
  refine S_list (T_alloc z23 H21_ ?_)
  intro b24_ w25_ S27_ H26_
  replace H26_ : Holds w25_ (cl b24_ 23 [(Value.int .i64 0), (Value.int .i64 0)] :: cl b19_ 61 [(Value.int .i64 m), (Value.int .i64 s)] :: cl b8_ 82 [(Value.int .i64 m), (Value.int .i64 s), (Value.bool true)] :: ro R :: cl b1 25 [(Value.slice a 18 cap)] :: cl b2 23 [(Value.int .i64 x), (Value.int .i64 y)] :: cl b3 4 [(Value.bool t0)] :: F) := H26_
  have S28_ := Same.trans S23_ S27_
  refine wpList_nil ?_
  refine (X_then (hK18_ _ _ ?_))
  clear hK18_
  refine C_seq (fun K29_ hK29_ => ?_)
  refine C_reg ?_
  refine S_list (T_val (v := (Value.pointer (some ⟨b19_, 0, none⟩))) (by kernel_rfl) ?_)
  refine S_list (T_val (v := (Value.int .i64 m)) (x_load1 rfl Try.underlying2 rfl ((Holds.rd H26_ 1 rfl) 0 (Value.int .i64 m) rfl)) ?_)
  refine S_list (T_val (v := (Value.pointer (some ⟨b19_, 1, none⟩))) (by kernel_rfl) ?_)
  refine S_list (T_val (v := (Value.int .i64 s)) (x_load1 rfl Try.underlying2 rfl ((Holds.rd H26_ 1 rfl) 1 (Value.int .i64 s) rfl)) ?_)
  refine S_list (T_val (v := (Value.agg #[(Value.int .i64 m), (Value.int .i64 s)])) (by kernel_rfl) ?_)
  refine S_list0 (T_storeN (vs := [(Value.int .i64 m), (Value.int .i64 s)]) rfl rfl z23 rfl (by simp [Value.oneCell']) H26_ 0 rfl (Nat.le_of_ble_eq_true (by rfl)) ?_)
  intro w30_ S32_ H31_
  replace H31_ : Holds w30_ (cl b24_ 23 [(Value.int .i64 m), (Value.int .i64 s)] :: cl b19_ 61 [(Value.int .i64 m), (Value.int .i64 s)] :: cl b8_ 82 [(Value.int .i64 m), (Value.int .i64 s), (Value.bool true)] :: ro R :: cl b1 25 [(Value.slice a 18 cap)] :: cl b2 23 [(Value.int .i64 x), (Value.int .i64 y)] :: cl b3 4 [(Value.bool t0)] :: F) := H31_
  have S33_ := Same.trans S28_ S32_
  refine wpList_nil ?_
  refine (X_then (hK29_ _ _ ?_))
  clear hK29_
  refine C_ret ?_
  refine R_any (v := (Value.agg #[(Value.int .i64 m), (Value.int .i64 s)])) (run_results1 rfl ⟨_, rfl, load_resN Try.underlying23 rfl z23 rfl (vs := [(Value.int .i64 m), (Value.int .i64 s)]) (Holds.cl_cells H31_ 0 rfl 0 rfl)⟩) ⟨_, rfl, ?_⟩
  refine S_list0 (T_storeN (vs := [(Value.int .i64 m), (Value.int .i64 s)]) rfl rfl z23 rfl (by simp [Value.oneCell']) H31_ 5 rfl (Nat.le_of_ble_eq_true (by rfl)) ?_)
  intro w34_ S36_ H35_
  replace H35_ : Holds w34_ (cl b24_ 23 [(Value.int .i64 m), (Value.int .i64 s)] :: cl b19_ 61 [(Value.int .i64 m), (Value.int .i64 s)] :: cl b8_ 82 [(Value.int .i64 m), (Value.int .i64 s), (Value.bool true)] :: ro R :: cl b1 25 [(Value.slice a 18 cap)] :: cl b2 23 [(Value.int .i64 m), (Value.int .i64 s)] :: cl b3 4 [(Value.bool t0)] :: F) := H35_
  have S37_ := Same.trans S33_ S36_
  refine wpList_nil ?_
  refine (X_then (hK17_ _ _ ?_))
  clear hK17_
  refine C_reg ?_
  refine S_list (T_val (v := (Value.agg #[(Value.int .i64 m), (Value.int .i64 s), (Value.bool true)])) (x_loadN (vs := [(Value.int .i64 m), (Value.int .i64 s), (Value.bool true)]) rfl Try.underlying82 rfl z82 rfl (Rd.cells (Holds.rd H35_ 2 rfl) 0 rfl)) ?_)
  refine S_list (T_callW (al := [(Value.agg #[(Value.int .i64 m), (Value.int .i64 s), (Value.bool true)])]) rfl rfl cb51 (Calls.into (n := 5) (al := [(Value.agg #[(Value.int .i64 m), (Value.int .i64 s), (Value.bool true)])]) Try.func51 rfl Try.ntmps51 rfl rfl ?_))
  refine C_seq (fun K38_ hK38_ => ?_)
  refine C_reg ?_
  refine S_list (T_box (v := (Value.agg #[(Value.int .i64 m), (Value.int .i64 s), (Value.bool true)])) rfl H35_ ?_)
  intro b39_ w40_ S42_ H41_
  replace H41_ : Holds w40_ (cl b39_ 82 [(Value.int .i64 m), (Value.int .i64 s), (Value.bool true)] :: cl b24_ 23 [(Value.int .i64 m), (Value.int .i64 s)] :: cl b19_ 61 [(Value.int .i64 m), (Value.int .i64 s)] :: cl b8_ 82 [(Value.int .i64 m), (Value.int .i64 s), (Value.bool true)] :: ro R :: cl b1 25 [(Value.slice a 18 cap)] :: cl b2 23 [(Value.int .i64 m), (Value.int .i64 s)] :: cl b3 4 [(Value.bool t0)] :: F) := H41_
  have S43_ := Same.trans S37_ S42_
  refine S_list (T_val (v := (Value.bool false)) (x_assign rfl) ?_)
  refine wpList_nil ?_
  refine (X_then (hK38_ _ _ ?_))
  clear hK38_
  refine C_seq (fun K44_ hK44_ => ?_)
  refine C_reg ?_
  refine S_list (T_val (v := (Value.pointer (some ⟨b39_, 2, none⟩))) (by kernel_rfl) ?_)
  refine S_list (T_val (v := (Value.bool true)) (x_load1 rfl Try.underlying4 rfl ((Holds.rd H41_ 0 rfl) 2 (Value.bool true) rfl)) ?_)
  refine S_list (T_val (v := (Value.bool true)) (x_assign rfl) ?_)
  refine wpList_nil ?_
  refine (X_then (hK44_ _ _ ?_))
  clear hK44_
  refine C_ret ?_
  refine R_any (v := (Value.bool true)) (run_results1 rfl rfl) ⟨_, rfl, ?_⟩
  refine S_list0 (T_store1 (v := (Value.bool true)) rfl rfl z4 rfl H41_ 7 rfl (Nat.le_of_ble_eq_true (by rfl)) ?_)
  intro w45_ S47_ H46_
  replace H46_ : Holds w45_ (cl b39_ 82 [(Value.int .i64 m), (Value.int .i64 s), (Value.bool true)] :: cl b24_ 23 [(Value.int .i64 m), (Value.int .i64 s)] :: cl b19_ 61 [(Value.int .i64 m), (Value.int .i64 s)] :: cl b8_ 82 [(Value.int .i64 m), (Value.int .i64 s), (Value.bool true)] :: ro R :: cl b1 25 [(Value.slice a 18 cap)] :: cl b2 23 [(Value.int .i64 m), (Value.int .i64 s)] :: cl b3 4 [(Value.bool true)] :: F) := H46_
  have S48_ := Same.trans S43_ S47_
  refine wpList_nil ?_
  refine R_0 rfl ?_
  have H49_ : Holds w45_ (ro R :: cl b1 25 [(Value.slice a 18 cap)] :: cl b2 23 [(Value.int .i64 m), (Value.int .i64 s)] :: cl b3 4 [(Value.bool true)] :: F) := (Holds.erase (Holds.erase (Holds.erase (Holds.erase (Holds.bring (Holds.bring (Holds.bring (Holds.bring H46_ 7 rfl) 7 rfl) 7 rfl) 7 rfl) 4) 4) 4) 4)
  exact ⟨_, [cl b1 25 [(Value.slice a 18 cap)], cl b2 23 [(Value.int .i64 m), (Value.int .i64 s)], cl b3 4 [(Value.bool true)]], rfl, ⟨rfl, rfl⟩, S48_, H49_⟩

set_option maxHeartbeats 400000 in
theorem bbIn18f (R : HP) (b1 b2 b3 : Nat) (x y : Int) (t0 : Bool) (v : Value) (m s : Int) (hm : 0 ≤ m) (hm2 : m < 9223372036854775808) (hs : 0 ≤ s) (hs2 : s < 9223372036854775808) (hv : RS R 1 v 18 (bytesV (rvb (IntKind.u64.wrap m) (IntKind.u64.wrap s) ++ [0]))) :
    Tri Try.prog 48 #[(Value.pointer (some ⟨b1, 0, none⟩)), (Value.pointer (some ⟨b2, 0, none⟩)), (Value.pointer (some ⟨b3, 0, none⟩))] R [cl b1 25 [v], cl b2 23 [.int .i64 x, .int .i64 y], cl b3 4 [.bool t0]] (fun r post => r = .tuple #[] ∧ post = [cl b1 25 [v], cl b2 23 [.int .i64 m, .int .i64 s], cl b3 4 [.bool false]]) := by
  obtain ⟨a, cap, rfl, hcap⟩ := RS.len hv
  refine Tri.into (n := 11) (al := [(Value.pointer (some ⟨b1, 0, none⟩)), (Value.pointer (some ⟨b2, 0, none⟩)), (Value.pointer (some ⟨b3, 0, none⟩))]) Try.func48 rfl Try.ntmps48 rfl rfl fun w F H => ?_
  replace H : Holds w (ro R :: cl b1 25 [(Value.slice a 18 cap)] :: cl b2 23 [(Value.int .i64 x), (Value.int .i64 y)] :: cl b3 4 [(Value.bool t0)] :: F) := H
  refine C_seq (fun K1_ hK1_ => ?_)
  refine C_reg ?_
  refine S_list (T_val (v := (Value.slice a 18 cap)) (x_load1 rfl Try.underlying25 rfl ((Holds.rd H 1 rfl) 0 (Value.slice a 18 cap) rfl)) ?_)
  refine S_list (T_call (al := [(Value.slice a 18 cap)]) (pre := []) (F := cl b1 25 [(Value.slice a 18 cap)] :: cl b2 23 [(Value.int .i64 x), (Value.int .i64 y)] :: cl b3 4 [(Value.bool t0)] :: F) rfl rfl cb49 (b2bk18f R (Value.slice a 18 cap) m s hm hm2 hs hs2 hv) H ?_)
  rintro v5_ p6_ w2_ ⟨rfl, rfl⟩ S4_ H3_
  replace H3_ : Holds w2_ (ro R :: cl b1 25 [(Value.slice a 18 cap)] :: cl b2 23 [(Value.int .i64 x), (Value.int .i64 y)] :: cl b3 4 [(Value.bool t0)] :: F) := H3_
  have S7_ := Same.trans (Same.refl w) S4_
  refine S_list (T_alloc z82 H3_ ?_)
  intro b8_ w9_ S11_ H10_
  replace H10_ : Holds w9_ (cl b8_ 82 [(Value.int .i64 0), (Value.int .i64 0), (Value.bool false)] :: ro R :: cl b1 25 [(Value.slice a 18 cap)] :: cl b2 23 [(Value.int .i64 x), (Value.int .i64 y)] :: cl b3 4 [(Value.bool t0)] :: F) := H10_
  have S12_ := Same.trans S7_ S11_
  refine S_list0 (T_storeN (vs := [(Value.int .i64 m), (Value.int .i64 s), (Value.bool false)]) rfl rfl z82 rfl (by simp [Value.oneCell']) H10_ 0 rfl (Nat.le_of_ble_eq_true (by rfl)) ?_)
  intro w13_ S15_ H14_
  replace H14_ : Holds w13_ (cl b8_ 82 [(Value.int .i64 m), (Value.int .i64 s), (Value.bool false)] :: ro R :: cl b1 25 [(Value.slice a 18 cap)] :: cl b2 23 [(Value.int .i64 x), (Value.int .i64 y)] :: cl b3 4 [(Value.bool t0)] :: F) := H14_
  have S16_ := Same.trans S12_ S15_
  refine wpList_nil ?_
  refine (X_then (hK1_ _ _ ?_))
  clear hK1_
  refine C_seq (fun K17_ hK17_ => ?_)
  refine C_reg ?_
  refine S_list (T_val (v := (Value.pointer (some ⟨b8_, 0, none⟩))) (by kernel_rfl) ?_)
  refine S_list (T_val (v := (Value.agg #[(Value.int .i64 m), (Value.int .i64 s)])) (x_loadN (vs := [(Value.int .i64 m), (Value.int .i64 s)]) rfl Try.underlying61 rfl z61 rfl (Rd.cells (Holds.rd H14_ 0 rfl) 0 rfl)) ?_)
  refine S_list (T_callW (al := [(Value.agg #[(Value.int .i64 m), (Value.int .i64 s)])]) rfl rfl cb50 (Calls.into (n := 8) (al := [(Value.agg #[(Value.int .i64 m), (Value.int .i64 s)])]) Try.func50 rfl Try.ntmps50 rfl rfl ?_))
  refine C_seq (fun K18_ hK18_ => ?_)
  refine C_reg ?_
  refine S_list (T_box (v := (Value.agg #[(Value.int .i64 m), (Value.int .i64 s)])) rfl H14_ ?_)
  intro b19_ w20_ S22_ H21_
  replace H21_ : Holds w20_ (cl b19_ 61 [(Value.int .i64 m), (Value.int .i64 s)] :: cl b8_ 82 [(Value.int .i64 m), (Value.int .i64 s), (Value.bool false)] :: ro R :: cl b1 25 [(Value.slice a 18 cap)] :: cl b2 23 [(Value.int .i64 x), (Value.int .i64 y)] :: cl b3 4 [(Value.bool t0)] :: F) := H21_
  have S23_ := Same.trans S16_ S22_
  refine S_list (T_alloc z23 H21_ ?_)
  intro b24_ w25_ S27_ H26_
  replace H26_ : Holds w25_ (cl b24_ 23 [(Value.int .i64 0), (Value.int .i64 0)] :: cl b19_ 61 [(Value.int .i64 m), (Value.int .i64 s)] :: cl b8_ 82 [(Value.int .i64 m), (Value.int .i64 s), (Value.bool false)] :: ro R :: cl b1 25 [(Value.slice a 18 cap)] :: cl b2 23 [(Value.int .i64 x), (Value.int .i64 y)] :: cl b3 4 [(Value.bool t0)] :: F) := H26_
  have S28_ := Same.trans S23_ S27_
  refine wpList_nil ?_
  refine (X_then (hK18_ _ _ ?_))
  clear hK18_
  refine C_seq (fun K29_ hK29_ => ?_)
  refine C_reg ?_
  refine S_list (T_val (v := (Value.pointer (some ⟨b19_, 0, none⟩))) (by kernel_rfl) ?_)
  refine S_list (T_val (v := (Value.int .i64 m)) (x_load1 rfl Try.underlying2 rfl ((Holds.rd H26_ 1 rfl) 0 (Value.int .i64 m) rfl)) ?_)
  refine S_list (T_val (v := (Value.pointer (some ⟨b19_, 1, none⟩))) (by kernel_rfl) ?_)
  refine S_list (T_val (v := (Value.int .i64 s)) (x_load1 rfl Try.underlying2 rfl ((Holds.rd H26_ 1 rfl) 1 (Value.int .i64 s) rfl)) ?_)
  refine S_list (T_val (v := (Value.agg #[(Value.int .i64 m), (Value.int .i64 s)])) (by kernel_rfl) ?_)
  refine S_list0 (T_storeN (vs := [(Value.int .i64 m), (Value.int .i64 s)]) rfl rfl z23 rfl (by simp [Value.oneCell']) H26_ 0 rfl (Nat.le_of_ble_eq_true (by rfl)) ?_)
  intro w30_ S32_ H31_
  replace H31_ : Holds w30_ (cl b24_ 23 [(Value.int .i64 m), (Value.int .i64 s)] :: cl b19_ 61 [(Value.int .i64 m), (Value.int .i64 s)] :: cl b8_ 82 [(Value.int .i64 m), (Value.int .i64 s), (Value.bool false)] :: ro R :: cl b1 25 [(Value.slice a 18 cap)] :: cl b2 23 [(Value.int .i64 x), (Value.int .i64 y)] :: cl b3 4 [(Value.bool t0)] :: F) := H31_
  have S33_ := Same.trans S28_ S32_
  refine wpList_nil ?_
  refine (X_then (hK29_ _ _ ?_))
  clear hK29_
  refine C_ret ?_
  refine R_any (v := (Value.agg #[(Value.int .i64 m), (Value.int .i64 s)])) (run_results1 rfl ⟨_, rfl, load_resN Try.underlying23 rfl z23 rfl (vs := [(Value.int .i64 m), (Value.int .i64 s)]) (Holds.cl_cells H31_ 0 rfl 0 rfl)⟩) ⟨_, rfl, ?_⟩
  refine S_list0 (T_storeN (vs := [(Value.int .i64 m), (Value.int .i64 s)]) rfl rfl z23 rfl (by simp [Value.oneCell']) H31_ 5 rfl (Nat.le_of_ble_eq_true (by rfl)) ?_)
  intro w34_ S36_ H35_
  replace H35_ : Holds w34_ (cl b24_ 23 [(Value.int .i64 m), (Value.int .i64 s)] :: cl b19_ 61 [(Value.int .i64 m), (Value.int .i64 s)] :: cl b8_ 82 [(Value.int .i64 m), (Value.int .i64 s), (Value.bool false)] :: ro R :: cl b1 25 [(Value.slice a 18 cap)] :: cl b2 23 [(Value.int .i64 m), (Value.int .i64 s)] :: cl b3 4 [(Value.bool t0)] :: F) := H35_
  have S37_ := Same.trans S33_ S36_
  refine wpList_nil ?_
  refine (X_then (hK17_ _ _ ?_))
  clear hK17_
  refine C_reg ?_
  refine S_list (T_val (v := (Value.agg #[(Value.int .i64 m), (Value.int .i64 s), (Value.bool false)])) (x_loadN (vs := [(Value.int .i64 m), (Value.int .i64 s), (Value.bool false)]) rfl Try.underlying82 rfl z82 rfl (Rd.cells (Holds.rd H35_ 2 rfl) 0 rfl)) ?_)
  refine S_list (T_callW (al := [(Value.agg #[(Value.int .i64 m), (Value.int .i64 s), (Value.bool false)])]) rfl rfl cb51 (Calls.into (n := 5) (al := [(Value.agg #[(Value.int .i64 m), (Value.int .i64 s), (Value.bool false)])]) Try.func51 rfl Try.ntmps51 rfl rfl ?_))
  refine C_seq (fun K38_ hK38_ => ?_)
  refine C_reg ?_
  refine S_list (T_box (v := (Value.agg #[(Value.int .i64 m), (Value.int .i64 s), (Value.bool false)])) rfl H35_ ?_)
  intro b39_ w40_ S42_ H41_
  replace H41_ : Holds w40_ (cl b39_ 82 [(Value.int .i64 m), (Value.int .i64 s), (Value.bool false)] :: cl b24_ 23 [(Value.int .i64 m), (Value.int .i64 s)] :: cl b19_ 61 [(Value.int .i64 m), (Value.int .i64 s)] :: cl b8_ 82 [(Value.int .i64 m), (Value.int .i64 s), (Value.bool false)] :: ro R :: cl b1 25 [(Value.slice a 18 cap)] :: cl b2 23 [(Value.int .i64 m), (Value.int .i64 s)] :: cl b3 4 [(Value.bool t0)] :: F) := H41_
  have S43_ := Same.trans S37_ S42_
  refine S_list (T_val (v := (Value.bool false)) (x_assign rfl) ?_)
  refine wpList_nil ?_
  refine (X_then (hK38_ _ _ ?_))
  clear hK38_
  refine C_seq (fun K44_ hK44_ => ?_)
  refine C_reg ?_
  refine S_list (T_val (v := (Value.pointer (some ⟨b39_, 2, none⟩))) (by kernel_rfl) ?_)
  refine S_list (T_val (v := (Value.bool false)) (x_load1 rfl Try.underlying4 rfl ((Holds.rd H41_ 0 rfl) 2 (Value.bool false) rfl)) ?_)
  refine S_list (T_val (v := (Value.bool false)) (x_assign rfl) ?_)
  refine wpList_nil ?_
  refine (X_then (hK44_ _ _ ?_))
  clear hK44_
  refine C_ret ?_
  refine R_any (v := (Value.bool false)) (run_results1 rfl rfl) ⟨_, rfl, ?_⟩
  refine S_list0 (T_store1 (v := (Value.bool false)) rfl rfl z4 rfl H41_ 7 rfl (Nat.le_of_ble_eq_true (by rfl)) ?_)
  intro w45_ S47_ H46_
  replace H46_ : Holds w45_ (cl b39_ 82 [(Value.int .i64 m), (Value.int .i64 s), (Value.bool false)] :: cl b24_ 23 [(Value.int .i64 m), (Value.int .i64 s)] :: cl b19_ 61 [(Value.int .i64 m), (Value.int .i64 s)] :: cl b8_ 82 [(Value.int .i64 m), (Value.int .i64 s), (Value.bool false)] :: ro R :: cl b1 25 [(Value.slice a 18 cap)] :: cl b2 23 [(Value.int .i64 m), (Value.int .i64 s)] :: cl b3 4 [(Value.bool false)] :: F) := H46_
  have S48_ := Same.trans S43_ S47_
  refine wpList_nil ?_
  refine R_0 rfl ?_
  have H49_ : Holds w45_ (ro R :: cl b1 25 [(Value.slice a 18 cap)] :: cl b2 23 [(Value.int .i64 m), (Value.int .i64 s)] :: cl b3 4 [(Value.bool false)] :: F) := (Holds.erase (Holds.erase (Holds.erase (Holds.erase (Holds.bring (Holds.bring (Holds.bring (Holds.bring H46_ 7 rfl) 7 rfl) 7 rfl) 7 rfl) 4) 4) 4) 4)
  exact ⟨_, [cl b1 25 [(Value.slice a 18 cap)], cl b2 23 [(Value.int .i64 m), (Value.int .i64 s)], cl b3 4 [(Value.bool false)]], rfl, ⟨rfl, rfl⟩, S48_, H49_⟩

set_option maxHeartbeats 400000 in
theorem bytesBucket17 (R : HP) (v : Value) (m s : Int) (hm : 0 ≤ m) (hm2 : m < 9223372036854775808) (hs : 0 ≤ s) (hs2 : s < 9223372036854775808) (hv : RS R 1 v 17 (bytesV (rvb (IntKind.u64.wrap m) (IntKind.u64.wrap s) ++ []))) :
    Tri Try.prog 24 #[v] R [] (fun r post => r = .tuple #[.agg #[.int .i64 m, .int .i64 s], .bool false, .bool true] ∧ post = []) := by
  obtain ⟨a, cap, rfl, hcap⟩ := RS.len hv
  refine Tri.into (n := 14) (al := [(Value.slice a 17 cap)]) Try.func24 rfl Try.ntmps24 rfl rfl fun w F H => ?_
  replace H : Holds w (ro R :: F) := H
  refine C_seq (fun K1_ hK1_ => ?_)
  refine C_reg ?_
  refine S_list (T_box (v := (Value.slice a 17 cap)) rfl H ?_)
  intro b2_ w3_ S5_ H4_
  replace H4_ : Holds w3_ (cl b2_ 25 [(Value.slice a 17 cap)] :: ro R :: F) := H4_
  have S6_ := Same.trans (Same.refl w) S5_
  refine S_list (T_alloc z23 H4_ ?_)
  intro b7_ w8_ S10_ H9_
  replace H9_ : Holds w8_ (cl b7_ 23 [(Value.int .i64 0), (Value.int .i64 0)] :: cl b2_ 25 [(Value.slice a 17 cap)] :: ro R :: F) := H9_
  have S11_ := Same.trans S6_ S10_
  refine S_list (T_val (v := (Value.bool false)) (x_assign rfl) ?_)
  refine S_list (T_val (v := (Value.bool false)) (x_assign rfl) ?_)
  refine wpList_nil ?_
  refine (X_then (hK1_ _ _ ?_))
  clear hK1_
  refine C_seq (fun K12_ hK12_ => ?_)
  refine C_reg ?_
  refine S_list (T_val (v := (Value.agg #[(Value.int .i64 0), (Value.int .i64 0)])) (by kernel_rfl) ?_)
  refine S_list (T_alloc z23 H9_ ?_)
  intro b13_ w14_ S16_ H15_
  replace H15_ : Holds w14_ (cl b13_ 23 [(Value.int .i64 0), (Value.int .i64 0)] :: cl b7_ 23 [(Value.int .i64 0), (Value.int .i64 0)] :: cl b2_ 25 [(Value.slice a 17 cap)] :: ro R :: F) := H15_
  have S17_ := Same.trans S11_ S16_
  refine S_list0 (T_storeN (vs := [(Value.int .i64 0), (Value.int .i64 0)]) rfl rfl z23 rfl (by simp [Value.oneCell']) H15_ 0 rfl (Nat.le_of_ble_eq_true (by rfl)) ?_)
  intro w18_ S20_ H19_
  replace H19_ : Holds w18_ (cl b13_ 23 [(Value.int .i64 0), (Value.int .i64 0)] :: cl b7_ 23 [(Value.int .i64 0), (Value.int .i64 0)] :: cl b2_ 25 [(Value.slice a 17 cap)] :: ro R :: F) := H19_
  have S21_ := Same.trans S17_ S20_
  refine wpList_nil ?_
  refine (X_then (hK12_ _ _ ?_))
  clear hK12_
  refine C_seq (fun K22_ hK22_ => ?_)
  refine C_reg ?_
  refine S_list (T_alloc z4 H19_ ?_)
  intro b23_ w24_ S26_ H25_
  replace H25_ : Holds w24_ (cl b23_ 4 [(Value.bool false)] :: cl b13_ 23 [(Value.int .i64 0), (Value.int .i64 0)] :: cl b7_ 23 [(Value.int .i64 0), (Value.int .i64 0)] :: cl b2_ 25 [(Value.slice a 17 cap)] :: ro R :: F) := H25_
  have S27_ := Same.trans S21_ S26_
  refine S_list0 (T_store1 (v := (Value.bool false)) rfl rfl z4 rfl H25_ 0 rfl (Nat.le_of_ble_eq_true (by rfl)) ?_)
  intro w28_ S30_ H29_
  replace H29_ : Holds w28_ (cl b23_ 4 [(Value.bool false)] :: cl b13_ 23 [(Value.int .i64 0), (Value.int .i64 0)] :: cl b7_ 23 [(Value.int .i64 0), (Value.int .i64 0)] :: cl b2_ 25 [(Value.slice a 17 cap)] :: ro R :: F) := H29_
  have S31_ := Same.trans S27_ S30_
  refine wpList_nil ?_
  refine (X_then (hK22_ _ _ ?_))
  clear hK22_
  refine C_seq (fun K32_ hK32_ => ?_)
  refine C_reg ?_
  refine S_list (T_val (v := (Value.func (.func 48) #[] #[(Value.pointer (some ⟨b2_, 0, none⟩)), (Value.pointer (some ⟨b13_, 0, none⟩)), (Value.pointer (some ⟨b23_, 0, none⟩))])) (by kernel_rfl) ?_)
  have H33_ : Holds w28_ (ro R :: cl b2_ 25 [(Value.slice a 17 cap)] :: cl b13_ 23 [(Value.int .i64 0), (Value.int .i64 0)] :: cl b23_ 4 [(Value.bool false)] :: cl b7_ 23 [(Value.int .i64 0), (Value.int .i64 0)] :: F) := (Holds.bring (Holds.bring (Holds.bring (Holds.bring H29_ 0 rfl) 1 rfl) 3 rfl) 4 rfl)
  refine S_list (T_call (al := [(Value.func (.func 48) #[] #[(Value.pointer (some ⟨b2_, 0, none⟩)), (Value.pointer (some ⟨b13_, 0, none⟩)), (Value.pointer (some ⟨b23_, 0, none⟩))])]) (pre := [cl b2_ 25 [(Value.slice a 17 cap)], cl b13_ 23 [(Value.int .i64 0), (Value.int .i64 0)], cl b23_ 4 [(Value.bool false)]]) (F := cl b7_ 23 [(Value.int .i64 0), (Value.int .i64 0)] :: F) rfl rfl cb47 (fine_ret 48 [(Value.pointer (some ⟨b2_, 0, none⟩)), (Value.pointer (some ⟨b13_, 0, none⟩)), (Value.pointer (some ⟨b23_, 0, none⟩))] R [cl b2_ 25 [(Value.slice a 17 cap)], cl b13_ 23 [(Value.int .i64 0), (Value.int .i64 0)], cl b23_ 4 [(Value.bool false)]] _ cb48 (bbIn17 R b2_ b13_ b23_ 0 0 false (Value.slice a 17 cap) m s hm hm2 hs hs2 hv)) H33_ ?_)
  rintro v37_ p38_ w34_ ⟨rfl, _, ⟨rfl, rfl⟩⟩ S36_ H35_
  replace H35_ : Holds w34_ (ro R :: cl b2_ 25 [(Value.slice a 17 cap)] :: cl b13_ 23 [(Value.int .i64 m), (Value.int .i64 s)] :: cl b23_ 4 [(Value.bool false)] :: cl b7_ 23 [(Value.int .i64 0), (Value.int .i64 0)] :: F) := H35_
  have S39_ := Same.trans S31_ S36_
  refine S_list (T_val (v := (Value.bool true)) (x_assign rfl) ?_)
  refine wpList_nil ?_
  refine (X_then (hK32_ _ _ ?_))
  clear hK32_
  refine C_seq (fun K40_ hK40_ => ?_)
  refine A_start (S := fun w => Rd b13_ [(Value.int .i64 m), (Value.int .i64 s)] w ∧ Rd b23_ [(Value.bool false)] w ∧ Sub R (hp w)) (N := 6) foll rfl rfl ?_
  have H42_ : Holds w34_.drew (ro R :: cl b2_ 25 [(Value.slice a 17 cap)] :: cl b13_ 23 [(Value.int .i64 m), (Value.int .i64 s)] :: cl b23_ 4 [(Value.bool false)] :: cl b7_ 23 [(Value.int .i64 0), (Value.int .i64 0)] :: F) := H35_
  refine A_take 0 (ls' := #[true, false, false, false, false, false]) (v := (Value.agg #[(Value.int .i64 m), (Value.int .i64 s)])) rfl (by kernel_rfl) (by kernel_rfl) (by kernel_rfl) (by kernel_rfl) (fun _ _ _ h => h) (fun w hS => x_loadN (vs := [(Value.int .i64 m), (Value.int .i64 s)]) rfl Try.underlying23 rfl z23 rfl (Rd.cells hS.1 0 rfl)) ⟨Holds.rd H42_ 2 rfl, Holds.rd H42_ 3 rfl, Holds.ro_at H42_ 0 rfl⟩ ?_
  refine A_take 1 (ls' := #[true, true, false, false, false, false]) (v := (Value.bool false)) rfl (by kernel_rfl) (by kernel_rfl) (by kernel_rfl) (by kernel_rfl) (fun _ _ _ h => h) (fun w hS => x_load1 rfl Try.underlying4 rfl (hS.2.1 0 (Value.bool false) rfl)) ⟨Holds.rd H42_ 2 rfl, Holds.rd H42_ 3 rfl, Holds.ro_at H42_ 0 rfl⟩ ?_
  refine A_take 2 (ls' := #[true, true, true, false, false, false]) (v := (Value.bool true)) rfl (by kernel_rfl) (by kernel_rfl) (by kernel_rfl) (by kernel_rfl) (fun _ _ _ h => h) (fun w hS => x_move rfl) ⟨Holds.rd H42_ 2 rfl, Holds.rd H42_ 3 rfl, Holds.ro_at H42_ 0 rfl⟩ ?_
  refine A_ready (i := 3) (rs := []) (by kernel_rfl) ?_
  refine AllR.cons ?_ AllR.nil
  refine A_op0 (ls' := #[true, true, true, true, false, false]) rfl (by kernel_rfl) (T_storeN (vs := [(Value.int .i64 m), (Value.int .i64 s)]) rfl rfl z23 rfl (by simp [Value.oneCell']) H42_ 4 rfl (Nat.le_of_ble_eq_true (by rfl)) ?_)
  intro w43_ S45_ H44_
  replace H44_ : Holds w43_ (ro R :: cl b2_ 25 [(Value.slice a 17 cap)] :: cl b13_ 23 [(Value.int .i64 m), (Value.int .i64 s)] :: cl b23_ 4 [(Value.bool false)] :: cl b7_ 23 [(Value.int .i64 m), (Value.int .i64 s)] :: F) := H44_
  have S46_ := Same.trans (Same.trans S39_ (Same.drew _)) S45_
  refine ⟨⟨Holds.rd H44_ 2 rfl, Holds.rd H44_ 3 rfl, Holds.ro_at H44_ 0 rfl⟩, ?_⟩
  refine A_take 4 (ls' := #[true, true, true, true, true, false]) (v := (Value.bool false)) rfl (by kernel_rfl) (by kernel_rfl) (by kernel_rfl) (by kernel_rfl) (fun _ _ _ h => h) (fun w hS => x_assign rfl) ⟨Holds.rd H44_ 2 rfl, Holds.rd H44_ 3 rfl, Holds.ro_at H44_ 0 rfl⟩ ?_
  refine A_take 5 (ls' := #[true, true, true, true, true, true]) (v := (Value.bool true)) rfl (by kernel_rfl) (by kernel_rfl) (by kernel_rfl) (by kernel_rfl) (fun _ _ _ h => h) (fun w hS => x_assign rfl) ⟨Holds.rd H44_ 2 rfl, Holds.rd H44_ 3 rfl, Holds.ro_at H44_ 0 rfl⟩ ?_
  refine A_done (by kernel_rfl) ?_
  refine (X_then (hK40_ _ _ ?_))
  clear hK40_
  refine C_ret ?_
  refine R_any (v := (Value.tuple #[(Value.agg #[(Value.int .i64 m), (Value.int .i64 s)]), (Value.bool false), (Value.bool true)])) (run_results3 rfl ⟨_, rfl, load_resN Try.underlying23 rfl z23 rfl (vs := [(Value.int .i64 m), (Value.int .i64 s)]) (Holds.cl_cells H44_ 4 rfl 0 rfl)⟩ rfl rfl) ?_
  have H47_ : Holds w43_ (ro R :: F) := (Holds.erase (Holds.erase (Holds.erase (Holds.erase (Holds.bring H44_ 0 rfl) 1) 1) 1) 1)
  exact ⟨_, [], rfl, ⟨rfl, rfl⟩, S46_, H47_⟩

set_option maxHeartbeats 400000 in
theorem bytesBucket18t (R : HP) (v : Value) (m s : Int) (hm : 0 ≤ m) (hm2 : m < 9223372036854775808) (hs : 0 ≤ s) (hs2 : s < 9223372036854775808) (hv : RS R 1 v 18 (bytesV (rvb (IntKind.u64.wrap m) (IntKind.u64.wrap s) ++ [116]))) :
    Tri Try.prog 24 #[v] R [] (fun r post => r = .tuple #[.agg #[.int .i64 m, .int .i64 s], .bool true, .bool true] ∧ post = []) := by
  obtain ⟨a, cap, rfl, hcap⟩ := RS.len hv
  refine Tri.into (n := 14) (al := [(Value.slice a 18 cap)]) Try.func24 rfl Try.ntmps24 rfl rfl fun w F H => ?_
  replace H : Holds w (ro R :: F) := H
  refine C_seq (fun K1_ hK1_ => ?_)
  refine C_reg ?_
  refine S_list (T_box (v := (Value.slice a 18 cap)) rfl H ?_)
  intro b2_ w3_ S5_ H4_
  replace H4_ : Holds w3_ (cl b2_ 25 [(Value.slice a 18 cap)] :: ro R :: F) := H4_
  have S6_ := Same.trans (Same.refl w) S5_
  refine S_list (T_alloc z23 H4_ ?_)
  intro b7_ w8_ S10_ H9_
  replace H9_ : Holds w8_ (cl b7_ 23 [(Value.int .i64 0), (Value.int .i64 0)] :: cl b2_ 25 [(Value.slice a 18 cap)] :: ro R :: F) := H9_
  have S11_ := Same.trans S6_ S10_
  refine S_list (T_val (v := (Value.bool false)) (x_assign rfl) ?_)
  refine S_list (T_val (v := (Value.bool false)) (x_assign rfl) ?_)
  refine wpList_nil ?_
  refine (X_then (hK1_ _ _ ?_))
  clear hK1_
  refine C_seq (fun K12_ hK12_ => ?_)
  refine C_reg ?_
  refine S_list (T_val (v := (Value.agg #[(Value.int .i64 0), (Value.int .i64 0)])) (by kernel_rfl) ?_)
  refine S_list (T_alloc z23 H9_ ?_)
  intro b13_ w14_ S16_ H15_
  replace H15_ : Holds w14_ (cl b13_ 23 [(Value.int .i64 0), (Value.int .i64 0)] :: cl b7_ 23 [(Value.int .i64 0), (Value.int .i64 0)] :: cl b2_ 25 [(Value.slice a 18 cap)] :: ro R :: F) := H15_
  have S17_ := Same.trans S11_ S16_
  refine S_list0 (T_storeN (vs := [(Value.int .i64 0), (Value.int .i64 0)]) rfl rfl z23 rfl (by simp [Value.oneCell']) H15_ 0 rfl (Nat.le_of_ble_eq_true (by rfl)) ?_)
  intro w18_ S20_ H19_
  replace H19_ : Holds w18_ (cl b13_ 23 [(Value.int .i64 0), (Value.int .i64 0)] :: cl b7_ 23 [(Value.int .i64 0), (Value.int .i64 0)] :: cl b2_ 25 [(Value.slice a 18 cap)] :: ro R :: F) := H19_
  have S21_ := Same.trans S17_ S20_
  refine wpList_nil ?_
  refine (X_then (hK12_ _ _ ?_))
  clear hK12_
  refine C_seq (fun K22_ hK22_ => ?_)
  refine C_reg ?_
  refine S_list (T_alloc z4 H19_ ?_)
  intro b23_ w24_ S26_ H25_
  replace H25_ : Holds w24_ (cl b23_ 4 [(Value.bool false)] :: cl b13_ 23 [(Value.int .i64 0), (Value.int .i64 0)] :: cl b7_ 23 [(Value.int .i64 0), (Value.int .i64 0)] :: cl b2_ 25 [(Value.slice a 18 cap)] :: ro R :: F) := H25_
  have S27_ := Same.trans S21_ S26_
  refine S_list0 (T_store1 (v := (Value.bool false)) rfl rfl z4 rfl H25_ 0 rfl (Nat.le_of_ble_eq_true (by rfl)) ?_)
  intro w28_ S30_ H29_
  replace H29_ : Holds w28_ (cl b23_ 4 [(Value.bool false)] :: cl b13_ 23 [(Value.int .i64 0), (Value.int .i64 0)] :: cl b7_ 23 [(Value.int .i64 0), (Value.int .i64 0)] :: cl b2_ 25 [(Value.slice a 18 cap)] :: ro R :: F) := H29_
  have S31_ := Same.trans S27_ S30_
  refine wpList_nil ?_
  refine (X_then (hK22_ _ _ ?_))
  clear hK22_
  refine C_seq (fun K32_ hK32_ => ?_)
  refine C_reg ?_
  refine S_list (T_val (v := (Value.func (.func 48) #[] #[(Value.pointer (some ⟨b2_, 0, none⟩)), (Value.pointer (some ⟨b13_, 0, none⟩)), (Value.pointer (some ⟨b23_, 0, none⟩))])) (by kernel_rfl) ?_)
  have H33_ : Holds w28_ (ro R :: cl b2_ 25 [(Value.slice a 18 cap)] :: cl b13_ 23 [(Value.int .i64 0), (Value.int .i64 0)] :: cl b23_ 4 [(Value.bool false)] :: cl b7_ 23 [(Value.int .i64 0), (Value.int .i64 0)] :: F) := (Holds.bring (Holds.bring (Holds.bring (Holds.bring H29_ 0 rfl) 1 rfl) 3 rfl) 4 rfl)
  refine S_list (T_call (al := [(Value.func (.func 48) #[] #[(Value.pointer (some ⟨b2_, 0, none⟩)), (Value.pointer (some ⟨b13_, 0, none⟩)), (Value.pointer (some ⟨b23_, 0, none⟩))])]) (pre := [cl b2_ 25 [(Value.slice a 18 cap)], cl b13_ 23 [(Value.int .i64 0), (Value.int .i64 0)], cl b23_ 4 [(Value.bool false)]]) (F := cl b7_ 23 [(Value.int .i64 0), (Value.int .i64 0)] :: F) rfl rfl cb47 (fine_ret 48 [(Value.pointer (some ⟨b2_, 0, none⟩)), (Value.pointer (some ⟨b13_, 0, none⟩)), (Value.pointer (some ⟨b23_, 0, none⟩))] R [cl b2_ 25 [(Value.slice a 18 cap)], cl b13_ 23 [(Value.int .i64 0), (Value.int .i64 0)], cl b23_ 4 [(Value.bool false)]] _ cb48 (bbIn18t R b2_ b13_ b23_ 0 0 false (Value.slice a 18 cap) m s hm hm2 hs hs2 hv)) H33_ ?_)
  rintro v37_ p38_ w34_ ⟨rfl, _, ⟨rfl, rfl⟩⟩ S36_ H35_
  replace H35_ : Holds w34_ (ro R :: cl b2_ 25 [(Value.slice a 18 cap)] :: cl b13_ 23 [(Value.int .i64 m), (Value.int .i64 s)] :: cl b23_ 4 [(Value.bool true)] :: cl b7_ 23 [(Value.int .i64 0), (Value.int .i64 0)] :: F) := H35_
  have S39_ := Same.trans S31_ S36_
  refine S_list (T_val (v := (Value.bool true)) (x_assign rfl) ?_)
  refine wpList_nil ?_
  refine (X_then (hK32_ _ _ ?_))
  clear hK32_
  refine C_seq (fun K40_ hK40_ => ?_)
  refine A_start (S := fun w => Rd b13_ [(Value.int .i64 m), (Value.int .i64 s)] w ∧ Rd b23_ [(Value.bool true)] w ∧ Sub R (hp w)) (N := 6) foll rfl rfl ?_
  have H42_ : Holds w34_.drew (ro R :: cl b2_ 25 [(Value.slice a 18 cap)] :: cl b13_ 23 [(Value.int .i64 m), (Value.int .i64 s)] :: cl b23_ 4 [(Value.bool true)] :: cl b7_ 23 [(Value.int .i64 0), (Value.int .i64 0)] :: F) := H35_
  refine A_take 0 (ls' := #[true, false, false, false, false, false]) (v := (Value.agg #[(Value.int .i64 m), (Value.int .i64 s)])) rfl (by kernel_rfl) (by kernel_rfl) (by kernel_rfl) (by kernel_rfl) (fun _ _ _ h => h) (fun w hS => x_loadN (vs := [(Value.int .i64 m), (Value.int .i64 s)]) rfl Try.underlying23 rfl z23 rfl (Rd.cells hS.1 0 rfl)) ⟨Holds.rd H42_ 2 rfl, Holds.rd H42_ 3 rfl, Holds.ro_at H42_ 0 rfl⟩ ?_
  refine A_take 1 (ls' := #[true, true, false, false, false, false]) (v := (Value.bool true)) rfl (by kernel_rfl) (by kernel_rfl) (by kernel_rfl) (by kernel_rfl) (fun _ _ _ h => h) (fun w hS => x_load1 rfl Try.underlying4 rfl (hS.2.1 0 (Value.bool true) rfl)) ⟨Holds.rd H42_ 2 rfl, Holds.rd H42_ 3 rfl, Holds.ro_at H42_ 0 rfl⟩ ?_
  refine A_take 2 (ls' := #[true, true, true, false, false, false]) (v := (Value.bool true)) rfl (by kernel_rfl) (by kernel_rfl) (by kernel_rfl) (by kernel_rfl) (fun _ _ _ h => h) (fun w hS => x_move rfl) ⟨Holds.rd H42_ 2 rfl, Holds.rd H42_ 3 rfl, Holds.ro_at H42_ 0 rfl⟩ ?_
  refine A_ready (i := 3) (rs := []) (by kernel_rfl) ?_
  refine AllR.cons ?_ AllR.nil
  refine A_op0 (ls' := #[true, true, true, true, false, false]) rfl (by kernel_rfl) (T_storeN (vs := [(Value.int .i64 m), (Value.int .i64 s)]) rfl rfl z23 rfl (by simp [Value.oneCell']) H42_ 4 rfl (Nat.le_of_ble_eq_true (by rfl)) ?_)
  intro w43_ S45_ H44_
  replace H44_ : Holds w43_ (ro R :: cl b2_ 25 [(Value.slice a 18 cap)] :: cl b13_ 23 [(Value.int .i64 m), (Value.int .i64 s)] :: cl b23_ 4 [(Value.bool true)] :: cl b7_ 23 [(Value.int .i64 m), (Value.int .i64 s)] :: F) := H44_
  have S46_ := Same.trans (Same.trans S39_ (Same.drew _)) S45_
  refine ⟨⟨Holds.rd H44_ 2 rfl, Holds.rd H44_ 3 rfl, Holds.ro_at H44_ 0 rfl⟩, ?_⟩
  refine A_take 4 (ls' := #[true, true, true, true, true, false]) (v := (Value.bool true)) rfl (by kernel_rfl) (by kernel_rfl) (by kernel_rfl) (by kernel_rfl) (fun _ _ _ h => h) (fun w hS => x_assign rfl) ⟨Holds.rd H44_ 2 rfl, Holds.rd H44_ 3 rfl, Holds.ro_at H44_ 0 rfl⟩ ?_
  refine A_take 5 (ls' := #[true, true, true, true, true, true]) (v := (Value.bool true)) rfl (by kernel_rfl) (by kernel_rfl) (by kernel_rfl) (by kernel_rfl) (fun _ _ _ h => h) (fun w hS => x_assign rfl) ⟨Holds.rd H44_ 2 rfl, Holds.rd H44_ 3 rfl, Holds.ro_at H44_ 0 rfl⟩ ?_
  refine A_done (by kernel_rfl) ?_
  refine (X_then (hK40_ _ _ ?_))
  clear hK40_
  refine C_ret ?_
  refine R_any (v := (Value.tuple #[(Value.agg #[(Value.int .i64 m), (Value.int .i64 s)]), (Value.bool true), (Value.bool true)])) (run_results3 rfl ⟨_, rfl, load_resN Try.underlying23 rfl z23 rfl (vs := [(Value.int .i64 m), (Value.int .i64 s)]) (Holds.cl_cells H44_ 4 rfl 0 rfl)⟩ rfl rfl) ?_
  have H47_ : Holds w43_ (ro R :: F) := (Holds.erase (Holds.erase (Holds.erase (Holds.erase (Holds.bring H44_ 0 rfl) 1) 1) 1) 1)
  exact ⟨_, [], rfl, ⟨rfl, rfl⟩, S46_, H47_⟩

set_option maxHeartbeats 400000 in
theorem bytesBucket18f (R : HP) (v : Value) (m s : Int) (hm : 0 ≤ m) (hm2 : m < 9223372036854775808) (hs : 0 ≤ s) (hs2 : s < 9223372036854775808) (hv : RS R 1 v 18 (bytesV (rvb (IntKind.u64.wrap m) (IntKind.u64.wrap s) ++ [0]))) :
    Tri Try.prog 24 #[v] R [] (fun r post => r = .tuple #[.agg #[.int .i64 m, .int .i64 s], .bool false, .bool true] ∧ post = []) := by
  obtain ⟨a, cap, rfl, hcap⟩ := RS.len hv
  refine Tri.into (n := 14) (al := [(Value.slice a 18 cap)]) Try.func24 rfl Try.ntmps24 rfl rfl fun w F H => ?_
  replace H : Holds w (ro R :: F) := H
  refine C_seq (fun K1_ hK1_ => ?_)
  refine C_reg ?_
  refine S_list (T_box (v := (Value.slice a 18 cap)) rfl H ?_)
  intro b2_ w3_ S5_ H4_
  replace H4_ : Holds w3_ (cl b2_ 25 [(Value.slice a 18 cap)] :: ro R :: F) := H4_
  have S6_ := Same.trans (Same.refl w) S5_
  refine S_list (T_alloc z23 H4_ ?_)
  intro b7_ w8_ S10_ H9_
  replace H9_ : Holds w8_ (cl b7_ 23 [(Value.int .i64 0), (Value.int .i64 0)] :: cl b2_ 25 [(Value.slice a 18 cap)] :: ro R :: F) := H9_
  have S11_ := Same.trans S6_ S10_
  refine S_list (T_val (v := (Value.bool false)) (x_assign rfl) ?_)
  refine S_list (T_val (v := (Value.bool false)) (x_assign rfl) ?_)
  refine wpList_nil ?_
  refine (X_then (hK1_ _ _ ?_))
  clear hK1_
  refine C_seq (fun K12_ hK12_ => ?_)
  refine C_reg ?_
  refine S_list (T_val (v := (Value.agg #[(Value.int .i64 0), (Value.int .i64 0)])) (by kernel_rfl) ?_)
  refine S_list (T_alloc z23 H9_ ?_)
  intro b13_ w14_ S16_ H15_
  replace H15_ : Holds w14_ (cl b13_ 23 [(Value.int .i64 0), (Value.int .i64 0)] :: cl b7_ 23 [(Value.int .i64 0), (Value.int .i64 0)] :: cl b2_ 25 [(Value.slice a 18 cap)] :: ro R :: F) := H15_
  have S17_ := Same.trans S11_ S16_
  refine S_list0 (T_storeN (vs := [(Value.int .i64 0), (Value.int .i64 0)]) rfl rfl z23 rfl (by simp [Value.oneCell']) H15_ 0 rfl (Nat.le_of_ble_eq_true (by rfl)) ?_)
  intro w18_ S20_ H19_
  replace H19_ : Holds w18_ (cl b13_ 23 [(Value.int .i64 0), (Value.int .i64 0)] :: cl b7_ 23 [(Value.int .i64 0), (Value.int .i64 0)] :: cl b2_ 25 [(Value.slice a 18 cap)] :: ro R :: F) := H19_
  have S21_ := Same.trans S17_ S20_
  refine wpList_nil ?_
  refine (X_then (hK12_ _ _ ?_))
  clear hK12_
  refine C_seq (fun K22_ hK22_ => ?_)
  refine C_reg ?_
  refine S_list (T_alloc z4 H19_ ?_)
  intro b23_ w24_ S26_ H25_
  replace H25_ : Holds w24_ (cl b23_ 4 [(Value.bool false)] :: cl b13_ 23 [(Value.int .i64 0), (Value.int .i64 0)] :: cl b7_ 23 [(Value.int .i64 0), (Value.int .i64 0)] :: cl b2_ 25 [(Value.slice a 18 cap)] :: ro R :: F) := H25_
  have S27_ := Same.trans S21_ S26_
  refine S_list0 (T_store1 (v := (Value.bool false)) rfl rfl z4 rfl H25_ 0 rfl (Nat.le_of_ble_eq_true (by rfl)) ?_)
  intro w28_ S30_ H29_
  replace H29_ : Holds w28_ (cl b23_ 4 [(Value.bool false)] :: cl b13_ 23 [(Value.int .i64 0), (Value.int .i64 0)] :: cl b7_ 23 [(Value.int .i64 0), (Value.int .i64 0)] :: cl b2_ 25 [(Value.slice a 18 cap)] :: ro R :: F) := H29_
  have S31_ := Same.trans S27_ S30_
  refine wpList_nil ?_
  refine (X_then (hK22_ _ _ ?_))
  clear hK22_
  refine C_seq (fun K32_ hK32_ => ?_)
  refine C_reg ?_
  refine S_list (T_val (v := (Value.func (.func 48) #[] #[(Value.pointer (some ⟨b2_, 0, none⟩)), (Value.pointer (some ⟨b13_, 0, none⟩)), (Value.pointer (some ⟨b23_, 0, none⟩))])) (by kernel_rfl) ?_)
  have H33_ : Holds w28_ (ro R :: cl b2_ 25 [(Value.slice a 18 cap)] :: cl b13_ 23 [(Value.int .i64 0), (Value.int .i64 0)] :: cl b23_ 4 [(Value.bool false)] :: cl b7_ 23 [(Value.int .i64 0), (Value.int .i64 0)] :: F) := (Holds.bring (Holds.bring (Holds.bring (Holds.bring H29_ 0 rfl) 1 rfl) 3 rfl) 4 rfl)
  refine S_list (T_call (al := [(Value.func (.func 48) #[] #[(Value.pointer (some ⟨b2_, 0, none⟩)), (Value.pointer (some ⟨b13_, 0, none⟩)), (Value.pointer (some ⟨b23_, 0, none⟩))])]) (pre := [cl b2_ 25 [(Value.slice a 18 cap)], cl b13_ 23 [(Value.int .i64 0), (Value.int .i64 0)], cl b23_ 4 [(Value.bool false)]]) (F := cl b7_ 23 [(Value.int .i64 0), (Value.int .i64 0)] :: F) rfl rfl cb47 (fine_ret 48 [(Value.pointer (some ⟨b2_, 0, none⟩)), (Value.pointer (some ⟨b13_, 0, none⟩)), (Value.pointer (some ⟨b23_, 0, none⟩))] R [cl b2_ 25 [(Value.slice a 18 cap)], cl b13_ 23 [(Value.int .i64 0), (Value.int .i64 0)], cl b23_ 4 [(Value.bool false)]] _ cb48 (bbIn18f R b2_ b13_ b23_ 0 0 false (Value.slice a 18 cap) m s hm hm2 hs hs2 hv)) H33_ ?_)
  rintro v37_ p38_ w34_ ⟨rfl, _, ⟨rfl, rfl⟩⟩ S36_ H35_
  replace H35_ : Holds w34_ (ro R :: cl b2_ 25 [(Value.slice a 18 cap)] :: cl b13_ 23 [(Value.int .i64 m), (Value.int .i64 s)] :: cl b23_ 4 [(Value.bool false)] :: cl b7_ 23 [(Value.int .i64 0), (Value.int .i64 0)] :: F) := H35_
  have S39_ := Same.trans S31_ S36_
  refine S_list (T_val (v := (Value.bool true)) (x_assign rfl) ?_)
  refine wpList_nil ?_
  refine (X_then (hK32_ _ _ ?_))
  clear hK32_
  refine C_seq (fun K40_ hK40_ => ?_)
  refine A_start (S := fun w => Rd b13_ [(Value.int .i64 m), (Value.int .i64 s)] w ∧ Rd b23_ [(Value.bool false)] w ∧ Sub R (hp w)) (N := 6) foll rfl rfl ?_
  have H42_ : Holds w34_.drew (ro R :: cl b2_ 25 [(Value.slice a 18 cap)] :: cl b13_ 23 [(Value.int .i64 m), (Value.int .i64 s)] :: cl b23_ 4 [(Value.bool false)] :: cl b7_ 23 [(Value.int .i64 0), (Value.int .i64 0)] :: F) := H35_
  refine A_take 0 (ls' := #[true, false, false, false, false, false]) (v := (Value.agg #[(Value.int .i64 m), (Value.int .i64 s)])) rfl (by kernel_rfl) (by kernel_rfl) (by kernel_rfl) (by kernel_rfl) (fun _ _ _ h => h) (fun w hS => x_loadN (vs := [(Value.int .i64 m), (Value.int .i64 s)]) rfl Try.underlying23 rfl z23 rfl (Rd.cells hS.1 0 rfl)) ⟨Holds.rd H42_ 2 rfl, Holds.rd H42_ 3 rfl, Holds.ro_at H42_ 0 rfl⟩ ?_
  refine A_take 1 (ls' := #[true, true, false, false, false, false]) (v := (Value.bool false)) rfl (by kernel_rfl) (by kernel_rfl) (by kernel_rfl) (by kernel_rfl) (fun _ _ _ h => h) (fun w hS => x_load1 rfl Try.underlying4 rfl (hS.2.1 0 (Value.bool false) rfl)) ⟨Holds.rd H42_ 2 rfl, Holds.rd H42_ 3 rfl, Holds.ro_at H42_ 0 rfl⟩ ?_
  refine A_take 2 (ls' := #[true, true, true, false, false, false]) (v := (Value.bool true)) rfl (by kernel_rfl) (by kernel_rfl) (by kernel_rfl) (by kernel_rfl) (fun _ _ _ h => h) (fun w hS => x_move rfl) ⟨Holds.rd H42_ 2 rfl, Holds.rd H42_ 3 rfl, Holds.ro_at H42_ 0 rfl⟩ ?_
  refine A_ready (i := 3) (rs := []) (by kernel_rfl) ?_
  refine AllR.cons ?_ AllR.nil
  refine A_op0 (ls' := #[true, true, true, true, false, false]) rfl (by kernel_rfl) (T_storeN (vs := [(Value.int .i64 m), (Value.int .i64 s)]) rfl rfl z23 rfl (by simp [Value.oneCell']) H42_ 4 rfl (Nat.le_of_ble_eq_true (by rfl)) ?_)
  intro w43_ S45_ H44_
  replace H44_ : Holds w43_ (ro R :: cl b2_ 25 [(Value.slice a 18 cap)] :: cl b13_ 23 [(Value.int .i64 m), (Value.int .i64 s)] :: cl b23_ 4 [(Value.bool false)] :: cl b7_ 23 [(Value.int .i64 m), (Value.int .i64 s)] :: F) := H44_
  have S46_ := Same.trans (Same.trans S39_ (Same.drew _)) S45_
  refine ⟨⟨Holds.rd H44_ 2 rfl, Holds.rd H44_ 3 rfl, Holds.ro_at H44_ 0 rfl⟩, ?_⟩
  refine A_take 4 (ls' := #[true, true, true, true, true, false]) (v := (Value.bool false)) rfl (by kernel_rfl) (by kernel_rfl) (by kernel_rfl) (by kernel_rfl) (fun _ _ _ h => h) (fun w hS => x_assign rfl) ⟨Holds.rd H44_ 2 rfl, Holds.rd H44_ 3 rfl, Holds.ro_at H44_ 0 rfl⟩ ?_
  refine A_take 5 (ls' := #[true, true, true, true, true, true]) (v := (Value.bool true)) rfl (by kernel_rfl) (by kernel_rfl) (by kernel_rfl) (by kernel_rfl) (fun _ _ _ h => h) (fun w hS => x_assign rfl) ⟨Holds.rd H44_ 2 rfl, Holds.rd H44_ 3 rfl, Holds.ro_at H44_ 0 rfl⟩ ?_
  refine A_done (by kernel_rfl) ?_
  refine (X_then (hK40_ _ _ ?_))
  clear hK40_
  refine C_ret ?_
  refine R_any (v := (Value.tuple #[(Value.agg #[(Value.int .i64 m), (Value.int .i64 s)]), (Value.bool false), (Value.bool true)])) (run_results3 rfl ⟨_, rfl, load_resN Try.underlying23 rfl z23 rfl (vs := [(Value.int .i64 m), (Value.int .i64 s)]) (Holds.cl_cells H44_ 4 rfl 0 rfl)⟩ rfl rfl) ?_
  have H47_ : Holds w43_ (ro R :: F) := (Holds.erase (Holds.erase (Holds.erase (Holds.erase (Holds.bring H44_ 0 rfl) 1) 1) 1) 1)
  exact ⟨_, [], rfl, ⟨rfl, rfl⟩, S46_, H47_⟩

set_option maxHeartbeats 400000 in
theorem tomb17 (R : HP) (v : Value) (m s : Int) (hv : RS R 1 v 17 (bytesV (rvb (IntKind.u64.wrap m) (IntKind.u64.wrap s) ++ []))) :
    Tri Try.prog 25 #[v] R [] (fun r post => r = .bool false ∧ post = []) := by
  obtain ⟨b, off, cap, rfl, hcap, hc⟩ := RS.at_ hv (by omega)
  refine Tri.into (n := 5) (al := [(Value.slice (some ⟨b, off, none⟩) 17 cap)]) Try.func25 rfl Try.ntmps25 rfl rfl fun w F H => ?_
  replace H : Holds w (ro R :: F) := H
  refine C_seq (fun K1_ hK1_ => ?_)
  refine C_reg ?_
  refine S_list (T_val (v := (Value.bool false)) (x_assign rfl) ?_)
  refine wpList_nil ?_
  refine (X_then (hK1_ _ _ ?_))
  clear hK1_
  refine C_seq (fun K2_ hK2_ => ?_)
  refine C_reg ?_
  refine S_list (T_val (v := (Value.slice (some ⟨b, off, none⟩) 17 cap)) (x_move rfl) ?_)
  refine S_list (T_callW (al := [(Value.slice (some ⟨b, off, none⟩) 17 cap)]) rfl rfl cb52 (Calls.into (n := 5) (al := [(Value.slice (some ⟨b, off, none⟩) 17 cap)]) Try.func52 rfl Try.ntmps52 rfl rfl ?_))
  refine C_seq (fun K3_ hK3_ => ?_)
  refine C_reg ?_
  refine S_list (T_val (v := (Value.bool false)) (x_assign rfl) ?_)
  refine wpList_nil ?_
  refine (X_then (hK3_ _ _ ?_))
  clear hK3_
  refine C_seq (fun K4_ hK4_ => ?_)
  refine C_reg ?_
  refine S_list (T_val (v := (Value.slice (some ⟨b, off, none⟩) 17 cap)) (x_move rfl) ?_)
  refine S_list (T_callW (al := [(Value.slice (some ⟨b, off, none⟩) 17 cap)]) rfl rfl cb68 (Calls.into (n := 12) (al := [(Value.slice (some ⟨b, off, none⟩) 17 cap)]) Try.func68 rfl Try.ntmps68 rfl rfl ?_))
  refine C_seq (fun K5_ hK5_ => ?_)
  refine C_reg ?_
  refine S_list (T_val (v := (Value.bool false)) (x_assign rfl) ?_)
  refine wpList_nil ?_
  refine (X_then (hK5_ _ _ ?_))
  clear hK5_
  refine C_seq (fun K6_ hK6_ => ?_)
  refine C_reg ?_
  refine S_list (T_val (v := (Value.slice (some ⟨b, off, none⟩) 17 cap)) (x_move rfl) ?_)
  refine S_list (T_val (v := (Value.int .i64 17)) (x_lenS rfl Try.underlying25) ?_)
  refine S_list (T_val (v := (Value.bool false)) (x_bin rfl rfl rfl) ?_)
  refine S_list (T_val (v := (Value.bool false)) (x_move rfl) ?_)
  refine S_no (j := 3) (dj := 6) (b := false) rfl rfl rfl (by decide) ?_
  refine S_no (j := 3) (dj := 6) (b := false) rfl rfl rfl (by decide) ?_
  refine S_no (j := 3) (dj := 6) (b := false) rfl rfl rfl (by decide) ?_
  refine S_no (j := 3) (dj := 6) (b := false) rfl rfl rfl (by decide) ?_
  refine S_list (T_pickF (v := (Value.bool false)) rfl rfl ?_)
  refine S_list (T_val (v := (Value.bool false)) (x_assign rfl) ?_)
  refine wpList_nil ?_
  refine (X_then (hK6_ _ _ ?_))
  clear hK6_
  refine C_ret ?_
  refine R_any (v := (Value.bool false)) (run_results1 rfl rfl) ⟨_, rfl, ?_⟩
  refine S_list (T_val (v := (Value.bool false)) (x_assign rfl) ?_)
  refine wpList_nil ?_
  refine (X_then (hK4_ _ _ ?_))
  clear hK4_
  refine C_ret ?_
  refine R_any (v := (Value.bool false)) (run_results1 rfl rfl) ⟨_, rfl, ?_⟩
  refine S_list (T_val (v := (Value.bool false)) (x_assign rfl) ?_)
  refine wpList_nil ?_
  refine (X_then (hK2_ _ _ ?_))
  clear hK2_
  refine C_ret ?_
  refine R_any (v := (Value.bool false)) (run_results1 rfl rfl) ?_
  exact ⟨_, [], rfl, ⟨rfl, rfl⟩, (Same.refl w), H⟩

set_option maxHeartbeats 400000 in
theorem tomb18t (R : HP) (v : Value) (m s : Int) (hv : RS R 1 v 18 (bytesV (rvb (IntKind.u64.wrap m) (IntKind.u64.wrap s) ++ [116]))) :
    Tri Try.prog 25 #[v] R [] (fun r post => r = .bool true ∧ post = []) := by
  obtain ⟨b, off, cap, rfl, hcap, hc⟩ := RS.at_ hv (by omega)
  refine Tri.into (n := 5) (al := [(Value.slice (some ⟨b, off, none⟩) 18 cap)]) Try.func25 rfl Try.ntmps25 rfl rfl fun w F H => ?_
  replace H : Holds w (ro R :: F) := H
  refine C_seq (fun K1_ hK1_ => ?_)
  refine C_reg ?_
  refine S_list (T_val (v := (Value.bool false)) (x_assign rfl) ?_)
  refine wpList_nil ?_
  refine (X_then (hK1_ _ _ ?_))
  clear hK1_
  refine C_seq (fun K2_ hK2_ => ?_)
  refine C_reg ?_
  refine S_list (T_val (v := (Value.slice (some ⟨b, off, none⟩) 18 cap)) (x_move rfl) ?_)
  refine S_list (T_callW (al := [(Value.slice (some ⟨b, off, none⟩) 18 cap)]) rfl rfl cb52 (Calls.into (n := 5) (al := [(Value.slice (some ⟨b, off, none⟩) 18 cap)]) Try.func52 rfl Try.ntmps52 rfl rfl ?_))
  refine C_seq (fun K3_ hK3_ => ?_)
  refine C_reg ?_
  refine S_list (T_val (v := (Value.bool false)) (x_assign rfl) ?_)
  refine wpList_nil ?_
  refine (X_then (hK3_ _ _ ?_))
  clear hK3_
  refine C_seq (fun K4_ hK4_ => ?_)
  refine C_reg ?_
  refine S_list (T_val (v := (Value.slice (some ⟨b, off, none⟩) 18 cap)) (x_move rfl) ?_)
  refine S_list (T_callW (al := [(Value.slice (some ⟨b, off, none⟩) 18 cap)]) rfl rfl cb68 (Calls.into (n := 12) (al := [(Value.slice (some ⟨b, off, none⟩) 18 cap)]) Try.func68 rfl Try.ntmps68 rfl rfl ?_))
  refine C_seq (fun K5_ hK5_ => ?_)
  refine C_reg ?_
  refine S_list (T_val (v := (Value.bool false)) (x_assign rfl) ?_)
  refine wpList_nil ?_
  refine (X_then (hK5_ _ _ ?_))
  clear hK5_
  refine C_seq (fun K6_ hK6_ => ?_)
  refine C_reg ?_
  refine S_list (T_val (v := (Value.slice (some ⟨b, off, none⟩) 18 cap)) (x_move rfl) ?_)
  refine S_list (T_val (v := (Value.int .i64 18)) (x_lenS rfl Try.underlying25) ?_)
  refine S_list (T_val (v := (Value.bool true)) (x_bin rfl rfl rfl) ?_)
  refine S_list (T_val (v := (Value.bool true)) (x_move rfl) ?_)
  refine S_yes (j := 3) (dj := 6) (b := true) rfl rfl rfl (T_val (v := (Value.slice (some ⟨b, off, none⟩) 18 cap)) (x_move rfl) ?_)
  refine S_yes (j := 3) (dj := 6) (b := true) rfl rfl rfl (T_val (v := (Value.pointer (some ⟨b, off + 17, none⟩))) (x_indexAddr rfl rfl Try.underlying25 z5 (by omega) (by omega) (by omega : _ = 17) (by first | rfl | simp | (congr 1; omega))) ?_)
  refine S_yes (j := 3) (dj := 6) (b := true) rfl rfl rfl (T_val (v := (Value.int .u8 116)) (x_load1 rfl Try.underlying5 rfl (RC.cell hc (Holds.ro_at H 0 rfl) (by kernel_rfl))) ?_)
  refine S_yes (j := 3) (dj := 6) (b := true) rfl rfl rfl (T_val (v := (Value.bool true)) (x_bin rfl rfl rfl) ?_)
  refine S_list (T_pickT (v := (Value.bool true)) rfl rfl ?_)
  refine S_list (T_val (v := (Value.bool true)) (x_assign rfl) ?_)
  refine wpList_nil ?_
  refine (X_then (hK6_ _ _ ?_))
  clear hK6_
  refine C_ret ?_
  refine R_any (v := (Value.bool true)) (run_results1 rfl rfl) ⟨_, rfl, ?_⟩
  refine S_list (T_val (v := (Value.bool true)) (x_assign rfl) ?_)
  refine wpList_nil ?_
  refine (X_then (hK4_ _ _ ?_))
  clear hK4_
  refine C_ret ?_
  refine R_any (v := (Value.bool true)) (run_results1 rfl rfl) ⟨_, rfl, ?_⟩
  refine S_list (T_val (v := (Value.bool true)) (x_assign rfl) ?_)
  refine wpList_nil ?_
  refine (X_then (hK2_ _ _ ?_))
  clear hK2_
  refine C_ret ?_
  refine R_any (v := (Value.bool true)) (run_results1 rfl rfl) ?_
  exact ⟨_, [], rfl, ⟨rfl, rfl⟩, (Same.refl w), H⟩

set_option maxHeartbeats 400000 in
theorem tomb18f (R : HP) (v : Value) (m s : Int) (hv : RS R 1 v 18 (bytesV (rvb (IntKind.u64.wrap m) (IntKind.u64.wrap s) ++ [0]))) :
    Tri Try.prog 25 #[v] R [] (fun r post => r = .bool false ∧ post = []) := by
  obtain ⟨b, off, cap, rfl, hcap, hc⟩ := RS.at_ hv (by omega)
  refine Tri.into (n := 5) (al := [(Value.slice (some ⟨b, off, none⟩) 18 cap)]) Try.func25 rfl Try.ntmps25 rfl rfl fun w F H => ?_
  replace H : Holds w (ro R :: F) := H
  refine C_seq (fun K1_ hK1_ => ?_)
  refine C_reg ?_
  refine S_list (T_val (v := (Value.bool false)) (x_assign rfl) ?_)
  refine wpList_nil ?_
  refine (X_then (hK1_ _ _ ?_))
  clear hK1_
  refine C_seq (fun K2_ hK2_ => ?_)
  refine C_reg ?_
  refine S_list (T_val (v := (Value.slice (some ⟨b, off, none⟩) 18 cap)) (x_move rfl) ?_)
  refine S_list (T_callW (al := [(Value.slice (some ⟨b, off, none⟩) 18 cap)]) rfl rfl cb52 (Calls.into (n := 5) (al := [(Value.slice (some ⟨b, off, none⟩) 18 cap)]) Try.func52 rfl Try.ntmps52 rfl rfl ?_))
  refine C_seq (fun K3_ hK3_ => ?_)
  refine C_reg ?_
  refine S_list (T_val (v := (Value.bool false)) (x_assign rfl) ?_)
  refine wpList_nil ?_
  refine (X_then (hK3_ _ _ ?_))
  clear hK3_
  refine C_seq (fun K4_ hK4_ => ?_)
  refine C_reg ?_
  refine S_list (T_val (v := (Value.slice (some ⟨b, off, none⟩) 18 cap)) (x_move rfl) ?_)
  refine S_list (T_callW (al := [(Value.slice (some ⟨b, off, none⟩) 18 cap)]) rfl rfl cb68 (Calls.into (n := 12) (al := [(Value.slice (some ⟨b, off, none⟩) 18 cap)]) Try.func68 rfl Try.ntmps68 rfl rfl ?_))
  refine C_seq (fun K5_ hK5_ => ?_)
  refine C_reg ?_
  refine S_list (T_val (v := (Value.bool false)) (x_assign rfl) ?_)
  refine wpList_nil ?_
  refine (X_then (hK5_ _ _ ?_))
  clear hK5_
  refine C_seq (fun K6_ hK6_ => ?_)
  refine C_reg ?_
  refine S_list (T_val (v := (Value.slice (some ⟨b, off, none⟩) 18 cap)) (x_move rfl) ?_)
  refine S_list (T_val (v := (Value.int .i64 18)) (x_lenS rfl Try.underlying25) ?_)
  refine S_list (T_val (v := (Value.bool true)) (x_bin rfl rfl rfl) ?_)
  refine S_list (T_val (v := (Value.bool true)) (x_move rfl) ?_)
  refine S_yes (j := 3) (dj := 6) (b := true) rfl rfl rfl (T_val (v := (Value.slice (some ⟨b, off, none⟩) 18 cap)) (x_move rfl) ?_)
  refine S_yes (j := 3) (dj := 6) (b := true) rfl rfl rfl (T_val (v := (Value.pointer (some ⟨b, off + 17, none⟩))) (x_indexAddr rfl rfl Try.underlying25 z5 (by omega) (by omega) (by omega : _ = 17) (by first | rfl | simp | (congr 1; omega))) ?_)
  refine S_yes (j := 3) (dj := 6) (b := true) rfl rfl rfl (T_val (v := (Value.int .u8 0)) (x_load1 rfl Try.underlying5 rfl (RC.cell hc (Holds.ro_at H 0 rfl) (by kernel_rfl))) ?_)
  refine S_yes (j := 3) (dj := 6) (b := true) rfl rfl rfl (T_val (v := (Value.bool false)) (x_bin rfl rfl rfl) ?_)
  refine S_list (T_pickT (v := (Value.bool false)) rfl rfl ?_)
  refine S_list (T_val (v := (Value.bool false)) (x_assign rfl) ?_)
  refine wpList_nil ?_
  refine (X_then (hK6_ _ _ ?_))
  clear hK6_
  refine C_ret ?_
  refine R_any (v := (Value.bool false)) (run_results1 rfl rfl) ⟨_, rfl, ?_⟩
  refine S_list (T_val (v := (Value.bool false)) (x_assign rfl) ?_)
  refine wpList_nil ?_
  refine (X_then (hK4_ _ _ ?_))
  clear hK4_
  refine C_ret ?_
  refine R_any (v := (Value.bool false)) (run_results1 rfl rfl) ⟨_, rfl, ?_⟩
  refine S_list (T_val (v := (Value.bool false)) (x_assign rfl) ?_)
  refine wpList_nil ?_
  refine (X_then (hK2_ _ _ ?_))
  clear hK2_
  refine C_ret ?_
  refine R_any (v := (Value.bool false)) (run_results1 rfl rfl) ?_
  exact ⟨_, [], rfl, ⟨rfl, rfl⟩, (Same.refl w), H⟩

set_option maxHeartbeats 1000000 in
theorem bucketBackt (R : HP) (m s : Int) (hm : 0 ≤ m) (hm2 : m < 9223372036854775808) (hs : 0 ≤ s) (hs2 : s < 9223372036854775808) :
    Tri Try.prog 6 #[(Value.agg #[(Value.int .i64 m), (Value.int .i64 s)]), (Value.bool true)] R [] (fun r post => r = .bool true ∧ post = []) := by
  refine Tri.into (n := 100) (al := [(Value.agg #[(Value.int .i64 m), (Value.int .i64 s)]), (Value.bool true)]) Try.func6 rfl Try.ntmps6 rfl rfl fun w F H => ?_
  replace H : Holds w (ro R :: F) := H
  refine C_seq (fun K1_ hK1_ => ?_)
  refine C_reg ?_
  refine S_list (T_box (v := (Value.agg #[(Value.int .i64 m), (Value.int .i64 s)])) rfl H ?_)
  intro b2_ w3_ S5_ H4_
  replace H4_ : Holds w3_ (cl b2_ 23 [(Value.int .i64 m), (Value.int .i64 s)] :: ro R :: F) := H4_
  have S6_ := Same.trans (Same.refl w) S5_
  refine S_list (T_val (v := (Value.bool false)) (x_assign rfl) ?_)
  refine wpList_nil ?_
  refine (X_then (hK1_ _ _ ?_))
  clear hK1_
  refine C_seq (fun K7_ hK7_ => ?_)
  refine C_seq (fun K8_ hK8_ => ?_)
  refine C_reg ?_
  refine S_list (T_val (v := (Value.pointer (some ⟨b2_, 0, none⟩))) (by kernel_rfl) ?_)
  refine S_list (T_val (v := (Value.int .i64 m)) (x_load1 rfl Try.underlying2 rfl ((Holds.rd H4_ 0 rfl) 0 (Value.int .i64 m) rfl)) ?_)
  refine S_list (T_val (v := (Value.pointer (some ⟨b2_, 1, none⟩))) (by kernel_rfl) ?_)
  refine S_list (T_val (v := (Value.int .i64 s)) (x_load1 rfl Try.underlying2 rfl ((Holds.rd H4_ 0 rfl) 1 (Value.int .i64 s) rfl)) ?_)
  refine S_list (T_val (v := (Value.int .i64 (min m s))) (x_min2 rfl rfl (min_ite _ _)) ?_)
  refine S_list (T_val (v := (Value.bool (decide (min m s < 0)))) (x_bin rfl rfl rfl) ?_)
  refine wpList_nil ?_
  refine (X_then (hK8_ _ _ ?_))
  clear hK8_
  refine C_cond (b := decide (min m s < 0)) rfl (fun c9_t => ?_) (fun c9_f => ?_)
  · have c9_tp : min m s < 0 := of_decide_eq_true c9_t
    omega
  · have c9_fp : ¬ (min m s < 0) := of_decide_eq_false c9_f
    refine C_skip (X_then (hK7_ _ _ ?_))
    clear hK7_
    refine C_seq (fun K10_ hK10_ => ?_)
    refine C_reg ?_
    refine S_list (T_val (v := (Value.agg #[(Value.int .i64 m), (Value.int .i64 s)])) (x_loadN (vs := [(Value.int .i64 m), (Value.int .i64 s)]) rfl Try.underlying23 rfl z23 rfl (Rd.cells (Holds.rd H4_ 0 rfl) 0 rfl)) ?_)
    have H11_ : Holds w3_ (ro R :: cl b2_ 23 [(Value.int .i64 m), (Value.int .i64 s)] :: F) := (Holds.bring H4_ 1 rfl)
    refine S_list (T_call (al := [(Value.agg #[(Value.int .i64 m), (Value.int .i64 s)])]) (pre := []) (F := cl b2_ 23 [(Value.int .i64 m), (Value.int .i64 s)] :: F) rfl rfl cb9 (revBytes R m s) H11_ ?_)
    rintro v15_ p16_ w12_ rfl S14_ H13_
    replace H13_ : Holds w12_ (ro R :: sl 5 1 v15_ 17 (bytesV (rvb (IntKind.u64.wrap m) (IntKind.u64.wrap s))) :: cl b2_ 23 [(Value.int .i64 m), (Value.int .i64 s)] :: F) := H13_
    have S17_ := Same.trans S6_ S14_
    obtain ⟨-, a18_, cp19_, rfl, hle20_⟩ := Holds.sl_len H13_ 1 rfl
    refine S_list (T_val (v := (Value.slice a18_ 17 cp19_)) (x_assign rfl) ?_)
    refine wpList_nil ?_
    refine (X_then (hK10_ _ _ ?_))
    clear hK10_
    refine C_seq (fun K21_ hK21_ => ?_)
    refine C_reg ?_
    refine S_list (T_val (v := (Value.agg #[(Value.int .i64 m), (Value.int .i64 s)])) (x_loadN (vs := [(Value.int .i64 m), (Value.int .i64 s)]) rfl Try.underlying23 rfl z23 rfl (Rd.cells (Holds.rd H13_ 2 rfl) 0 rfl)) ?_)
    refine S_list (T_val (v := (Value.bool true)) (x_move rfl) ?_)
    refine S_list (T_call (al := [(Value.agg #[(Value.int .i64 m), (Value.int .i64 s)]), (Value.bool true), (Value.bool false)]) (pre := []) (F := sl 5 1 (Value.slice a18_ 17 cp19_) 17 (bytesV (rvb (IntKind.u64.wrap m) (IntKind.u64.wrap s))) :: cl b2_ 23 [(Value.int .i64 m), (Value.int .i64 s)] :: F) rfl rfl cb23 (bucketBytestf R m s) H13_ ?_)
    rintro v25_ p26_ w22_ rfl S24_ H23_
    replace H23_ : Holds w22_ (ro R :: sl 5 1 v25_ 18 (bytesV (rvb (IntKind.u64.wrap m) (IntKind.u64.wrap s) ++ [116])) :: sl 5 1 (Value.slice a18_ 17 cp19_) 17 (bytesV (rvb (IntKind.u64.wrap m) (IntKind.u64.wrap s))) :: cl b2_ 23 [(Value.int .i64 m), (Value.int .i64 s)] :: F) := H23_
    have S27_ := Same.trans S17_ S24_
    obtain ⟨-, a28_, cp29_, rfl, hle30_⟩ := Holds.sl_len H23_ 1 rfl
    refine S_list (T_val (v := (Value.slice a28_ 18 cp29_)) (x_assign rfl) ?_)
    refine wpList_nil ?_
    refine (X_then (hK21_ _ _ ?_))
    clear hK21_
    refine C_seq (fun K31_ hK31_ => ?_)
    refine C_seq (fun K32_ hK32_ => ?_)
    refine C_reg ?_
    refine S_list (T_val (v := (Value.slice a28_ 18 cp29_)) (x_move rfl) ?_)
    refine S_list (T_val (v := (Value.agg #[(Value.int .i64 m), (Value.int .i64 s)])) (x_loadN (vs := [(Value.int .i64 m), (Value.int .i64 s)]) rfl Try.underlying23 rfl z23 rfl (Rd.cells (Holds.rd H23_ 3 rfl) 0 rfl)) ?_)
    refine S_list (T_val (v := (Value.bool true)) (x_move rfl) ?_)
    refine S_list (T_call (al := [(Value.agg #[(Value.int .i64 m), (Value.int .i64 s)]), (Value.bool true), (Value.bool true)]) (pre := []) (F := sl 5 1 (Value.slice a28_ 18 cp29_) 18 (bytesV (rvb (IntKind.u64.wrap m) (IntKind.u64.wrap s) ++ [116])) :: sl 5 1 (Value.slice a18_ 17 cp19_) 17 (bytesV (rvb (IntKind.u64.wrap m) (IntKind.u64.wrap s))) :: cl b2_ 23 [(Value.int .i64 m), (Value.int .i64 s)] :: F) rfl rfl cb23 (bucketBytestt R m s) H23_ ?_)
    rintro v36_ p37_ w33_ rfl S35_ H34_
    replace H34_ : Holds w33_ (ro R :: sl 5 1 v36_ 18 (bytesV (rvb (IntKind.u64.wrap m) (IntKind.u64.wrap s) ++ [116])) :: sl 5 1 (Value.slice a28_ 18 cp29_) 18 (bytesV (rvb (IntKind.u64.wrap m) (IntKind.u64.wrap s) ++ [116])) :: sl 5 1 (Value.slice a18_ 17 cp19_) 17 (bytesV (rvb (IntKind.u64.wrap m) (IntKind.u64.wrap s))) :: cl b2_ 23 [(Value.int .i64 m), (Value.int .i64 s)] :: F) := H34_
    have S38_ := Same.trans S27_ S35_
    obtain ⟨-, a39_, cp40_, rfl, hle41_⟩ := Holds.sl_len H34_ 1 rfl
    refine S_list (T_new (obj := .cells #[(Value.slice a28_ 18 cp29_), (Value.slice a39_ 18 cp40_)] 25) (f := fun b => .slice (some ⟨b, 0, none⟩) 2 2) (A := fun b => cl b 25 [(Value.slice a28_ 18 cp29_), (Value.slice a39_ 18 cp40_)]) (by kernel_rfl) (fun l h => h.alloc _ _) H34_ ?_)
    intro b42_ w43_ S45_ H44_
    replace H44_ : Holds w43_ (cl b42_ 25 [(Value.slice a28_ 18 cp29_), (Value.slice a39_ 18 cp40_)] :: ro R :: sl 5 1 (Value.slice a39_ 18 cp40_) 18 (bytesV (rvb (IntKind.u64.wrap m) (IntKind.u64.wrap s) ++ [116])) :: sl 5 1 (Value.slice a28_ 18 cp29_) 18 (bytesV (rvb (IntKind.u64.wrap m) (IntKind.u64.wrap s) ++ [116])) :: sl 5 1 (Value.slice a18_ 17 cp19_) 17 (bytesV (rvb (IntKind.u64.wrap m) (IntKind.u64.wrap s))) :: cl b2_ 23 [(Value.int .i64 m), (Value.int .i64 s)] :: F) := H44_
    have S46_ := Same.trans S38_ S45_
    refine S_list (T_val (v := (Value.int .i64 2)) (x_lenS rfl Try.underlying45) ?_)
    refine S_list (T_val (v := (Value.int .i64 0)) (x_move rfl) ?_)
    refine wpList_nil ?_
    refine (X_then (hK32_ _ _ ?_))
    clear hK32_
    refine C_block ?_
    refine C_loopN 3 ?_
    refine C_rounds (fun K47_ hK47_ => ?_)
    refine C_seq (fun K48_ hK48_ => ?_)
    refine C_reg ?_
    refine S_list (T_val (v := (Value.bool true)) (x_bin rfl rfl rfl) ?_)
    refine wpList_nil ?_
    refine (X_then (hK48_ _ _ ?_))
    clear hK48_
    refine C_seq (fun K49_ hK49_ => ?_)
    refine C_condT rfl ?_
    refine C_skip (X_then (hK49_ _ _ ?_))
    clear hK49_
    refine C_seq (fun K50_ hK50_ => ?_)
    refine C_block ?_
    refine C_seq (fun K51_ hK51_ => ?_)
    refine C_reg ?_
    refine S_list (T_val (v := (Value.pointer (some ⟨b42_, 0, none⟩))) (x_indexAddr rfl rfl Try.underlying45 z25 (by omega) (by omega) (by omega : _ = 0) (by first | rfl | simp | (congr 1; omega))) ?_)
    refine S_list (T_val (v := (Value.slice a28_ 18 cp29_)) (x_load1 rfl Try.underlying25 rfl ((Holds.rd H44_ 0 rfl) 0 (Value.slice a28_ 18 cp29_) rfl)) ?_)
    refine S_list (T_val (v := (Value.slice a28_ 18 cp29_)) (x_assign rfl) ?_)
    refine wpList_nil ?_
    refine (X_then (hK51_ _ _ ?_))
    clear hK51_
    refine C_seq (fun K52_ hK52_ => ?_)
    refine C_reg ?_
    refine S_list (T_val (v := (Value.slice a28_ 18 cp29_)) (x_move rfl) ?_)
    have H53_ : Holds w43_ (ro R :: sl 5 1 (Value.slice a28_ 18 cp29_) 18 (bytesV (rvb (IntKind.u64.wrap m) (IntKind.u64.wrap s) ++ [116])) :: cl b42_ 25 [(Value.slice a28_ 18 cp29_), (Value.slice a39_ 18 cp40_)] :: sl 5 1 (Value.slice a39_ 18 cp40_) 18 (bytesV (rvb (IntKind.u64.wrap m) (IntKind.u64.wrap s) ++ [116])) :: sl 5 1 (Value.slice a18_ 17 cp19_) 17 (bytesV (rvb (IntKind.u64.wrap m) (IntKind.u64.wrap s))) :: cl b2_ 23 [(Value.int .i64 m), (Value.int .i64 s)] :: F) := (Holds.bring (Holds.bring H44_ 3 rfl) 2 rfl)
    refine S_list (T_call (al := [(Value.slice a28_ 18 cp29_)]) (pre := [sl 5 1 (Value.slice a28_ 18 cp29_) 18 (bytesV (rvb (IntKind.u64.wrap m) (IntKind.u64.wrap s) ++ [116]))]) (F := cl b42_ 25 [(Value.slice a28_ 18 cp29_), (Value.slice a39_ 18 cp40_)] :: sl 5 1 (Value.slice a39_ 18 cp40_) 18 (bytesV (rvb (IntKind.u64.wrap m) (IntKind.u64.wrap s) ++ [116])) :: sl 5 1 (Value.slice a18_ 17 cp19_) 17 (bytesV (rvb (IntKind.u64.wrap m) (IntKind.u64.wrap s))) :: cl b2_ 23 [(Value.int .i64 m), (Value.int .i64 s)] :: F) rfl rfl cb24 (Tri.lend (fun h0 a0 d0 => bytesBucket18t (un R h0) (Value.slice a28_ 18 cp29_) m s hm hm2 hs hs2 (sl_RS a0 (Sub.un_right d0)))) H53_ ?_)
    rintro v57_ p58_ w54_ ⟨_, rfl, rfl, rfl⟩ S56_ H55_
    replace H55_ : Holds w54_ (ro R :: sl 5 1 (Value.slice a28_ 18 cp29_) 18 (bytesV (rvb (IntKind.u64.wrap m) (IntKind.u64.wrap s) ++ [116])) :: cl b42_ 25 [(Value.slice a28_ 18 cp29_), (Value.slice a39_ 18 cp40_)] :: sl 5 1 (Value.slice a39_ 18 cp40_) 18 (bytesV (rvb (IntKind.u64.wrap m) (IntKind.u64.wrap s) ++ [116])) :: sl 5 1 (Value.slice a18_ 17 cp19_) 17 (bytesV (rvb (IntKind.u64.wrap m) (IntKind.u64.wrap s))) :: cl b2_ 23 [(Value.int .i64 m), (Value.int .i64 s)] :: F) := H55_
    have S59_ := Same.trans S46_ S56_
    refine S_list (T_val (v := (Value.tuple #[(Value.agg #[(Value.int .i64 m), (Value.int .i64 s)]), (Value.bool true), (Value.bool true)])) (x_move rfl) ?_)
    refine S_list (T_val (v := (Value.agg #[(Value.int .i64 m), (Value.int .i64 s)])) (by kernel_rfl) ?_)
    refine S_list (T_val (v := (Value.bool true)) (by kernel_rfl) ?_)
    refine S_list (T_val (v := (Value.bool true)) (by kernel_rfl) ?_)
    refine S_list (T_alloc z23 H55_ ?_)
    intro b60_ w61_ S63_ H62_
    replace H62_ : Holds w61_ (cl b60_ 23 [(Value.int .i64 0), (Value.int .i64 0)] :: ro R :: sl 5 1 (Value.slice a28_ 18 cp29_) 18 (bytesV (rvb (IntKind.u64.wrap m) (IntKind.u64.wrap s) ++ [116])) :: cl b42_ 25 [(Value.slice a28_ 18 cp29_), (Value.slice a39_ 18 cp40_)] :: sl 5 1 (Value.slice a39_ 18 cp40_) 18 (bytesV (rvb (IntKind.u64.wrap m) (IntKind.u64.wrap s) ++ [116])) :: sl 5 1 (Value.slice a18_ 17 cp19_) 17 (bytesV (rvb (IntKind.u64.wrap m) (IntKind.u64.wrap s))) :: cl b2_ 23 [(Value.int .i64 m), (Value.int .i64 s)] :: F) := H62_
    have S64_ := Same.trans S59_ S63_
    refine S_list0 (T_storeN (vs := [(Value.int .i64 m), (Value.int .i64 s)]) rfl rfl z23 rfl (by simp [Value.oneCell']) H62_ 0 rfl (Nat.le_of_ble_eq_true (by rfl)) ?_)
    intro w65_ S67_ H66_
    replace H66_ : Holds w65_ (cl b60_ 23 [(Value.int .i64 m), (Value.int .i64 s)] :: ro R :: sl 5 1 (Value.slice a28_ 18 cp29_) 18 (bytesV (rvb (IntKind.u64.wrap m) (IntKind.u64.wrap s) ++ [116])) :: cl b42_ 25 [(Value.slice a28_ 18 cp29_), (Value.slice a39_ 18 cp40_)] :: sl 5 1 (Value.slice a39_ 18 cp40_) 18 (bytesV (rvb (IntKind.u64.wrap m) (IntKind.u64.wrap s) ++ [116])) :: sl 5 1 (Value.slice a18_ 17 cp19_) 17 (bytesV (rvb (IntKind.u64.wrap m) (IntKind.u64.wrap s))) :: cl b2_ 23 [(Value.int .i64 m), (Value.int .i64 s)] :: F) := H66_
    have S68_ := Same.trans S64_ S67_
    refine S_list (T_val (v := (Value.bool true)) (x_assign rfl) ?_)
    refine S_list (T_val (v := (Value.bool true)) (x_assign rfl) ?_)
    refine wpList_nil ?_
    refine (X_then (hK52_ _ _ ?_))
    clear hK52_
    refine C_seq (fun K69_ hK69_ => ?_)
    refine C_reg ?_
    refine S_list (T_val (v := (Value.bool true)) (x_move rfl) ?_)
    refine S_list (T_val (v := (Value.bool false)) (x_cast (x_not (b := true) rfl) rfl) ?_)
    refine S_list (T_val (v := (Value.bool false)) (x_move rfl) ?_)
    refine S_yes (j := 2) (dj := 42) (b := false) rfl rfl rfl (T_val (v := (Value.agg #[(Value.int .i64 m), (Value.int .i64 s)])) (x_loadN (vs := [(Value.int .i64 m), (Value.int .i64 s)]) rfl Try.underlying23 rfl z23 rfl (Rd.cells (Holds.rd H66_ 0 rfl) 0 rfl)) ?_)
    refine S_yes (j := 2) (dj := 42) (b := false) rfl rfl rfl (T_val (v := (Value.agg #[(Value.int .i64 m), (Value.int .i64 s)])) (x_loadN (vs := [(Value.int .i64 m), (Value.int .i64 s)]) rfl Try.underlying23 rfl z23 rfl (Rd.cells (Holds.rd H66_ 6 rfl) 0 rfl)) ?_)
    refine S_yes (j := 2) (dj := 42) (b := false) rfl rfl rfl (T_val (v := (Value.bool false)) (x_cast (x_neqS rfl rfl (by kernel_rfl) (eq_struct Try.underlying23 (by kernel_rfl) (eqf_cons rfl (run_part1 Try.underlying2 rfl rfl) (run_part1 Try.underlying2 rfl rfl) (eq_int Try.underlying2) (eqf_cons rfl (run_part1 Try.underlying2 rfl rfl) (run_part1 Try.underlying2 rfl rfl) (eq_int Try.underlying2) (eqf_nil))))) (by simp)) ?_)
    refine S_list (T_pickF (v := (Value.bool false)) rfl rfl ?_)
    refine S_list (T_val (v := (Value.bool false)) (x_move rfl) ?_)
    refine S_yes (j := 7) (dj := 47) (b := false) rfl rfl rfl (T_val (v := (Value.bool true)) (x_move rfl) ?_)
    refine S_yes (j := 7) (dj := 47) (b := false) rfl rfl rfl (T_val (v := (Value.bool true)) (x_move rfl) ?_)
    refine S_yes (j := 7) (dj := 47) (b := false) rfl rfl rfl (T_val (v := (Value.bool false)) (x_cast (x_neqB rfl rfl Try.underlying4) rfl) ?_)
    refine S_list (T_pickF (v := (Value.bool false)) rfl rfl ?_)
    refine S_list (T_val (v := (Value.bool false)) (x_move rfl) ?_)
    refine S_yes (j := 12) (dj := 52) (b := false) rfl rfl rfl (T_val (v := (Value.slice a28_ 18 cp29_)) (x_move rfl) ?_)
    refine S_yes (j := 12) (dj := 52) (b := false) rfl rfl rfl (T_val (v := (Value.int .i64 18)) (x_lenS rfl Try.underlying25) ?_)
    refine S_yes (j := 12) (dj := 52) (b := false) rfl rfl rfl (T_val (v := (Value.slice a18_ 17 cp19_)) (x_move rfl) ?_)
    refine S_yes (j := 12) (dj := 52) (b := false) rfl rfl rfl (T_val (v := (Value.int .i64 17)) (x_lenS rfl Try.underlying25) ?_)
    refine S_yes (j := 12) (dj := 52) (b := false) rfl rfl rfl (T_val (v := (Value.bool false)) (x_bin rfl rfl rfl) ?_)
    refine S_list (T_pickF (v := (Value.bool false)) rfl rfl ?_)
    refine S_list (T_val (v := (Value.bool false)) (x_move rfl) ?_)
    refine S_yes (j := 19) (dj := 59) (b := false) rfl rfl rfl (T_val (v := (Value.slice a28_ 18 cp29_)) (x_move rfl) ?_)
    refine S_yes (j := 19) (dj := 59) (b := false) rfl rfl rfl (T_val (v := (Value.slice a18_ 17 cp19_)) (x_move rfl) ?_)
    refine S_yes (j := 19) (dj := 59) (b := false) rfl rfl rfl (T_val (v := (Value.int .i64 17)) (x_lenS rfl Try.underlying25) ?_)
    refine S_yes (j := 19) (dj := 59) (b := false) rfl rfl rfl (T_val (v := (Value.slice a28_ 17 cp29_)) (x_slice (l := 0) (h := 17) rfl Try.underlying25 z5 ⟨_, _, rfl, by omega, by omega, by omega⟩ rfl (by cases a28_ <;> simp [Addr.add])) ?_)
    refine S_yes (j := 19) (dj := 59) (b := false) rfl rfl rfl (T_val (v := (Value.slice a18_ 17 cp19_)) (x_move rfl) ?_)
    have H70_ : Holds w65_ (cl b60_ 23 [(Value.int .i64 m), (Value.int .i64 s)] :: ro R :: sl 5 1 (Value.slice a28_ 18 cp29_) 18 (bytesV (rvb (IntKind.u64.wrap m) (IntKind.u64.wrap s) ++ [116])) :: cl b42_ 25 [(Value.slice a28_ 18 cp29_), (Value.slice a39_ 18 cp40_)] :: sl 5 1 (Value.slice a39_ 18 cp40_) 18 (bytesV (rvb (IntKind.u64.wrap m) (IntKind.u64.wrap s) ++ [116])) :: sl 5 1 (Value.slice a18_ 17 cp19_) 17 (bytesV (rvb (IntKind.u64.wrap m) (IntKind.u64.wrap s) ++ [])) :: cl b2_ 23 [(Value.int .i64 m), (Value.int .i64 s)] :: F) := cast2 (P := fun (c__ : List Value) (k__ : Nat) => Holds w65_ (cl b60_ 23 [(Value.int .i64 m), (Value.int .i64 s)] :: ro R :: sl 5 1 (Value.slice a28_ 18 cp29_) 18 (bytesV (rvb (IntKind.u64.wrap m) (IntKind.u64.wrap s) ++ [116])) :: cl b42_ 25 [(Value.slice a28_ 18 cp29_), (Value.slice a39_ 18 cp40_)] :: sl 5 1 (Value.slice a39_ 18 cp40_) 18 (bytesV (rvb (IntKind.u64.wrap m) (IntKind.u64.wrap s) ++ [116])) :: sl 5 1 (Value.slice a18_ 17 cp19_) k__ c__ :: cl b2_ 23 [(Value.int .i64 m), (Value.int .i64 s)] :: F)) (by rw [List.append_nil] : bytesV (rvb (IntKind.u64.wrap m) (IntKind.u64.wrap s)) = bytesV (rvb (IntKind.u64.wrap m) (IntKind.u64.wrap s) ++ [])) (rfl : 17 = 17) H66_
    have H71_ : Holds w65_ (ro R :: sl 5 1 (Value.slice a28_ 18 cp29_) 18 (bytesV (rvb (IntKind.u64.wrap m) (IntKind.u64.wrap s) ++ [116])) :: sl 5 1 (Value.slice a18_ 17 cp19_) 17 (bytesV (rvb (IntKind.u64.wrap m) (IntKind.u64.wrap s) ++ [])) :: cl b60_ 23 [(Value.int .i64 m), (Value.int .i64 s)] :: cl b42_ 25 [(Value.slice a28_ 18 cp29_), (Value.slice a39_ 18 cp40_)] :: sl 5 1 (Value.slice a39_ 18 cp40_) 18 (bytesV (rvb (IntKind.u64.wrap m) (IntKind.u64.wrap s) ++ [116])) :: cl b2_ 23 [(Value.int .i64 m), (Value.int .i64 s)] :: F) := (Holds.bring (Holds.bring (Holds.bring H70_ 5 rfl) 3 rfl) 3 rfl)
    refine S_yes (j := 19) (dj := 59) (b := false) rfl rfl rfl (T_call (al := [(Value.slice a28_ 17 cp29_), (Value.slice a18_ 17 cp19_)]) (pre := [sl 5 1 (Value.slice a28_ 18 cp29_) 18 (bytesV (rvb (IntKind.u64.wrap m) (IntKind.u64.wrap s) ++ [116])), sl 5 1 (Value.slice a18_ 17 cp19_) 17 (bytesV (rvb (IntKind.u64.wrap m) (IntKind.u64.wrap s) ++ []))]) (F := cl b60_ 23 [(Value.int .i64 m), (Value.int .i64 s)] :: cl b42_ 25 [(Value.slice a28_ 18 cp29_), (Value.slice a39_ 18 cp40_)] :: sl 5 1 (Value.slice a39_ 18 cp40_) 18 (bytesV (rvb (IntKind.u64.wrap m) (IntKind.u64.wrap s) ++ [116])) :: cl b2_ 23 [(Value.int .i64 m), (Value.int .i64 s)] :: F) rfl rfl cb8 (Tri.lend (fun h0 a0 d0 => Tri.lend (fun h1 a1 d1 => rvSameEq _ (Value.slice a28_ 17 cp29_) (Value.slice a18_ 17 cp19_) 17 17 ((rvb (IntKind.u64.wrap m) (IntKind.u64.wrap s) ++ [116]).take 17) (rvb (IntKind.u64.wrap m) (IntKind.u64.wrap s) ++ []) (cast1 (P := RS _ 1 _ 17) (by simp [bytesV]) (RS.sub (k := 17) (RS.mono (sl_RS a0 (Sub.un_right d0)) (Sub.trans' (Sub.un_left _ _) (Sub.rfl' _))) (by omega))) (RS.mono (sl_RS a1 (Sub.un_right d1)) (Sub.rfl' _)) (by kernel_rfl)))) H71_ ?_)
    rintro v75_ p76_ w72_ ⟨_, rfl, ⟨_, rfl, rfl, rfl⟩⟩ S74_ H73_
    replace H73_ : Holds w72_ (ro R :: sl 5 1 (Value.slice a28_ 18 cp29_) 18 (bytesV (rvb (IntKind.u64.wrap m) (IntKind.u64.wrap s) ++ [116])) :: sl 5 1 (Value.slice a18_ 17 cp19_) 17 (bytesV (rvb (IntKind.u64.wrap m) (IntKind.u64.wrap s) ++ [])) :: cl b60_ 23 [(Value.int .i64 m), (Value.int .i64 s)] :: cl b42_ 25 [(Value.slice a28_ 18 cp29_), (Value.slice a39_ 18 cp40_)] :: sl 5 1 (Value.slice a39_ 18 cp40_) 18 (bytesV (rvb (IntKind.u64.wrap m) (IntKind.u64.wrap s) ++ [116])) :: cl b2_ 23 [(Value.int .i64 m), (Value.int .i64 s)] :: F) := H73_
    have S77_ := Same.trans S68_ S74_
    refine S_yes (j := 19) (dj := 59) (b := false) rfl rfl rfl (T_val (v := (Value.bool false)) (x_cast (x_not (b := true) rfl) rfl) ?_)
    refine S_list (T_pickF (v := (Value.bool false)) rfl rfl ?_)
    refine S_list (T_val (v := (Value.bool false)) (x_move rfl) ?_)
    refine S_yes (j := 28) (dj := 68) (b := false) rfl rfl rfl (T_val (v := (Value.slice a28_ 18 cp29_)) (x_move rfl) ?_)
    refine S_yes (j := 28) (dj := 68) (b := false) rfl rfl rfl (T_call (al := [(Value.slice a28_ 18 cp29_)]) (pre := [sl 5 1 (Value.slice a28_ 18 cp29_) 18 (bytesV (rvb (IntKind.u64.wrap m) (IntKind.u64.wrap s) ++ [116]))]) (F := sl 5 1 (Value.slice a18_ 17 cp19_) 17 (bytesV (rvb (IntKind.u64.wrap m) (IntKind.u64.wrap s) ++ [])) :: cl b60_ 23 [(Value.int .i64 m), (Value.int .i64 s)] :: cl b42_ 25 [(Value.slice a28_ 18 cp29_), (Value.slice a39_ 18 cp40_)] :: sl 5 1 (Value.slice a39_ 18 cp40_) 18 (bytesV (rvb (IntKind.u64.wrap m) (IntKind.u64.wrap s) ++ [116])) :: cl b2_ 23 [(Value.int .i64 m), (Value.int .i64 s)] :: F) rfl rfl cb25 (Tri.lend (fun h0 a0 d0 => tomb18t (un R h0) (Value.slice a28_ 18 cp29_) m s (sl_RS a0 (Sub.un_right d0)))) H73_ ?_)
    rintro v81_ p82_ w78_ ⟨_, rfl, rfl, rfl⟩ S80_ H79_
    replace H79_ : Holds w78_ (ro R :: sl 5 1 (Value.slice a28_ 18 cp29_) 18 (bytesV (rvb (IntKind.u64.wrap m) (IntKind.u64.wrap s) ++ [116])) :: sl 5 1 (Value.slice a18_ 17 cp19_) 17 (bytesV (rvb (IntKind.u64.wrap m) (IntKind.u64.wrap s) ++ [])) :: cl b60_ 23 [(Value.int .i64 m), (Value.int .i64 s)] :: cl b42_ 25 [(Value.slice a28_ 18 cp29_), (Value.slice a39_ 18 cp40_)] :: sl 5 1 (Value.slice a39_ 18 cp40_) 18 (bytesV (rvb (IntKind.u64.wrap m) (IntKind.u64.wrap s) ++ [116])) :: cl b2_ 23 [(Value.int .i64 m), (Value.int .i64 s)] :: F) := H79_
    have S83_ := Same.trans S77_ S80_
    refine S_yes (j := 28) (dj := 68) (b := false) rfl rfl rfl (T_val (v := (Value.bool true)) (x_move rfl) ?_)
    refine S_yes (j := 28) (dj := 68) (b := false) rfl rfl rfl (T_val (v := (Value.bool false)) (x_cast (x_neqB rfl rfl Try.underlying4) rfl) ?_)
    refine S_list (T_pickF (v := (Value.bool false)) rfl rfl ?_)
    refine S_list (T_val (v := (Value.bool false)) (x_move rfl) ?_)
    refine S_yes (j := 34) (dj := 74) (b := false) rfl rfl rfl (T_val (v := (Value.bool true)) (x_move rfl) ?_)
    refine S_yes (j := 34) (dj := 74) (b := false) rfl rfl rfl (T_val (v := (Value.bool true)) (x_move rfl) ?_)
    refine S_yes (j := 36) (dj := 76) (b := true) rfl rfl rfl (T_val (v := (Value.slice a28_ 18 cp29_)) (x_move rfl) ?_)
    refine S_yes (j := 36) (dj := 76) (b := true) rfl rfl rfl (T_val (v := (Value.slice a28_ 18 cp29_)) (x_move rfl) ?_)
    refine S_yes (j := 36) (dj := 76) (b := true) rfl rfl rfl (T_call (al := [(Value.slice a28_ 18 cp29_), (Value.slice a28_ 18 cp29_)]) (pre := [sl 5 1 (Value.slice a28_ 18 cp29_) 18 (bytesV (rvb (IntKind.u64.wrap m) (IntKind.u64.wrap s) ++ [116]))]) (F := sl 5 1 (Value.slice a18_ 17 cp19_) 17 (bytesV (rvb (IntKind.u64.wrap m) (IntKind.u64.wrap s) ++ [])) :: cl b60_ 23 [(Value.int .i64 m), (Value.int .i64 s)] :: cl b42_ 25 [(Value.slice a28_ 18 cp29_), (Value.slice a39_ 18 cp40_)] :: sl 5 1 (Value.slice a39_ 18 cp40_) 18 (bytesV (rvb (IntKind.u64.wrap m) (IntKind.u64.wrap s) ++ [116])) :: cl b2_ 23 [(Value.int .i64 m), (Value.int .i64 s)] :: F) rfl rfl cb8 (Tri.lend (fun h0 a0 d0 => rvSameEq _ (Value.slice a28_ 18 cp29_) (Value.slice a28_ 18 cp29_) 18 18 (rvb (IntKind.u64.wrap m) (IntKind.u64.wrap s) ++ [116]) (rvb (IntKind.u64.wrap m) (IntKind.u64.wrap s) ++ [116]) (RS.mono (sl_RS a0 (Sub.un_right d0)) (Sub.rfl' _)) (RS.mono (sl_RS a0 (Sub.un_right d0)) (Sub.rfl' _)) (by kernel_rfl))) H79_ ?_)
    rintro v87_ p88_ w84_ ⟨_, rfl, rfl, rfl⟩ S86_ H85_
    replace H85_ : Holds w84_ (ro R :: sl 5 1 (Value.slice a28_ 18 cp29_) 18 (bytesV (rvb (IntKind.u64.wrap m) (IntKind.u64.wrap s) ++ [116])) :: sl 5 1 (Value.slice a18_ 17 cp19_) 17 (bytesV (rvb (IntKind.u64.wrap m) (IntKind.u64.wrap s) ++ [])) :: cl b60_ 23 [(Value.int .i64 m), (Value.int .i64 s)] :: cl b42_ 25 [(Value.slice a28_ 18 cp29_), (Value.slice a39_ 18 cp40_)] :: sl 5 1 (Value.slice a39_ 18 cp40_) 18 (bytesV (rvb (IntKind.u64.wrap m) (IntKind.u64.wrap s) ++ [116])) :: cl b2_ 23 [(Value.int .i64 m), (Value.int .i64 s)] :: F) := H85_
    have S89_ := Same.trans S83_ S86_
    refine S_yes (j := 36) (dj := 76) (b := true) rfl rfl rfl (T_val (v := (Value.bool false)) (x_cast (x_not (b := true) rfl) rfl) ?_)
    refine S_yes (j := 34) (dj := 74) (b := false) rfl rfl rfl (T_pickT (v := (Value.bool false)) rfl rfl ?_)
    refine S_list (T_pickF (v := (Value.bool false)) rfl rfl ?_)
    refine wpList_nil ?_
    refine (X_then (hK69_ _ _ ?_))
    clear hK69_
    refine C_condF rfl ?_
    refine C_skip (X_blkN (X_then (hK50_ _ _ ?_)))
    clear hK50_
    refine C_reg ?_
    refine S_list (T_val (v := (Value.int .i64 1)) (x_bin rfl rfl (ib_add (IntWalk.i64_in _ (by omega)))) ?_)
    refine S_list (T_val (v := (Value.int .i64 1)) (x_move rfl) ?_)
    refine wpList_nil ?_
    refine (X_then ?_)
    refine hK47_ _ _ ?_
    clear hK47_
    refine C_rounds (fun K90_ hK90_ => ?_)
    refine C_seq (fun K91_ hK91_ => ?_)
    refine C_reg ?_
    refine S_list (T_val (v := (Value.bool true)) (x_bin rfl rfl rfl) ?_)
    refine wpList_nil ?_
    refine (X_then (hK91_ _ _ ?_))
    clear hK91_
    refine C_seq (fun K92_ hK92_ => ?_)
    refine C_condT rfl ?_
    refine C_skip (X_then (hK92_ _ _ ?_))
    clear hK92_
    refine C_seq (fun K93_ hK93_ => ?_)
    refine C_block ?_
    refine C_seq (fun K94_ hK94_ => ?_)
    refine C_reg ?_
    refine S_list (T_val (v := (Value.pointer (some ⟨b42_, 1, none⟩))) (x_indexAddr rfl rfl Try.underlying45 z25 (by omega) (by omega) (by omega : _ = 1) (by first | rfl | simp | (congr 1; omega))) ?_)
    refine S_list (T_val (v := (Value.slice a39_ 18 cp40_)) (x_load1 rfl Try.underlying25 rfl ((Holds.rd H85_ 4 rfl) 1 (Value.slice a39_ 18 cp40_) rfl)) ?_)
    refine S_list (T_val (v := (Value.slice a39_ 18 cp40_)) (x_assign rfl) ?_)
    refine wpList_nil ?_
    refine (X_then (hK94_ _ _ ?_))
    clear hK94_
    refine C_seq (fun K95_ hK95_ => ?_)
    refine C_reg ?_
    refine S_list (T_val (v := (Value.slice a39_ 18 cp40_)) (x_move rfl) ?_)
    have H96_ : Holds w84_ (ro R :: sl 5 1 (Value.slice a39_ 18 cp40_) 18 (bytesV (rvb (IntKind.u64.wrap m) (IntKind.u64.wrap s) ++ [116])) :: sl 5 1 (Value.slice a28_ 18 cp29_) 18 (bytesV (rvb (IntKind.u64.wrap m) (IntKind.u64.wrap s) ++ [116])) :: sl 5 1 (Value.slice a18_ 17 cp19_) 17 (bytesV (rvb (IntKind.u64.wrap m) (IntKind.u64.wrap s) ++ [])) :: cl b60_ 23 [(Value.int .i64 m), (Value.int .i64 s)] :: cl b42_ 25 [(Value.slice a28_ 18 cp29_), (Value.slice a39_ 18 cp40_)] :: cl b2_ 23 [(Value.int .i64 m), (Value.int .i64 s)] :: F) := (Holds.bring (Holds.bring H85_ 5 rfl) 1 rfl)
    refine S_list (T_call (al := [(Value.slice a39_ 18 cp40_)]) (pre := [sl 5 1 (Value.slice a39_ 18 cp40_) 18 (bytesV (rvb (IntKind.u64.wrap m) (IntKind.u64.wrap s) ++ [116]))]) (F := sl 5 1 (Value.slice a28_ 18 cp29_) 18 (bytesV (rvb (IntKind.u64.wrap m) (IntKind.u64.wrap s) ++ [116])) :: sl 5 1 (Value.slice a18_ 17 cp19_) 17 (bytesV (rvb (IntKind.u64.wrap m) (IntKind.u64.wrap s) ++ [])) :: cl b60_ 23 [(Value.int .i64 m), (Value.int .i64 s)] :: cl b42_ 25 [(Value.slice a28_ 18 cp29_), (Value.slice a39_ 18 cp40_)] :: cl b2_ 23 [(Value.int .i64 m), (Value.int .i64 s)] :: F) rfl rfl cb24 (Tri.lend (fun h0 a0 d0 => bytesBucket18t (un R h0) (Value.slice a39_ 18 cp40_) m s hm hm2 hs hs2 (sl_RS a0 (Sub.un_right d0)))) H96_ ?_)
    rintro v100_ p101_ w97_ ⟨_, rfl, rfl, rfl⟩ S99_ H98_
    replace H98_ : Holds w97_ (ro R :: sl 5 1 (Value.slice a39_ 18 cp40_) 18 (bytesV (rvb (IntKind.u64.wrap m) (IntKind.u64.wrap s) ++ [116])) :: sl 5 1 (Value.slice a28_ 18 cp29_) 18 (bytesV (rvb (IntKind.u64.wrap m) (IntKind.u64.wrap s) ++ [116])) :: sl 5 1 (Value.slice a18_ 17 cp19_) 17 (bytesV (rvb (IntKind.u64.wrap m) (IntKind.u64.wrap s) ++ [])) :: cl b60_ 23 [(Value.int .i64 m), (Value.int .i64 s)] :: cl b42_ 25 [(Value.slice a28_ 18 cp29_), (Value.slice a39_ 18 cp40_)] :: cl b2_ 23 [(Value.int .i64 m), (Value.int .i64 s)] :: F) := H98_
    have S102_ := Same.trans S89_ S99_
    refine S_list (T_val (v := (Value.tuple #[(Value.agg #[(Value.int .i64 m), (Value.int .i64 s)]), (Value.bool true), (Value.bool true)])) (x_move rfl) ?_)
    refine S_list (T_val (v := (Value.agg #[(Value.int .i64 m), (Value.int .i64 s)])) (by kernel_rfl) ?_)
    refine S_list (T_val (v := (Value.bool true)) (by kernel_rfl) ?_)
    refine S_list (T_val (v := (Value.bool true)) (by kernel_rfl) ?_)
    refine S_list (T_alloc z23 H98_ ?_)
    intro b103_ w104_ S106_ H105_
    replace H105_ : Holds w104_ (cl b103_ 23 [(Value.int .i64 0), (Value.int .i64 0)] :: ro R :: sl 5 1 (Value.slice a39_ 18 cp40_) 18 (bytesV (rvb (IntKind.u64.wrap m) (IntKind.u64.wrap s) ++ [116])) :: sl 5 1 (Value.slice a28_ 18 cp29_) 18 (bytesV (rvb (IntKind.u64.wrap m) (IntKind.u64.wrap s) ++ [116])) :: sl 5 1 (Value.slice a18_ 17 cp19_) 17 (bytesV (rvb (IntKind.u64.wrap m) (IntKind.u64.wrap s) ++ [])) :: cl b60_ 23 [(Value.int .i64 m), (Value.int .i64 s)] :: cl b42_ 25 [(Value.slice a28_ 18 cp29_), (Value.slice a39_ 18 cp40_)] :: cl b2_ 23 [(Value.int .i64 m), (Value.int .i64 s)] :: F) := H105_
    have S107_ := Same.trans S102_ S106_
    refine S_list0 (T_storeN (vs := [(Value.int .i64 m), (Value.int .i64 s)]) rfl rfl z23 rfl (by simp [Value.oneCell']) H105_ 0 rfl (Nat.le_of_ble_eq_true (by rfl)) ?_)
    intro w108_ S110_ H109_
    replace H109_ : Holds w108_ (cl b103_ 23 [(Value.int .i64 m), (Value.int .i64 s)] :: ro R :: sl 5 1 (Value.slice a39_ 18 cp40_) 18 (bytesV (rvb (IntKind.u64.wrap m) (IntKind.u64.wrap s) ++ [116])) :: sl 5 1 (Value.slice a28_ 18 cp29_) 18 (bytesV (rvb (IntKind.u64.wrap m) (IntKind.u64.wrap s) ++ [116])) :: sl 5 1 (Value.slice a18_ 17 cp19_) 17 (bytesV (rvb (IntKind.u64.wrap m) (IntKind.u64.wrap s) ++ [])) :: cl b60_ 23 [(Value.int .i64 m), (Value.int .i64 s)] :: cl b42_ 25 [(Value.slice a28_ 18 cp29_), (Value.slice a39_ 18 cp40_)] :: cl b2_ 23 [(Value.int .i64 m), (Value.int .i64 s)] :: F) := H109_
    have S111_ := Same.trans S107_ S110_
    refine S_list (T_val (v := (Value.bool true)) (x_assign rfl) ?_)
    refine S_list (T_val (v := (Value.bool true)) (x_assign rfl) ?_)
    refine wpList_nil ?_
    refine (X_then (hK95_ _ _ ?_))
    clear hK95_
    refine C_seq (fun K112_ hK112_ => ?_)
    refine C_reg ?_
    refine S_list (T_val (v := (Value.bool true)) (x_move rfl) ?_)
    refine S_list (T_val (v := (Value.bool false)) (x_cast (x_not (b := true) rfl) rfl) ?_)
    refine S_list (T_val (v := (Value.bool false)) (x_move rfl) ?_)
    refine S_yes (j := 2) (dj := 42) (b := false) rfl rfl rfl (T_val (v := (Value.agg #[(Value.int .i64 m), (Value.int .i64 s)])) (x_loadN (vs := [(Value.int .i64 m), (Value.int .i64 s)]) rfl Try.underlying23 rfl z23 rfl (Rd.cells (Holds.rd H109_ 0 rfl) 0 rfl)) ?_)
    refine S_yes (j := 2) (dj := 42) (b := false) rfl rfl rfl (T_val (v := (Value.agg #[(Value.int .i64 m), (Value.int .i64 s)])) (x_loadN (vs := [(Value.int .i64 m), (Value.int .i64 s)]) rfl Try.underlying23 rfl z23 rfl (Rd.cells (Holds.rd H109_ 7 rfl) 0 rfl)) ?_)
    refine S_yes (j := 2) (dj := 42) (b := false) rfl rfl rfl (T_val (v := (Value.bool false)) (x_cast (x_neqS rfl rfl (by kernel_rfl) (eq_struct Try.underlying23 (by kernel_rfl) (eqf_cons rfl (run_part1 Try.underlying2 rfl rfl) (run_part1 Try.underlying2 rfl rfl) (eq_int Try.underlying2) (eqf_cons rfl (run_part1 Try.underlying2 rfl rfl) (run_part1 Try.underlying2 rfl rfl) (eq_int Try.underlying2) (eqf_nil))))) (by simp)) ?_)
    refine S_list (T_pickF (v := (Value.bool false)) rfl rfl ?_)
    refine S_list (T_val (v := (Value.bool false)) (x_move rfl) ?_)
    refine S_yes (j := 7) (dj := 47) (b := false) rfl rfl rfl (T_val (v := (Value.bool true)) (x_move rfl) ?_)
    refine S_yes (j := 7) (dj := 47) (b := false) rfl rfl rfl (T_val (v := (Value.bool true)) (x_move rfl) ?_)
    refine S_yes (j := 7) (dj := 47) (b := false) rfl rfl rfl (T_val (v := (Value.bool false)) (x_cast (x_neqB rfl rfl Try.underlying4) rfl) ?_)
    refine S_list (T_pickF (v := (Value.bool false)) rfl rfl ?_)
    refine S_list (T_val (v := (Value.bool false)) (x_move rfl) ?_)
    refine S_yes (j := 12) (dj := 52) (b := false) rfl rfl rfl (T_val (v := (Value.slice a39_ 18 cp40_)) (x_move rfl) ?_)
    refine S_yes (j := 12) (dj := 52) (b := false) rfl rfl rfl (T_val (v := (Value.int .i64 18)) (x_lenS rfl Try.underlying25) ?_)
    refine S_yes (j := 12) (dj := 52) (b := false) rfl rfl rfl (T_val (v := (Value.slice a18_ 17 cp19_)) (x_move rfl) ?_)
    refine S_yes (j := 12) (dj := 52) (b := false) rfl rfl rfl (T_val (v := (Value.int .i64 17)) (x_lenS rfl Try.underlying25) ?_)
    refine S_yes (j := 12) (dj := 52) (b := false) rfl rfl rfl (T_val (v := (Value.bool false)) (x_bin rfl rfl rfl) ?_)
    refine S_list (T_pickF (v := (Value.bool false)) rfl rfl ?_)
    refine S_list (T_val (v := (Value.bool false)) (x_move rfl) ?_)
    refine S_yes (j := 19) (dj := 59) (b := false) rfl rfl rfl (T_val (v := (Value.slice a39_ 18 cp40_)) (x_move rfl) ?_)
    refine S_yes (j := 19) (dj := 59) (b := false) rfl rfl rfl (T_val (v := (Value.slice a18_ 17 cp19_)) (x_move rfl) ?_)
    refine S_yes (j := 19) (dj := 59) (b := false) rfl rfl rfl (T_val (v := (Value.int .i64 17)) (x_lenS rfl Try.underlying25) ?_)
    refine S_yes (j := 19) (dj := 59) (b := false) rfl rfl rfl (T_val (v := (Value.slice a39_ 17 cp40_)) (x_slice (l := 0) (h := 17) rfl Try.underlying25 z5 ⟨_, _, rfl, by omega, by omega, by omega⟩ rfl (by cases a39_ <;> simp [Addr.add])) ?_)
    refine S_yes (j := 19) (dj := 59) (b := false) rfl rfl rfl (T_val (v := (Value.slice a18_ 17 cp19_)) (x_move rfl) ?_)
    have H113_ : Holds w108_ (ro R :: sl 5 1 (Value.slice a39_ 18 cp40_) 18 (bytesV (rvb (IntKind.u64.wrap m) (IntKind.u64.wrap s) ++ [116])) :: sl 5 1 (Value.slice a18_ 17 cp19_) 17 (bytesV (rvb (IntKind.u64.wrap m) (IntKind.u64.wrap s) ++ [])) :: cl b103_ 23 [(Value.int .i64 m), (Value.int .i64 s)] :: sl 5 1 (Value.slice a28_ 18 cp29_) 18 (bytesV (rvb (IntKind.u64.wrap m) (IntKind.u64.wrap s) ++ [116])) :: cl b60_ 23 [(Value.int .i64 m), (Value.int .i64 s)] :: cl b42_ 25 [(Value.slice a28_ 18 cp29_), (Value.slice a39_ 18 cp40_)] :: cl b2_ 23 [(Value.int .i64 m), (Value.int .i64 s)] :: F) := (Holds.bring (Holds.bring (Holds.bring H109_ 4 rfl) 3 rfl) 3 rfl)
    refine S_yes (j := 19) (dj := 59) (b := false) rfl rfl rfl (T_call (al := [(Value.slice a39_ 17 cp40_), (Value.slice a18_ 17 cp19_)]) (pre := [sl 5 1 (Value.slice a39_ 18 cp40_) 18 (bytesV (rvb (IntKind.u64.wrap m) (IntKind.u64.wrap s) ++ [116])), sl 5 1 (Value.slice a18_ 17 cp19_) 17 (bytesV (rvb (IntKind.u64.wrap m) (IntKind.u64.wrap s) ++ []))]) (F := cl b103_ 23 [(Value.int .i64 m), (Value.int .i64 s)] :: sl 5 1 (Value.slice a28_ 18 cp29_) 18 (bytesV (rvb (IntKind.u64.wrap m) (IntKind.u64.wrap s) ++ [116])) :: cl b60_ 23 [(Value.int .i64 m), (Value.int .i64 s)] :: cl b42_ 25 [(Value.slice a28_ 18 cp29_), (Value.slice a39_ 18 cp40_)] :: cl b2_ 23 [(Value.int .i64 m), (Value.int .i64 s)] :: F) rfl rfl cb8 (Tri.lend (fun h0 a0 d0 => Tri.lend (fun h1 a1 d1 => rvSameEq _ (Value.slice a39_ 17 cp40_) (Value.slice a18_ 17 cp19_) 17 17 ((rvb (IntKind.u64.wrap m) (IntKind.u64.wrap s) ++ [116]).take 17) (rvb (IntKind.u64.wrap m) (IntKind.u64.wrap s) ++ []) (cast1 (P := RS _ 1 _ 17) (by simp [bytesV]) (RS.sub (k := 17) (RS.mono (sl_RS a0 (Sub.un_right d0)) (Sub.trans' (Sub.un_left _ _) (Sub.rfl' _))) (by omega))) (RS.mono (sl_RS a1 (Sub.un_right d1)) (Sub.rfl' _)) (by kernel_rfl)))) H113_ ?_)
    rintro v117_ p118_ w114_ ⟨_, rfl, ⟨_, rfl, rfl, rfl⟩⟩ S116_ H115_
    replace H115_ : Holds w114_ (ro R :: sl 5 1 (Value.slice a39_ 18 cp40_) 18 (bytesV (rvb (IntKind.u64.wrap m) (IntKind.u64.wrap s) ++ [116])) :: sl 5 1 (Value.slice a18_ 17 cp19_) 17 (bytesV (rvb (IntKind.u64.wrap m) (IntKind.u64.wrap s) ++ [])) :: cl b103_ 23 [(Value.int .i64 m), (Value.int .i64 s)] :: sl 5 1 (Value.slice a28_ 18 cp29_) 18 (bytesV (rvb (IntKind.u64.wrap m) (IntKind.u64.wrap s) ++ [116])) :: cl b60_ 23 [(Value.int .i64 m), (Value.int .i64 s)] :: cl b42_ 25 [(Value.slice a28_ 18 cp29_), (Value.slice a39_ 18 cp40_)] :: cl b2_ 23 [(Value.int .i64 m), (Value.int .i64 s)] :: F) := H115_
    have S119_ := Same.trans S111_ S116_
    refine S_yes (j := 19) (dj := 59) (b := false) rfl rfl rfl (T_val (v := (Value.bool false)) (x_cast (x_not (b := true) rfl) rfl) ?_)
    refine S_list (T_pickF (v := (Value.bool false)) rfl rfl ?_)
    refine S_list (T_val (v := (Value.bool false)) (x_move rfl) ?_)
    refine S_yes (j := 28) (dj := 68) (b := false) rfl rfl rfl (T_val (v := (Value.slice a39_ 18 cp40_)) (x_move rfl) ?_)
    refine S_yes (j := 28) (dj := 68) (b := false) rfl rfl rfl (T_call (al := [(Value.slice a39_ 18 cp40_)]) (pre := [sl 5 1 (Value.slice a39_ 18 cp40_) 18 (bytesV (rvb (IntKind.u64.wrap m) (IntKind.u64.wrap s) ++ [116]))]) (F := sl 5 1 (Value.slice a18_ 17 cp19_) 17 (bytesV (rvb (IntKind.u64.wrap m) (IntKind.u64.wrap s) ++ [])) :: cl b103_ 23 [(Value.int .i64 m), (Value.int .i64 s)] :: sl 5 1 (Value.slice a28_ 18 cp29_) 18 (bytesV (rvb (IntKind.u64.wrap m) (IntKind.u64.wrap s) ++ [116])) :: cl b60_ 23 [(Value.int .i64 m), (Value.int .i64 s)] :: cl b42_ 25 [(Value.slice a28_ 18 cp29_), (Value.slice a39_ 18 cp40_)] :: cl b2_ 23 [(Value.int .i64 m), (Value.int .i64 s)] :: F) rfl rfl cb25 (Tri.lend (fun h0 a0 d0 => tomb18t (un R h0) (Value.slice a39_ 18 cp40_) m s (sl_RS a0 (Sub.un_right d0)))) H115_ ?_)
    rintro v123_ p124_ w120_ ⟨_, rfl, rfl, rfl⟩ S122_ H121_
    replace H121_ : Holds w120_ (ro R :: sl 5 1 (Value.slice a39_ 18 cp40_) 18 (bytesV (rvb (IntKind.u64.wrap m) (IntKind.u64.wrap s) ++ [116])) :: sl 5 1 (Value.slice a18_ 17 cp19_) 17 (bytesV (rvb (IntKind.u64.wrap m) (IntKind.u64.wrap s) ++ [])) :: cl b103_ 23 [(Value.int .i64 m), (Value.int .i64 s)] :: sl 5 1 (Value.slice a28_ 18 cp29_) 18 (bytesV (rvb (IntKind.u64.wrap m) (IntKind.u64.wrap s) ++ [116])) :: cl b60_ 23 [(Value.int .i64 m), (Value.int .i64 s)] :: cl b42_ 25 [(Value.slice a28_ 18 cp29_), (Value.slice a39_ 18 cp40_)] :: cl b2_ 23 [(Value.int .i64 m), (Value.int .i64 s)] :: F) := H121_
    have S125_ := Same.trans S119_ S122_
    refine S_yes (j := 28) (dj := 68) (b := false) rfl rfl rfl (T_val (v := (Value.bool true)) (x_move rfl) ?_)
    refine S_yes (j := 28) (dj := 68) (b := false) rfl rfl rfl (T_val (v := (Value.bool false)) (x_cast (x_neqB rfl rfl Try.underlying4) rfl) ?_)
    refine S_list (T_pickF (v := (Value.bool false)) rfl rfl ?_)
    refine S_list (T_val (v := (Value.bool false)) (x_move rfl) ?_)
    refine S_yes (j := 34) (dj := 74) (b := false) rfl rfl rfl (T_val (v := (Value.bool true)) (x_move rfl) ?_)
    refine S_yes (j := 34) (dj := 74) (b := false) rfl rfl rfl (T_val (v := (Value.bool true)) (x_move rfl) ?_)
    refine S_yes (j := 36) (dj := 76) (b := true) rfl rfl rfl (T_val (v := (Value.slice a39_ 18 cp40_)) (x_move rfl) ?_)
    refine S_yes (j := 36) (dj := 76) (b := true) rfl rfl rfl (T_val (v := (Value.slice a28_ 18 cp29_)) (x_move rfl) ?_)
    have H126_ : Holds w120_ (ro R :: sl 5 1 (Value.slice a39_ 18 cp40_) 18 (bytesV (rvb (IntKind.u64.wrap m) (IntKind.u64.wrap s) ++ [116])) :: sl 5 1 (Value.slice a28_ 18 cp29_) 18 (bytesV (rvb (IntKind.u64.wrap m) (IntKind.u64.wrap s) ++ [116])) :: sl 5 1 (Value.slice a18_ 17 cp19_) 17 (bytesV (rvb (IntKind.u64.wrap m) (IntKind.u64.wrap s) ++ [])) :: cl b103_ 23 [(Value.int .i64 m), (Value.int .i64 s)] :: cl b60_ 23 [(Value.int .i64 m), (Value.int .i64 s)] :: cl b42_ 25 [(Value.slice a28_ 18 cp29_), (Value.slice a39_ 18 cp40_)] :: cl b2_ 23 [(Value.int .i64 m), (Value.int .i64 s)] :: F) := (Holds.bring (Holds.bring (Holds.bring H121_ 4 rfl) 2 rfl) 2 rfl)
    refine S_yes (j := 36) (dj := 76) (b := true) rfl rfl rfl (T_call (al := [(Value.slice a39_ 18 cp40_), (Value.slice a28_ 18 cp29_)]) (pre := [sl 5 1 (Value.slice a39_ 18 cp40_) 18 (bytesV (rvb (IntKind.u64.wrap m) (IntKind.u64.wrap s) ++ [116])), sl 5 1 (Value.slice a28_ 18 cp29_) 18 (bytesV (rvb (IntKind.u64.wrap m) (IntKind.u64.wrap s) ++ [116]))]) (F := sl 5 1 (Value.slice a18_ 17 cp19_) 17 (bytesV (rvb (IntKind.u64.wrap m) (IntKind.u64.wrap s) ++ [])) :: cl b103_ 23 [(Value.int .i64 m), (Value.int .i64 s)] :: cl b60_ 23 [(Value.int .i64 m), (Value.int .i64 s)] :: cl b42_ 25 [(Value.slice a28_ 18 cp29_), (Value.slice a39_ 18 cp40_)] :: cl b2_ 23 [(Value.int .i64 m), (Value.int .i64 s)] :: F) rfl rfl cb8 (Tri.lend (fun h0 a0 d0 => Tri.lend (fun h1 a1 d1 => rvSameEq _ (Value.slice a39_ 18 cp40_) (Value.slice a28_ 18 cp29_) 18 18 (rvb (IntKind.u64.wrap m) (IntKind.u64.wrap s) ++ [116]) (rvb (IntKind.u64.wrap m) (IntKind.u64.wrap s) ++ [116]) (RS.mono (sl_RS a0 (Sub.un_right d0)) (Sub.trans' (Sub.un_left _ _) (Sub.rfl' _))) (RS.mono (sl_RS a1 (Sub.un_right d1)) (Sub.rfl' _)) (by kernel_rfl)))) H126_ ?_)
    rintro v130_ p131_ w127_ ⟨_, rfl, ⟨_, rfl, rfl, rfl⟩⟩ S129_ H128_
    replace H128_ : Holds w127_ (ro R :: sl 5 1 (Value.slice a39_ 18 cp40_) 18 (bytesV (rvb (IntKind.u64.wrap m) (IntKind.u64.wrap s) ++ [116])) :: sl 5 1 (Value.slice a28_ 18 cp29_) 18 (bytesV (rvb (IntKind.u64.wrap m) (IntKind.u64.wrap s) ++ [116])) :: sl 5 1 (Value.slice a18_ 17 cp19_) 17 (bytesV (rvb (IntKind.u64.wrap m) (IntKind.u64.wrap s) ++ [])) :: cl b103_ 23 [(Value.int .i64 m), (Value.int .i64 s)] :: cl b60_ 23 [(Value.int .i64 m), (Value.int .i64 s)] :: cl b42_ 25 [(Value.slice a28_ 18 cp29_), (Value.slice a39_ 18 cp40_)] :: cl b2_ 23 [(Value.int .i64 m), (Value.int .i64 s)] :: F) := H128_
    have S132_ := Same.trans S125_ S129_
    refine S_yes (j := 36) (dj := 76) (b := true) rfl rfl rfl (T_val (v := (Value.bool false)) (x_cast (x_not (b := true) rfl) rfl) ?_)
    refine S_yes (j := 34) (dj := 74) (b := false) rfl rfl rfl (T_pickT (v := (Value.bool false)) rfl rfl ?_)
    refine S_list (T_pickF (v := (Value.bool false)) rfl rfl ?_)
    refine wpList_nil ?_
    refine (X_then (hK112_ _ _ ?_))
    clear hK112_
    refine C_condF rfl ?_
    refine C_skip (X_blkN (X_then (hK93_ _ _ ?_)))
    clear hK93_
    refine C_reg ?_
    refine S_list (T_val (v := (Value.int .i64 2)) (x_bin rfl rfl (ib_add (IntWalk.i64_in _ (by omega)))) ?_)
    refine S_list (T_val (v := (Value.int .i64 2)) (x_move rfl) ?_)
    refine wpList_nil ?_
    refine (X_then ?_)
    refine hK90_ _ _ ?_
    clear hK90_
    refine C_rounds (fun K133_ hK133_ => ?_)
    refine C_seq (fun K134_ hK134_ => ?_)
    refine C_reg ?_
    refine S_list (T_val (v := (Value.bool false)) (x_bin rfl rfl rfl) ?_)
    refine wpList_nil ?_
    refine (X_then (hK134_ _ _ ?_))
    clear hK134_
    refine C_seq (fun K135_ hK135_ => ?_)
    refine C_condF rfl ?_
    refine C_exit (X_thenX (X_thenX (X_blkHit ?_)))
    refine (X_then (hK31_ _ _ ?_))
    clear hK31_
    refine C_seq (fun K136_ hK136_ => ?_)
    refine C_seq (fun K137_ hK137_ => ?_)
    refine C_reg ?_
    refine S_list (T_val (v := (Value.bool true)) (x_move rfl) ?_)
    refine wpList_nil ?_
    refine (X_then (hK137_ _ _ ?_))
    clear hK137_
    refine C_condT rfl ?_
    refine C_seq (fun K138_ hK138_ => ?_)
    refine C_reg ?_
    refine S_list (T_val (v := (Value.slice a28_ 18 cp29_)) (x_move rfl) ?_)
    refine S_list (T_val (v := (Value.int .i64 18)) (x_lenS rfl Try.underlying25) ?_)
    refine S_list (T_val (v := (Value.slice a18_ 17 cp19_)) (x_move rfl) ?_)
    refine S_list (T_val (v := (Value.int .i64 17)) (x_lenS rfl Try.underlying25) ?_)
    refine S_list (T_val (v := (Value.int .i64 18)) (x_bin rfl rfl (ib_add (IntWalk.i64_in _ (by omega)))) ?_)
    refine S_list (T_val (v := (Value.bool true)) (x_bin rfl rfl rfl) ?_)
    refine S_list (T_val (v := (Value.bool true)) (x_move rfl) ?_)
    refine S_yes (j := 6) (dj := 91) (b := true) rfl rfl rfl (T_call (al := []) (pre := []) (F := sl 5 1 (Value.slice a39_ 18 cp40_) 18 (bytesV (rvb (IntKind.u64.wrap m) (IntKind.u64.wrap s) ++ [116])) :: sl 5 1 (Value.slice a28_ 18 cp29_) 18 (bytesV (rvb (IntKind.u64.wrap m) (IntKind.u64.wrap s) ++ [116])) :: sl 5 1 (Value.slice a18_ 17 cp19_) 17 (bytesV (rvb (IntKind.u64.wrap m) (IntKind.u64.wrap s) ++ [])) :: cl b103_ 23 [(Value.int .i64 m), (Value.int .i64 s)] :: cl b60_ 23 [(Value.int .i64 m), (Value.int .i64 s)] :: cl b42_ 25 [(Value.slice a28_ 18 cp29_), (Value.slice a39_ 18 cp40_)] :: cl b2_ 23 [(Value.int .i64 m), (Value.int .i64 s)] :: F) rfl rfl cb11 (rvLive R) H128_ ?_)
    rintro v142_ p143_ w139_ ⟨rfl, rfl⟩ S141_ H140_
    replace H140_ : Holds w139_ (ro R :: sl 5 1 (Value.slice a39_ 18 cp40_) 18 (bytesV (rvb (IntKind.u64.wrap m) (IntKind.u64.wrap s) ++ [116])) :: sl 5 1 (Value.slice a28_ 18 cp29_) 18 (bytesV (rvb (IntKind.u64.wrap m) (IntKind.u64.wrap s) ++ [116])) :: sl 5 1 (Value.slice a18_ 17 cp19_) 17 (bytesV (rvb (IntKind.u64.wrap m) (IntKind.u64.wrap s) ++ [])) :: cl b103_ 23 [(Value.int .i64 m), (Value.int .i64 s)] :: cl b60_ 23 [(Value.int .i64 m), (Value.int .i64 s)] :: cl b42_ 25 [(Value.slice a28_ 18 cp29_), (Value.slice a39_ 18 cp40_)] :: cl b2_ 23 [(Value.int .i64 m), (Value.int .i64 s)] :: F) := H140_
    have S144_ := Same.trans S132_ S141_
    refine S_list (T_pickT (v := (Value.bool true)) rfl rfl ?_)
    refine S_list (T_val (v := (Value.bool true)) (x_assign rfl) ?_)
    refine wpList_nil ?_
    refine (X_then (hK138_ _ _ ?_))
    clear hK138_
    refine C_ret (X_thenR ?_)
    refine R_any (v := (Value.bool true)) (run_results1 rfl rfl) ?_
    have H145_ : Holds w139_ (ro R :: F) := (Holds.erase (Holds.erase (Holds.erase (Holds.erase (Holds.erase (Holds.erase (Holds.erase (Holds.bring H140_ 0 rfl) 1) 1) 1) 1) 1) 1) 1)
    exact ⟨_, [], rfl, ⟨rfl, rfl⟩, S144_, H145_⟩

set_option maxHeartbeats 1000000 in
theorem bucketBackf (R : HP) (m s : Int) (hm : 0 ≤ m) (hm2 : m < 9223372036854775808) (hs : 0 ≤ s) (hs2 : s < 9223372036854775808) :
    Tri Try.prog 6 #[(Value.agg #[(Value.int .i64 m), (Value.int .i64 s)]), (Value.bool false)] R [] (fun r post => r = .bool true ∧ post = []) := by
  refine Tri.into (n := 100) (al := [(Value.agg #[(Value.int .i64 m), (Value.int .i64 s)]), (Value.bool false)]) Try.func6 rfl Try.ntmps6 rfl rfl fun w F H => ?_
  replace H : Holds w (ro R :: F) := H
  refine C_seq (fun K1_ hK1_ => ?_)
  refine C_reg ?_
  refine S_list (T_box (v := (Value.agg #[(Value.int .i64 m), (Value.int .i64 s)])) rfl H ?_)
  intro b2_ w3_ S5_ H4_
  replace H4_ : Holds w3_ (cl b2_ 23 [(Value.int .i64 m), (Value.int .i64 s)] :: ro R :: F) := H4_
  have S6_ := Same.trans (Same.refl w) S5_
  refine S_list (T_val (v := (Value.bool false)) (x_assign rfl) ?_)
  refine wpList_nil ?_
  refine (X_then (hK1_ _ _ ?_))
  clear hK1_
  refine C_seq (fun K7_ hK7_ => ?_)
  refine C_seq (fun K8_ hK8_ => ?_)
  refine C_reg ?_
  refine S_list (T_val (v := (Value.pointer (some ⟨b2_, 0, none⟩))) (by kernel_rfl) ?_)
  refine S_list (T_val (v := (Value.int .i64 m)) (x_load1 rfl Try.underlying2 rfl ((Holds.rd H4_ 0 rfl) 0 (Value.int .i64 m) rfl)) ?_)
  refine S_list (T_val (v := (Value.pointer (some ⟨b2_, 1, none⟩))) (by kernel_rfl) ?_)
  refine S_list (T_val (v := (Value.int .i64 s)) (x_load1 rfl Try.underlying2 rfl ((Holds.rd H4_ 0 rfl) 1 (Value.int .i64 s) rfl)) ?_)
  refine S_list (T_val (v := (Value.int .i64 (min m s))) (x_min2 rfl rfl (min_ite _ _)) ?_)
  refine S_list (T_val (v := (Value.bool (decide (min m s < 0)))) (x_bin rfl rfl rfl) ?_)
  refine wpList_nil ?_
  refine (X_then (hK8_ _ _ ?_))
  clear hK8_
  refine C_cond (b := decide (min m s < 0)) rfl (fun c9_t => ?_) (fun c9_f => ?_)
  · have c9_tp : min m s < 0 := of_decide_eq_true c9_t
    omega
  · have c9_fp : ¬ (min m s < 0) := of_decide_eq_false c9_f
    refine C_skip (X_then (hK7_ _ _ ?_))
    clear hK7_
    refine C_seq (fun K10_ hK10_ => ?_)
    refine C_reg ?_
    refine S_list (T_val (v := (Value.agg #[(Value.int .i64 m), (Value.int .i64 s)])) (x_loadN (vs := [(Value.int .i64 m), (Value.int .i64 s)]) rfl Try.underlying23 rfl z23 rfl (Rd.cells (Holds.rd H4_ 0 rfl) 0 rfl)) ?_)
    have H11_ : Holds w3_ (ro R :: cl b2_ 23 [(Value.int .i64 m), (Value.int .i64 s)] :: F) := (Holds.bring H4_ 1 rfl)
    refine S_list (T_call (al := [(Value.agg #[(Value.int .i64 m), (Value.int .i64 s)])]) (pre := []) (F := cl b2_ 23 [(Value.int .i64 m), (Value.int .i64 s)] :: F) rfl rfl cb9 (revBytes R m s) H11_ ?_)
    rintro v15_ p16_ w12_ rfl S14_ H13_
    replace H13_ : Holds w12_ (ro R :: sl 5 1 v15_ 17 (bytesV (rvb (IntKind.u64.wrap m) (IntKind.u64.wrap s))) :: cl b2_ 23 [(Value.int .i64 m), (Value.int .i64 s)] :: F) := H13_
    have S17_ := Same.trans S6_ S14_
    obtain ⟨-, a18_, cp19_, rfl, hle20_⟩ := Holds.sl_len H13_ 1 rfl
    refine S_list (T_val (v := (Value.slice a18_ 17 cp19_)) (x_assign rfl) ?_)
    refine wpList_nil ?_
    refine (X_then (hK10_ _ _ ?_))
    clear hK10_
    refine C_seq (fun K21_ hK21_ => ?_)
    refine C_reg ?_
    refine S_list (T_val (v := (Value.agg #[(Value.int .i64 m), (Value.int .i64 s)])) (x_loadN (vs := [(Value.int .i64 m), (Value.int .i64 s)]) rfl Try.underlying23 rfl z23 rfl (Rd.cells (Holds.rd H13_ 2 rfl) 0 rfl)) ?_)
    refine S_list (T_val (v := (Value.bool false)) (x_move rfl) ?_)
    refine S_list (T_call (al := [(Value.agg #[(Value.int .i64 m), (Value.int .i64 s)]), (Value.bool false), (Value.bool false)]) (pre := []) (F := sl 5 1 (Value.slice a18_ 17 cp19_) 17 (bytesV (rvb (IntKind.u64.wrap m) (IntKind.u64.wrap s))) :: cl b2_ 23 [(Value.int .i64 m), (Value.int .i64 s)] :: F) rfl rfl cb23 (bucketBytesff R m s) H13_ ?_)
    rintro v25_ p26_ w22_ rfl S24_ H23_
    replace H23_ : Holds w22_ (ro R :: sl 5 1 v25_ 17 (bytesV (rvb (IntKind.u64.wrap m) (IntKind.u64.wrap s))) :: sl 5 1 (Value.slice a18_ 17 cp19_) 17 (bytesV (rvb (IntKind.u64.wrap m) (IntKind.u64.wrap s))) :: cl b2_ 23 [(Value.int .i64 m), (Value.int .i64 s)] :: F) := H23_
    have S27_ := Same.trans S17_ S24_
    obtain ⟨-, a28_, cp29_, rfl, hle30_⟩ := Holds.sl_len H23_ 1 rfl
    refine S_list (T_val (v := (Value.slice a28_ 17 cp29_)) (x_assign rfl) ?_)
    refine wpList_nil ?_
    refine (X_then (hK21_ _ _ ?_))
    clear hK21_
    refine C_seq (fun K31_ hK31_ => ?_)
    refine C_seq (fun K32_ hK32_ => ?_)
    refine C_reg ?_
    refine S_list (T_val (v := (Value.slice a28_ 17 cp29_)) (x_move rfl) ?_)
    refine S_list (T_val (v := (Value.agg #[(Value.int .i64 m), (Value.int .i64 s)])) (x_loadN (vs := [(Value.int .i64 m), (Value.int .i64 s)]) rfl Try.underlying23 rfl z23 rfl (Rd.cells (Holds.rd H23_ 3 rfl) 0 rfl)) ?_)
    refine S_list (T_val (v := (Value.bool false)) (x_move rfl) ?_)
    refine S_list (T_call (al := [(Value.agg #[(Value.int .i64 m), (Value.int .i64 s)]), (Value.bool false), (Value.bool true)]) (pre := []) (F := sl 5 1 (Value.slice a28_ 17 cp29_) 17 (bytesV (rvb (IntKind.u64.wrap m) (IntKind.u64.wrap s))) :: sl 5 1 (Value.slice a18_ 17 cp19_) 17 (bytesV (rvb (IntKind.u64.wrap m) (IntKind.u64.wrap s))) :: cl b2_ 23 [(Value.int .i64 m), (Value.int .i64 s)] :: F) rfl rfl cb23 (bucketBytesft R m s) H23_ ?_)
    rintro v36_ p37_ w33_ rfl S35_ H34_
    replace H34_ : Holds w33_ (ro R :: sl 5 1 v36_ 18 (bytesV (rvb (IntKind.u64.wrap m) (IntKind.u64.wrap s) ++ [0])) :: sl 5 1 (Value.slice a28_ 17 cp29_) 17 (bytesV (rvb (IntKind.u64.wrap m) (IntKind.u64.wrap s))) :: sl 5 1 (Value.slice a18_ 17 cp19_) 17 (bytesV (rvb (IntKind.u64.wrap m) (IntKind.u64.wrap s))) :: cl b2_ 23 [(Value.int .i64 m), (Value.int .i64 s)] :: F) := H34_
    have S38_ := Same.trans S27_ S35_
    obtain ⟨-, a39_, cp40_, rfl, hle41_⟩ := Holds.sl_len H34_ 1 rfl
    refine S_list (T_new (obj := .cells #[(Value.slice a28_ 17 cp29_), (Value.slice a39_ 18 cp40_)] 25) (f := fun b => .slice (some ⟨b, 0, none⟩) 2 2) (A := fun b => cl b 25 [(Value.slice a28_ 17 cp29_), (Value.slice a39_ 18 cp40_)]) (by kernel_rfl) (fun l h => h.alloc _ _) H34_ ?_)
    intro b42_ w43_ S45_ H44_
    replace H44_ : Holds w43_ (cl b42_ 25 [(Value.slice a28_ 17 cp29_), (Value.slice a39_ 18 cp40_)] :: ro R :: sl 5 1 (Value.slice a39_ 18 cp40_) 18 (bytesV (rvb (IntKind.u64.wrap m) (IntKind.u64.wrap s) ++ [0])) :: sl 5 1 (Value.slice a28_ 17 cp29_) 17 (bytesV (rvb (IntKind.u64.wrap m) (IntKind.u64.wrap s))) :: sl 5 1 (Value.slice a18_ 17 cp19_) 17 (bytesV (rvb (IntKind.u64.wrap m) (IntKind.u64.wrap s))) :: cl b2_ 23 [(Value.int .i64 m), (Value.int .i64 s)] :: F) := H44_
    have S46_ := Same.trans S38_ S45_
    refine S_list (T_val (v := (Value.int .i64 2)) (x_lenS rfl Try.underlying45) ?_)
    refine S_list (T_val (v := (Value.int .i64 0)) (x_move rfl) ?_)
    refine wpList_nil ?_
    refine (X_then (hK32_ _ _ ?_))
    clear hK32_
    refine C_block ?_
    refine C_loopN 3 ?_
    refine C_rounds (fun K47_ hK47_ => ?_)
    refine C_seq (fun K48_ hK48_ => ?_)
    refine C_reg ?_
    refine S_list (T_val (v := (Value.bool true)) (x_bin rfl rfl rfl) ?_)
    refine wpList_nil ?_
    refine (X_then (hK48_ _ _ ?_))
    clear hK48_
    refine C_seq (fun K49_ hK49_ => ?_)
    refine C_condT rfl ?_
    refine C_skip (X_then (hK49_ _ _ ?_))
    clear hK49_
    refine C_seq (fun K50_ hK50_ => ?_)
    refine C_block ?_
    refine C_seq (fun K51_ hK51_ => ?_)
    refine C_reg ?_
    refine S_list (T_val (v := (Value.pointer (some ⟨b42_, 0, none⟩))) (x_indexAddr rfl rfl Try.underlying45 z25 (by omega) (by omega) (by omega : _ = 0) (by first | rfl | simp | (congr 1; omega))) ?_)
    refine S_list (T_val (v := (Value.slice a28_ 17 cp29_)) (x_load1 rfl Try.underlying25 rfl ((Holds.rd H44_ 0 rfl) 0 (Value.slice a28_ 17 cp29_) rfl)) ?_)
    refine S_list (T_val (v := (Value.slice a28_ 17 cp29_)) (x_assign rfl) ?_)
    refine wpList_nil ?_
    refine (X_then (hK51_ _ _ ?_))
    clear hK51_
    refine C_seq (fun K52_ hK52_ => ?_)
    refine C_reg ?_
    refine S_list (T_val (v := (Value.slice a28_ 17 cp29_)) (x_move rfl) ?_)
    have H53_ : Holds w43_ (cl b42_ 25 [(Value.slice a28_ 17 cp29_), (Value.slice a39_ 18 cp40_)] :: ro R :: sl 5 1 (Value.slice a39_ 18 cp40_) 18 (bytesV (rvb (IntKind.u64.wrap m) (IntKind.u64.wrap s) ++ [0])) :: sl 5 1 (Value.slice a28_ 17 cp29_) 17 (bytesV (rvb (IntKind.u64.wrap m) (IntKind.u64.wrap s) ++ [])) :: sl 5 1 (Value.slice a18_ 17 cp19_) 17 (bytesV (rvb (IntKind.u64.wrap m) (IntKind.u64.wrap s))) :: cl b2_ 23 [(Value.int .i64 m), (Value.int .i64 s)] :: F) := cast2 (P := fun (c__ : List Value) (k__ : Nat) => Holds w43_ (cl b42_ 25 [(Value.slice a28_ 17 cp29_), (Value.slice a39_ 18 cp40_)] :: ro R :: sl 5 1 (Value.slice a39_ 18 cp40_) 18 (bytesV (rvb (IntKind.u64.wrap m) (IntKind.u64.wrap s) ++ [0])) :: sl 5 1 (Value.slice a28_ 17 cp29_) k__ c__ :: sl 5 1 (Value.slice a18_ 17 cp19_) 17 (bytesV (rvb (IntKind.u64.wrap m) (IntKind.u64.wrap s))) :: cl b2_ 23 [(Value.int .i64 m), (Value.int .i64 s)] :: F)) (by rw [List.append_nil] : bytesV (rvb (IntKind.u64.wrap m) (IntKind.u64.wrap s)) = bytesV (rvb (IntKind.u64.wrap m) (IntKind.u64.wrap s) ++ [])) (rfl : 17 = 17) H44_
    have H54_ : Holds w43_ (ro R :: sl 5 1 (Value.slice a28_ 17 cp29_) 17 (bytesV (rvb (IntKind.u64.wrap m) (IntKind.u64.wrap s) ++ [])) :: cl b42_ 25 [(Value.slice a28_ 17 cp29_), (Value.slice a39_ 18 cp40_)] :: sl 5 1 (Value.slice a39_ 18 cp40_) 18 (bytesV (rvb (IntKind.u64.wrap m) (IntKind.u64.wrap s) ++ [0])) :: sl 5 1 (Value.slice a18_ 17 cp19_) 17 (bytesV (rvb (IntKind.u64.wrap m) (IntKind.u64.wrap s))) :: cl b2_ 23 [(Value.int .i64 m), (Value.int .i64 s)] :: F) := (Holds.bring (Holds.bring H53_ 3 rfl) 2 rfl)
    refine S_list (T_call (al := [(Value.slice a28_ 17 cp29_)]) (pre := [sl 5 1 (Value.slice a28_ 17 cp29_) 17 (bytesV (rvb (IntKind.u64.wrap m) (IntKind.u64.wrap s) ++ []))]) (F := cl b42_ 25 [(Value.slice a28_ 17 cp29_), (Value.slice a39_ 18 cp40_)] :: sl 5 1 (Value.slice a39_ 18 cp40_) 18 (bytesV (rvb (IntKind.u64.wrap m) (IntKind.u64.wrap s) ++ [0])) :: sl 5 1 (Value.slice a18_ 17 cp19_) 17 (bytesV (rvb (IntKind.u64.wrap m) (IntKind.u64.wrap s))) :: cl b2_ 23 [(Value.int .i64 m), (Value.int .i64 s)] :: F) rfl rfl cb24 (Tri.lend (fun h0 a0 d0 => bytesBucket17 (un R h0) (Value.slice a28_ 17 cp29_) m s hm hm2 hs hs2 (sl_RS a0 (Sub.un_right d0)))) H54_ ?_)
    rintro v58_ p59_ w55_ ⟨_, rfl, rfl, rfl⟩ S57_ H56_
    replace H56_ : Holds w55_ (ro R :: sl 5 1 (Value.slice a28_ 17 cp29_) 17 (bytesV (rvb (IntKind.u64.wrap m) (IntKind.u64.wrap s) ++ [])) :: cl b42_ 25 [(Value.slice a28_ 17 cp29_), (Value.slice a39_ 18 cp40_)] :: sl 5 1 (Value.slice a39_ 18 cp40_) 18 (bytesV (rvb (IntKind.u64.wrap m) (IntKind.u64.wrap s) ++ [0])) :: sl 5 1 (Value.slice a18_ 17 cp19_) 17 (bytesV (rvb (IntKind.u64.wrap m) (IntKind.u64.wrap s))) :: cl b2_ 23 [(Value.int .i64 m), (Value.int .i64 s)] :: F) := H56_
    have S60_ := Same.trans S46_ S57_
    refine S_list (T_val (v := (Value.tuple #[(Value.agg #[(Value.int .i64 m), (Value.int .i64 s)]), (Value.bool false), (Value.bool true)])) (x_move rfl) ?_)
    refine S_list (T_val (v := (Value.agg #[(Value.int .i64 m), (Value.int .i64 s)])) (by kernel_rfl) ?_)
    refine S_list (T_val (v := (Value.bool false)) (by kernel_rfl) ?_)
    refine S_list (T_val (v := (Value.bool true)) (by kernel_rfl) ?_)
    refine S_list (T_alloc z23 H56_ ?_)
    intro b61_ w62_ S64_ H63_
    replace H63_ : Holds w62_ (cl b61_ 23 [(Value.int .i64 0), (Value.int .i64 0)] :: ro R :: sl 5 1 (Value.slice a28_ 17 cp29_) 17 (bytesV (rvb (IntKind.u64.wrap m) (IntKind.u64.wrap s) ++ [])) :: cl b42_ 25 [(Value.slice a28_ 17 cp29_), (Value.slice a39_ 18 cp40_)] :: sl 5 1 (Value.slice a39_ 18 cp40_) 18 (bytesV (rvb (IntKind.u64.wrap m) (IntKind.u64.wrap s) ++ [0])) :: sl 5 1 (Value.slice a18_ 17 cp19_) 17 (bytesV (rvb (IntKind.u64.wrap m) (IntKind.u64.wrap s))) :: cl b2_ 23 [(Value.int .i64 m), (Value.int .i64 s)] :: F) := H63_
    have S65_ := Same.trans S60_ S64_
    refine S_list0 (T_storeN (vs := [(Value.int .i64 m), (Value.int .i64 s)]) rfl rfl z23 rfl (by simp [Value.oneCell']) H63_ 0 rfl (Nat.le_of_ble_eq_true (by rfl)) ?_)
    intro w66_ S68_ H67_
    replace H67_ : Holds w66_ (cl b61_ 23 [(Value.int .i64 m), (Value.int .i64 s)] :: ro R :: sl 5 1 (Value.slice a28_ 17 cp29_) 17 (bytesV (rvb (IntKind.u64.wrap m) (IntKind.u64.wrap s) ++ [])) :: cl b42_ 25 [(Value.slice a28_ 17 cp29_), (Value.slice a39_ 18 cp40_)] :: sl 5 1 (Value.slice a39_ 18 cp40_) 18 (bytesV (rvb (IntKind.u64.wrap m) (IntKind.u64.wrap s) ++ [0])) :: sl 5 1 (Value.slice a18_ 17 cp19_) 17 (bytesV (rvb (IntKind.u64.wrap m) (IntKind.u64.wrap s))) :: cl b2_ 23 [(Value.int .i64 m), (Value.int .i64 s)] :: F) := H67_
    have S69_ := Same.trans S65_ S68_
    refine S_list (T_val (v := (Value.bool false)) (x_assign rfl) ?_)
    refine S_list (T_val (v := (Value.bool true)) (x_assign rfl) ?_)
    refine wpList_nil ?_
    refine (X_then (hK52_ _ _ ?_))
    clear hK52_
    refine C_seq (fun K70_ hK70_ => ?_)
    refine C_reg ?_
    refine S_list (T_val (v := (Value.bool true)) (x_move rfl) ?_)
    refine S_list (T_val (v := (Value.bool false)) (x_cast (x_not (b := true) rfl) rfl) ?_)
    refine S_list (T_val (v := (Value.bool false)) (x_move rfl) ?_)
    refine S_yes (j := 2) (dj := 42) (b := false) rfl rfl rfl (T_val (v := (Value.agg #[(Value.int .i64 m), (Value.int .i64 s)])) (x_loadN (vs := [(Value.int .i64 m), (Value.int .i64 s)]) rfl Try.underlying23 rfl z23 rfl (Rd.cells (Holds.rd H67_ 0 rfl) 0 rfl)) ?_)
    refine S_yes (j := 2) (dj := 42) (b := false) rfl rfl rfl (T_val (v := (Value.agg #[(Value.int .i64 m), (Value.int .i64 s)])) (x_loadN (vs := [(Value.int .i64 m), (Value.int .i64 s)]) rfl Try.underlying23 rfl z23 rfl (Rd.cells (Holds.rd H67_ 6 rfl) 0 rfl)) ?_)
    refine S_yes (j := 2) (dj := 42) (b := false) rfl rfl rfl (T_val (v := (Value.bool false)) (x_cast (x_neqS rfl rfl (by kernel_rfl) (eq_struct Try.underlying23 (by kernel_rfl) (eqf_cons rfl (run_part1 Try.underlying2 rfl rfl) (run_part1 Try.underlying2 rfl rfl) (eq_int Try.underlying2) (eqf_cons rfl (run_part1 Try.underlying2 rfl rfl) (run_part1 Try.underlying2 rfl rfl) (eq_int Try.underlying2) (eqf_nil))))) (by simp)) ?_)
    refine S_list (T_pickF (v := (Value.bool false)) rfl rfl ?_)
    refine S_list (T_val (v := (Value.bool false)) (x_move rfl) ?_)
    refine S_yes (j := 7) (dj := 47) (b := false) rfl rfl rfl (T_val (v := (Value.bool false)) (x_move rfl) ?_)
    refine S_yes (j := 7) (dj := 47) (b := false) rfl rfl rfl (T_val (v := (Value.bool false)) (x_move rfl) ?_)
    refine S_yes (j := 7) (dj := 47) (b := false) rfl rfl rfl (T_val (v := (Value.bool false)) (x_cast (x_neqB rfl rfl Try.underlying4) rfl) ?_)
    refine S_list (T_pickF (v := (Value.bool false)) rfl rfl ?_)
    refine S_list (T_val (v := (Value.bool false)) (x_move rfl) ?_)
    refine S_yes (j := 12) (dj := 52) (b := false) rfl rfl rfl (T_val (v := (Value.slice a28_ 17 cp29_)) (x_move rfl) ?_)
    refine S_yes (j := 12) (dj := 52) (b := false) rfl rfl rfl (T_val (v := (Value.int .i64 17)) (x_lenS rfl Try.underlying25) ?_)
    refine S_yes (j := 12) (dj := 52) (b := false) rfl rfl rfl (T_val (v := (Value.slice a18_ 17 cp19_)) (x_move rfl) ?_)
    refine S_yes (j := 12) (dj := 52) (b := false) rfl rfl rfl (T_val (v := (Value.int .i64 17)) (x_lenS rfl Try.underlying25) ?_)
    refine S_yes (j := 12) (dj := 52) (b := false) rfl rfl rfl (T_val (v := (Value.bool false)) (x_bin rfl rfl rfl) ?_)
    refine S_list (T_pickF (v := (Value.bool false)) rfl rfl ?_)
    refine S_list (T_val (v := (Value.bool false)) (x_move rfl) ?_)
    refine S_yes (j := 19) (dj := 59) (b := false) rfl rfl rfl (T_val (v := (Value.slice a28_ 17 cp29_)) (x_move rfl) ?_)
    refine S_yes (j := 19) (dj := 59) (b := false) rfl rfl rfl (T_val (v := (Value.slice a18_ 17 cp19_)) (x_move rfl) ?_)
    refine S_yes (j := 19) (dj := 59) (b := false) rfl rfl rfl (T_val (v := (Value.int .i64 17)) (x_lenS rfl Try.underlying25) ?_)
    refine S_yes (j := 19) (dj := 59) (b := false) rfl rfl rfl (T_val (v := (Value.slice a28_ 17 cp29_)) (x_slice (l := 0) (h := 17) rfl Try.underlying25 z5 ⟨_, _, rfl, by omega, by omega, by omega⟩ rfl (by cases a28_ <;> simp [Addr.add])) ?_)
    refine S_yes (j := 19) (dj := 59) (b := false) rfl rfl rfl (T_val (v := (Value.slice a18_ 17 cp19_)) (x_move rfl) ?_)
    have H71_ : Holds w66_ (cl b61_ 23 [(Value.int .i64 m), (Value.int .i64 s)] :: ro R :: sl 5 1 (Value.slice a28_ 17 cp29_) 17 (bytesV (rvb (IntKind.u64.wrap m) (IntKind.u64.wrap s) ++ [])) :: cl b42_ 25 [(Value.slice a28_ 17 cp29_), (Value.slice a39_ 18 cp40_)] :: sl 5 1 (Value.slice a39_ 18 cp40_) 18 (bytesV (rvb (IntKind.u64.wrap m) (IntKind.u64.wrap s) ++ [0])) :: sl 5 1 (Value.slice a18_ 17 cp19_) 17 (bytesV (rvb (IntKind.u64.wrap m) (IntKind.u64.wrap s) ++ [])) :: cl b2_ 23 [(Value.int .i64 m), (Value.int .i64 s)] :: F) := cast2 (P := fun (c__ : List Value) (k__ : Nat) => Holds w66_ (cl b61_ 23 [(Value.int .i64 m), (Value.int .i64 s)] :: ro R :: sl 5 1 (Value.slice a28_ 17 cp29_) 17 (bytesV (rvb (IntKind.u64.wrap m) (IntKind.u64.wrap s) ++ [])) :: cl b42_ 25 [(Value.slice a28_ 17 cp29_), (Value.slice a39_ 18 cp40_)] :: sl 5 1 (Value.slice a39_ 18 cp40_) 18 (bytesV (rvb (IntKind.u64.wrap m) (IntKind.u64.wrap s) ++ [0])) :: sl 5 1 (Value.slice a18_ 17 cp19_) k__ c__ :: cl b2_ 23 [(Value.int .i64 m), (Value.int .i64 s)] :: F)) (by rw [List.append_nil] : bytesV (rvb (IntKind.u64.wrap m) (IntKind.u64.wrap s)) = bytesV (rvb (IntKind.u64.wrap m) (IntKind.u64.wrap s) ++ [])) (rfl : 17 = 17) H67_
    have H72_ : Holds w66_ (ro R :: sl 5 1 (Value.slice a28_ 17 cp29_) 17 (bytesV (rvb (IntKind.u64.wrap m) (IntKind.u64.wrap s) ++ [])) :: sl 5 1 (Value.slice a18_ 17 cp19_) 17 (bytesV (rvb (IntKind.u64.wrap m) (IntKind.u64.wrap s) ++ [])) :: cl b61_ 23 [(Value.int .i64 m), (Value.int .i64 s)] :: cl b42_ 25 [(Value.slice a28_ 17 cp29_), (Value.slice a39_ 18 cp40_)] :: sl 5 1 (Value.slice a39_ 18 cp40_) 18 (bytesV (rvb (IntKind.u64.wrap m) (IntKind.u64.wrap s) ++ [0])) :: cl b2_ 23 [(Value.int .i64 m), (Value.int .i64 s)] :: F) := (Holds.bring (Holds.bring (Holds.bring H71_ 5 rfl) 3 rfl) 3 rfl)
    refine S_yes (j := 19) (dj := 59) (b := false) rfl rfl rfl (T_call (al := [(Value.slice a28_ 17 cp29_), (Value.slice a18_ 17 cp19_)]) (pre := [sl 5 1 (Value.slice a28_ 17 cp29_) 17 (bytesV (rvb (IntKind.u64.wrap m) (IntKind.u64.wrap s) ++ [])), sl 5 1 (Value.slice a18_ 17 cp19_) 17 (bytesV (rvb (IntKind.u64.wrap m) (IntKind.u64.wrap s) ++ []))]) (F := cl b61_ 23 [(Value.int .i64 m), (Value.int .i64 s)] :: cl b42_ 25 [(Value.slice a28_ 17 cp29_), (Value.slice a39_ 18 cp40_)] :: sl 5 1 (Value.slice a39_ 18 cp40_) 18 (bytesV (rvb (IntKind.u64.wrap m) (IntKind.u64.wrap s) ++ [0])) :: cl b2_ 23 [(Value.int .i64 m), (Value.int .i64 s)] :: F) rfl rfl cb8 (Tri.lend (fun h0 a0 d0 => Tri.lend (fun h1 a1 d1 => rvSameEq _ (Value.slice a28_ 17 cp29_) (Value.slice a18_ 17 cp19_) 17 17 ((rvb (IntKind.u64.wrap m) (IntKind.u64.wrap s) ++ []).take 17) (rvb (IntKind.u64.wrap m) (IntKind.u64.wrap s) ++ []) (cast1 (P := RS _ 1 _ 17) (by simp [bytesV]) (RS.sub (k := 17) (RS.mono (sl_RS a0 (Sub.un_right d0)) (Sub.trans' (Sub.un_left _ _) (Sub.rfl' _))) (by omega))) (RS.mono (sl_RS a1 (Sub.un_right d1)) (Sub.rfl' _)) (by kernel_rfl)))) H72_ ?_)
    rintro v76_ p77_ w73_ ⟨_, rfl, ⟨_, rfl, rfl, rfl⟩⟩ S75_ H74_
    replace H74_ : Holds w73_ (ro R :: sl 5 1 (Value.slice a28_ 17 cp29_) 17 (bytesV (rvb (IntKind.u64.wrap m) (IntKind.u64.wrap s) ++ [])) :: sl 5 1 (Value.slice a18_ 17 cp19_) 17 (bytesV (rvb (IntKind.u64.wrap m) (IntKind.u64.wrap s) ++ [])) :: cl b61_ 23 [(Value.int .i64 m), (Value.int .i64 s)] :: cl b42_ 25 [(Value.slice a28_ 17 cp29_), (Value.slice a39_ 18 cp40_)] :: sl 5 1 (Value.slice a39_ 18 cp40_) 18 (bytesV (rvb (IntKind.u64.wrap m) (IntKind.u64.wrap s) ++ [0])) :: cl b2_ 23 [(Value.int .i64 m), (Value.int .i64 s)] :: F) := H74_
    have S78_ := Same.trans S69_ S75_
    refine S_yes (j := 19) (dj := 59) (b := false) rfl rfl rfl (T_val (v := (Value.bool false)) (x_cast (x_not (b := true) rfl) rfl) ?_)
    refine S_list (T_pickF (v := (Value.bool false)) rfl rfl ?_)
    refine S_list (T_val (v := (Value.bool false)) (x_move rfl) ?_)
    refine S_yes (j := 28) (dj := 68) (b := false) rfl rfl rfl (T_val (v := (Value.slice a28_ 17 cp29_)) (x_move rfl) ?_)
    refine S_yes (j := 28) (dj := 68) (b := false) rfl rfl rfl (T_call (al := [(Value.slice a28_ 17 cp29_)]) (pre := [sl 5 1 (Value.slice a28_ 17 cp29_) 17 (bytesV (rvb (IntKind.u64.wrap m) (IntKind.u64.wrap s) ++ []))]) (F := sl 5 1 (Value.slice a18_ 17 cp19_) 17 (bytesV (rvb (IntKind.u64.wrap m) (IntKind.u64.wrap s) ++ [])) :: cl b61_ 23 [(Value.int .i64 m), (Value.int .i64 s)] :: cl b42_ 25 [(Value.slice a28_ 17 cp29_), (Value.slice a39_ 18 cp40_)] :: sl 5 1 (Value.slice a39_ 18 cp40_) 18 (bytesV (rvb (IntKind.u64.wrap m) (IntKind.u64.wrap s) ++ [0])) :: cl b2_ 23 [(Value.int .i64 m), (Value.int .i64 s)] :: F) rfl rfl cb25 (Tri.lend (fun h0 a0 d0 => tomb17 (un R h0) (Value.slice a28_ 17 cp29_) m s (sl_RS a0 (Sub.un_right d0)))) H74_ ?_)
    rintro v82_ p83_ w79_ ⟨_, rfl, rfl, rfl⟩ S81_ H80_
    replace H80_ : Holds w79_ (ro R :: sl 5 1 (Value.slice a28_ 17 cp29_) 17 (bytesV (rvb (IntKind.u64.wrap m) (IntKind.u64.wrap s) ++ [])) :: sl 5 1 (Value.slice a18_ 17 cp19_) 17 (bytesV (rvb (IntKind.u64.wrap m) (IntKind.u64.wrap s) ++ [])) :: cl b61_ 23 [(Value.int .i64 m), (Value.int .i64 s)] :: cl b42_ 25 [(Value.slice a28_ 17 cp29_), (Value.slice a39_ 18 cp40_)] :: sl 5 1 (Value.slice a39_ 18 cp40_) 18 (bytesV (rvb (IntKind.u64.wrap m) (IntKind.u64.wrap s) ++ [0])) :: cl b2_ 23 [(Value.int .i64 m), (Value.int .i64 s)] :: F) := H80_
    have S84_ := Same.trans S78_ S81_
    refine S_yes (j := 28) (dj := 68) (b := false) rfl rfl rfl (T_val (v := (Value.bool false)) (x_move rfl) ?_)
    refine S_yes (j := 28) (dj := 68) (b := false) rfl rfl rfl (T_val (v := (Value.bool false)) (x_cast (x_neqB rfl rfl Try.underlying4) rfl) ?_)
    refine S_list (T_pickF (v := (Value.bool false)) rfl rfl ?_)
    refine S_list (T_val (v := (Value.bool false)) (x_move rfl) ?_)
    refine S_yes (j := 34) (dj := 74) (b := false) rfl rfl rfl (T_val (v := (Value.bool false)) (x_move rfl) ?_)
    refine S_yes (j := 34) (dj := 74) (b := false) rfl rfl rfl (T_val (v := (Value.bool false)) (x_move rfl) ?_)
    refine S_no (j := 36) (dj := 76) (b := false) rfl rfl rfl (by decide) ?_
    refine S_no (j := 36) (dj := 76) (b := false) rfl rfl rfl (by decide) ?_
    refine S_no (j := 36) (dj := 76) (b := false) rfl rfl rfl (by decide) ?_
    refine S_no (j := 36) (dj := 76) (b := false) rfl rfl rfl (by decide) ?_
    refine S_yes (j := 34) (dj := 74) (b := false) rfl rfl rfl (T_pickF (v := (Value.bool false)) rfl rfl ?_)
    refine S_list (T_pickF (v := (Value.bool false)) rfl rfl ?_)
    refine wpList_nil ?_
    refine (X_then (hK70_ _ _ ?_))
    clear hK70_
    refine C_condF rfl ?_
    refine C_skip (X_blkN (X_then (hK50_ _ _ ?_)))
    clear hK50_
    refine C_reg ?_
    refine S_list (T_val (v := (Value.int .i64 1)) (x_bin rfl rfl (ib_add (IntWalk.i64_in _ (by omega)))) ?_)
    refine S_list (T_val (v := (Value.int .i64 1)) (x_move rfl) ?_)
    refine wpList_nil ?_
    refine (X_then ?_)
    refine hK47_ _ _ ?_
    clear hK47_
    refine C_rounds (fun K85_ hK85_ => ?_)
    refine C_seq (fun K86_ hK86_ => ?_)
    refine C_reg ?_
    refine S_list (T_val (v := (Value.bool true)) (x_bin rfl rfl rfl) ?_)
    refine wpList_nil ?_
    refine (X_then (hK86_ _ _ ?_))
    clear hK86_
    refine C_seq (fun K87_ hK87_ => ?_)
    refine C_condT rfl ?_
    refine C_skip (X_then (hK87_ _ _ ?_))
    clear hK87_
    refine C_seq (fun K88_ hK88_ => ?_)
    refine C_block ?_
    refine C_seq (fun K89_ hK89_ => ?_)
    refine C_reg ?_
    refine S_list (T_val (v := (Value.pointer (some ⟨b42_, 1, none⟩))) (x_indexAddr rfl rfl Try.underlying45 z25 (by omega) (by omega) (by omega : _ = 1) (by first | rfl | simp | (congr 1; omega))) ?_)
    refine S_list (T_val (v := (Value.slice a39_ 18 cp40_)) (x_load1 rfl Try.underlying25 rfl ((Holds.rd H80_ 4 rfl) 1 (Value.slice a39_ 18 cp40_) rfl)) ?_)
    refine S_list (T_val (v := (Value.slice a39_ 18 cp40_)) (x_assign rfl) ?_)
    refine wpList_nil ?_
    refine (X_then (hK89_ _ _ ?_))
    clear hK89_
    refine C_seq (fun K90_ hK90_ => ?_)
    refine C_reg ?_
    refine S_list (T_val (v := (Value.slice a39_ 18 cp40_)) (x_move rfl) ?_)
    have H91_ : Holds w79_ (ro R :: sl 5 1 (Value.slice a39_ 18 cp40_) 18 (bytesV (rvb (IntKind.u64.wrap m) (IntKind.u64.wrap s) ++ [0])) :: sl 5 1 (Value.slice a28_ 17 cp29_) 17 (bytesV (rvb (IntKind.u64.wrap m) (IntKind.u64.wrap s) ++ [])) :: sl 5 1 (Value.slice a18_ 17 cp19_) 17 (bytesV (rvb (IntKind.u64.wrap m) (IntKind.u64.wrap s) ++ [])) :: cl b61_ 23 [(Value.int .i64 m), (Value.int .i64 s)] :: cl b42_ 25 [(Value.slice a28_ 17 cp29_), (Value.slice a39_ 18 cp40_)] :: cl b2_ 23 [(Value.int .i64 m), (Value.int .i64 s)] :: F) := (Holds.bring (Holds.bring H80_ 5 rfl) 1 rfl)
    refine S_list (T_call (al := [(Value.slice a39_ 18 cp40_)]) (pre := [sl 5 1 (Value.slice a39_ 18 cp40_) 18 (bytesV (rvb (IntKind.u64.wrap m) (IntKind.u64.wrap s) ++ [0]))]) (F := sl 5 1 (Value.slice a28_ 17 cp29_) 17 (bytesV (rvb (IntKind.u64.wrap m) (IntKind.u64.wrap s) ++ [])) :: sl 5 1 (Value.slice a18_ 17 cp19_) 17 (bytesV (rvb (IntKind.u64.wrap m) (IntKind.u64.wrap s) ++ [])) :: cl b61_ 23 [(Value.int .i64 m), (Value.int .i64 s)] :: cl b42_ 25 [(Value.slice a28_ 17 cp29_), (Value.slice a39_ 18 cp40_)] :: cl b2_ 23 [(Value.int .i64 m), (Value.int .i64 s)] :: F) rfl rfl cb24 (Tri.lend (fun h0 a0 d0 => bytesBucket18f (un R h0) (Value.slice a39_ 18 cp40_) m s hm hm2 hs hs2 (sl_RS a0 (Sub.un_right d0)))) H91_ ?_)
    rintro v95_ p96_ w92_ ⟨_, rfl, rfl, rfl⟩ S94_ H93_
    replace H93_ : Holds w92_ (ro R :: sl 5 1 (Value.slice a39_ 18 cp40_) 18 (bytesV (rvb (IntKind.u64.wrap m) (IntKind.u64.wrap s) ++ [0])) :: sl 5 1 (Value.slice a28_ 17 cp29_) 17 (bytesV (rvb (IntKind.u64.wrap m) (IntKind.u64.wrap s) ++ [])) :: sl 5 1 (Value.slice a18_ 17 cp19_) 17 (bytesV (rvb (IntKind.u64.wrap m) (IntKind.u64.wrap s) ++ [])) :: cl b61_ 23 [(Value.int .i64 m), (Value.int .i64 s)] :: cl b42_ 25 [(Value.slice a28_ 17 cp29_), (Value.slice a39_ 18 cp40_)] :: cl b2_ 23 [(Value.int .i64 m), (Value.int .i64 s)] :: F) := H93_
    have S97_ := Same.trans S84_ S94_
    refine S_list (T_val (v := (Value.tuple #[(Value.agg #[(Value.int .i64 m), (Value.int .i64 s)]), (Value.bool false), (Value.bool true)])) (x_move rfl) ?_)
    refine S_list (T_val (v := (Value.agg #[(Value.int .i64 m), (Value.int .i64 s)])) (by kernel_rfl) ?_)
    refine S_list (T_val (v := (Value.bool false)) (by kernel_rfl) ?_)
    refine S_list (T_val (v := (Value.bool true)) (by kernel_rfl) ?_)
    refine S_list (T_alloc z23 H93_ ?_)
    intro b98_ w99_ S101_ H100_
    replace H100_ : Holds w99_ (cl b98_ 23 [(Value.int .i64 0), (Value.int .i64 0)] :: ro R :: sl 5 1 (Value.slice a39_ 18 cp40_) 18 (bytesV (rvb (IntKind.u64.wrap m) (IntKind.u64.wrap s) ++ [0])) :: sl 5 1 (Value.slice a28_ 17 cp29_) 17 (bytesV (rvb (IntKind.u64.wrap m) (IntKind.u64.wrap s) ++ [])) :: sl 5 1 (Value.slice a18_ 17 cp19_) 17 (bytesV (rvb (IntKind.u64.wrap m) (IntKind.u64.wrap s) ++ [])) :: cl b61_ 23 [(Value.int .i64 m), (Value.int .i64 s)] :: cl b42_ 25 [(Value.slice a28_ 17 cp29_), (Value.slice a39_ 18 cp40_)] :: cl b2_ 23 [(Value.int .i64 m), (Value.int .i64 s)] :: F) := H100_
    have S102_ := Same.trans S97_ S101_
    refine S_list0 (T_storeN (vs := [(Value.int .i64 m), (Value.int .i64 s)]) rfl rfl z23 rfl (by simp [Value.oneCell']) H100_ 0 rfl (Nat.le_of_ble_eq_true (by rfl)) ?_)
    intro w103_ S105_ H104_
    replace H104_ : Holds w103_ (cl b98_ 23 [(Value.int .i64 m), (Value.int .i64 s)] :: ro R :: sl 5 1 (Value.slice a39_ 18 cp40_) 18 (bytesV (rvb (IntKind.u64.wrap m) (IntKind.u64.wrap s) ++ [0])) :: sl 5 1 (Value.slice a28_ 17 cp29_) 17 (bytesV (rvb (IntKind.u64.wrap m) (IntKind.u64.wrap s) ++ [])) :: sl 5 1 (Value.slice a18_ 17 cp19_) 17 (bytesV (rvb (IntKind.u64.wrap m) (IntKind.u64.wrap s) ++ [])) :: cl b61_ 23 [(Value.int .i64 m), (Value.int .i64 s)] :: cl b42_ 25 [(Value.slice a28_ 17 cp29_), (Value.slice a39_ 18 cp40_)] :: cl b2_ 23 [(Value.int .i64 m), (Value.int .i64 s)] :: F) := H104_
    have S106_ := Same.trans S102_ S105_
    refine S_list (T_val (v := (Value.bool false)) (x_assign rfl) ?_)
    refine S_list (T_val (v := (Value.bool true)) (x_assign rfl) ?_)
    refine wpList_nil ?_
    refine (X_then (hK90_ _ _ ?_))
    clear hK90_
    refine C_seq (fun K107_ hK107_ => ?_)
    refine C_reg ?_
    refine S_list (T_val (v := (Value.bool true)) (x_move rfl) ?_)
    refine S_list (T_val (v := (Value.bool false)) (x_cast (x_not (b := true) rfl) rfl) ?_)
    refine S_list (T_val (v := (Value.bool false)) (x_move rfl) ?_)
    refine S_yes (j := 2) (dj := 42) (b := false) rfl rfl rfl (T_val (v := (Value.agg #[(Value.int .i64 m), (Value.int .i64 s)])) (x_loadN (vs := [(Value.int .i64 m), (Value.int .i64 s)]) rfl Try.underlying23 rfl z23 rfl (Rd.cells (Holds.rd H104_ 0 rfl) 0 rfl)) ?_)
    refine S_yes (j := 2) (dj := 42) (b := false) rfl rfl rfl (T_val (v := (Value.agg #[(Value.int .i64 m), (Value.int .i64 s)])) (x_loadN (vs := [(Value.int .i64 m), (Value.int .i64 s)]) rfl Try.underlying23 rfl z23 rfl (Rd.cells (Holds.rd H104_ 7 rfl) 0 rfl)) ?_)
    refine S_yes (j := 2) (dj := 42) (b := false) rfl rfl rfl (T_val (v := (Value.bool false)) (x_cast (x_neqS rfl rfl (by kernel_rfl) (eq_struct Try.underlying23 (by kernel_rfl) (eqf_cons rfl (run_part1 Try.underlying2 rfl rfl) (run_part1 Try.underlying2 rfl rfl) (eq_int Try.underlying2) (eqf_cons rfl (run_part1 Try.underlying2 rfl rfl) (run_part1 Try.underlying2 rfl rfl) (eq_int Try.underlying2) (eqf_nil))))) (by simp)) ?_)
    refine S_list (T_pickF (v := (Value.bool false)) rfl rfl ?_)
    refine S_list (T_val (v := (Value.bool false)) (x_move rfl) ?_)
    refine S_yes (j := 7) (dj := 47) (b := false) rfl rfl rfl (T_val (v := (Value.bool false)) (x_move rfl) ?_)
    refine S_yes (j := 7) (dj := 47) (b := false) rfl rfl rfl (T_val (v := (Value.bool false)) (x_move rfl) ?_)
    refine S_yes (j := 7) (dj := 47) (b := false) rfl rfl rfl (T_val (v := (Value.bool false)) (x_cast (x_neqB rfl rfl Try.underlying4) rfl) ?_)
    refine S_list (T_pickF (v := (Value.bool false)) rfl rfl ?_)
    refine S_list (T_val (v := (Value.bool false)) (x_move rfl) ?_)
    refine S_yes (j := 12) (dj := 52) (b := false) rfl rfl rfl (T_val (v := (Value.slice a39_ 18 cp40_)) (x_move rfl) ?_)
    refine S_yes (j := 12) (dj := 52) (b := false) rfl rfl rfl (T_val (v := (Value.int .i64 18)) (x_lenS rfl Try.underlying25) ?_)
    refine S_yes (j := 12) (dj := 52) (b := false) rfl rfl rfl (T_val (v := (Value.slice a18_ 17 cp19_)) (x_move rfl) ?_)
    refine S_yes (j := 12) (dj := 52) (b := false) rfl rfl rfl (T_val (v := (Value.int .i64 17)) (x_lenS rfl Try.underlying25) ?_)
    refine S_yes (j := 12) (dj := 52) (b := false) rfl rfl rfl (T_val (v := (Value.bool false)) (x_bin rfl rfl rfl) ?_)
    refine S_list (T_pickF (v := (Value.bool false)) rfl rfl ?_)
    refine S_list (T_val (v := (Value.bool false)) (x_move rfl) ?_)
    refine S_yes (j := 19) (dj := 59) (b := false) rfl rfl rfl (T_val (v := (Value.slice a39_ 18 cp40_)) (x_move rfl) ?_)
    refine S_yes (j := 19) (dj := 59) (b := false) rfl rfl rfl (T_val (v := (Value.slice a18_ 17 cp19_)) (x_move rfl) ?_)
    refine S_yes (j := 19) (dj := 59) (b := false) rfl rfl rfl (T_val (v := (Value.int .i64 17)) (x_lenS rfl Try.underlying25) ?_)
    refine S_yes (j := 19) (dj := 59) (b := false) rfl rfl rfl (T_val (v := (Value.slice a39_ 17 cp40_)) (x_slice (l := 0) (h := 17) rfl Try.underlying25 z5 ⟨_, _, rfl, by omega, by omega, by omega⟩ rfl (by cases a39_ <;> simp [Addr.add])) ?_)
    refine S_yes (j := 19) (dj := 59) (b := false) rfl rfl rfl (T_val (v := (Value.slice a18_ 17 cp19_)) (x_move rfl) ?_)
    have H108_ : Holds w103_ (ro R :: sl 5 1 (Value.slice a39_ 18 cp40_) 18 (bytesV (rvb (IntKind.u64.wrap m) (IntKind.u64.wrap s) ++ [0])) :: sl 5 1 (Value.slice a18_ 17 cp19_) 17 (bytesV (rvb (IntKind.u64.wrap m) (IntKind.u64.wrap s) ++ [])) :: cl b98_ 23 [(Value.int .i64 m), (Value.int .i64 s)] :: sl 5 1 (Value.slice a28_ 17 cp29_) 17 (bytesV (rvb (IntKind.u64.wrap m) (IntKind.u64.wrap s) ++ [])) :: cl b61_ 23 [(Value.int .i64 m), (Value.int .i64 s)] :: cl b42_ 25 [(Value.slice a28_ 17 cp29_), (Value.slice a39_ 18 cp40_)] :: cl b2_ 23 [(Value.int .i64 m), (Value.int .i64 s)] :: F) := (Holds.bring (Holds.bring (Holds.bring H104_ 4 rfl) 3 rfl) 3 rfl)
    refine S_yes (j := 19) (dj := 59) (b := false) rfl rfl rfl (T_call (al := [(Value.slice a39_ 17 cp40_), (Value.slice a18_ 17 cp19_)]) (pre := [sl 5 1 (Value.slice a39_ 18 cp40_) 18 (bytesV (rvb (IntKind.u64.wrap m) (IntKind.u64.wrap s) ++ [0])), sl 5 1 (Value.slice a18_ 17 cp19_) 17 (bytesV (rvb (IntKind.u64.wrap m) (IntKind.u64.wrap s) ++ []))]) (F := cl b98_ 23 [(Value.int .i64 m), (Value.int .i64 s)] :: sl 5 1 (Value.slice a28_ 17 cp29_) 17 (bytesV (rvb (IntKind.u64.wrap m) (IntKind.u64.wrap s) ++ [])) :: cl b61_ 23 [(Value.int .i64 m), (Value.int .i64 s)] :: cl b42_ 25 [(Value.slice a28_ 17 cp29_), (Value.slice a39_ 18 cp40_)] :: cl b2_ 23 [(Value.int .i64 m), (Value.int .i64 s)] :: F) rfl rfl cb8 (Tri.lend (fun h0 a0 d0 => Tri.lend (fun h1 a1 d1 => rvSameEq _ (Value.slice a39_ 17 cp40_) (Value.slice a18_ 17 cp19_) 17 17 ((rvb (IntKind.u64.wrap m) (IntKind.u64.wrap s) ++ [0]).take 17) (rvb (IntKind.u64.wrap m) (IntKind.u64.wrap s) ++ []) (cast1 (P := RS _ 1 _ 17) (by simp [bytesV]) (RS.sub (k := 17) (RS.mono (sl_RS a0 (Sub.un_right d0)) (Sub.trans' (Sub.un_left _ _) (Sub.rfl' _))) (by omega))) (RS.mono (sl_RS a1 (Sub.un_right d1)) (Sub.rfl' _)) (by kernel_rfl)))) H108_ ?_)
    rintro v112_ p113_ w109_ ⟨_, rfl, ⟨_, rfl, rfl, rfl⟩⟩ S111_ H110_
    replace H110_ : Holds w109_ (ro R :: sl 5 1 (Value.slice a39_ 18 cp40_) 18 (bytesV (rvb (IntKind.u64.wrap m) (IntKind.u64.wrap s) ++ [0])) :: sl 5 1 (Value.slice a18_ 17 cp19_) 17 (bytesV (rvb (IntKind.u64.wrap m) (IntKind.u64.wrap s) ++ [])) :: cl b98_ 23 [(Value.int .i64 m), (Value.int .i64 s)] :: sl 5 1 (Value.slice a28_ 17 cp29_) 17 (bytesV (rvb (IntKind.u64.wrap m) (IntKind.u64.wrap s) ++ [])) :: cl b61_ 23 [(Value.int .i64 m), (Value.int .i64 s)] :: cl b42_ 25 [(Value.slice a28_ 17 cp29_), (Value.slice a39_ 18 cp40_)] :: cl b2_ 23 [(Value.int .i64 m), (Value.int .i64 s)] :: F) := H110_
    have S114_ := Same.trans S106_ S111_
    refine S_yes (j := 19) (dj := 59) (b := false) rfl rfl rfl (T_val (v := (Value.bool false)) (x_cast (x_not (b := true) rfl) rfl) ?_)
    refine S_list (T_pickF (v := (Value.bool false)) rfl rfl ?_)
    refine S_list (T_val (v := (Value.bool false)) (x_move rfl) ?_)
    refine S_yes (j := 28) (dj := 68) (b := false) rfl rfl rfl (T_val (v := (Value.slice a39_ 18 cp40_)) (x_move rfl) ?_)
    refine S_yes (j := 28) (dj := 68) (b := false) rfl rfl rfl (T_call (al := [(Value.slice a39_ 18 cp40_)]) (pre := [sl 5 1 (Value.slice a39_ 18 cp40_) 18 (bytesV (rvb (IntKind.u64.wrap m) (IntKind.u64.wrap s) ++ [0]))]) (F := sl 5 1 (Value.slice a18_ 17 cp19_) 17 (bytesV (rvb (IntKind.u64.wrap m) (IntKind.u64.wrap s) ++ [])) :: cl b98_ 23 [(Value.int .i64 m), (Value.int .i64 s)] :: sl 5 1 (Value.slice a28_ 17 cp29_) 17 (bytesV (rvb (IntKind.u64.wrap m) (IntKind.u64.wrap s) ++ [])) :: cl b61_ 23 [(Value.int .i64 m), (Value.int .i64 s)] :: cl b42_ 25 [(Value.slice a28_ 17 cp29_), (Value.slice a39_ 18 cp40_)] :: cl b2_ 23 [(Value.int .i64 m), (Value.int .i64 s)] :: F) rfl rfl cb25 (Tri.lend (fun h0 a0 d0 => tomb18f (un R h0) (Value.slice a39_ 18 cp40_) m s (sl_RS a0 (Sub.un_right d0)))) H110_ ?_)
    rintro v118_ p119_ w115_ ⟨_, rfl, rfl, rfl⟩ S117_ H116_
    replace H116_ : Holds w115_ (ro R :: sl 5 1 (Value.slice a39_ 18 cp40_) 18 (bytesV (rvb (IntKind.u64.wrap m) (IntKind.u64.wrap s) ++ [0])) :: sl 5 1 (Value.slice a18_ 17 cp19_) 17 (bytesV (rvb (IntKind.u64.wrap m) (IntKind.u64.wrap s) ++ [])) :: cl b98_ 23 [(Value.int .i64 m), (Value.int .i64 s)] :: sl 5 1 (Value.slice a28_ 17 cp29_) 17 (bytesV (rvb (IntKind.u64.wrap m) (IntKind.u64.wrap s) ++ [])) :: cl b61_ 23 [(Value.int .i64 m), (Value.int .i64 s)] :: cl b42_ 25 [(Value.slice a28_ 17 cp29_), (Value.slice a39_ 18 cp40_)] :: cl b2_ 23 [(Value.int .i64 m), (Value.int .i64 s)] :: F) := H116_
    have S120_ := Same.trans S114_ S117_
    refine S_yes (j := 28) (dj := 68) (b := false) rfl rfl rfl (T_val (v := (Value.bool false)) (x_move rfl) ?_)
    refine S_yes (j := 28) (dj := 68) (b := false) rfl rfl rfl (T_val (v := (Value.bool false)) (x_cast (x_neqB rfl rfl Try.underlying4) rfl) ?_)
    refine S_list (T_pickF (v := (Value.bool false)) rfl rfl ?_)
    refine S_list (T_val (v := (Value.bool false)) (x_move rfl) ?_)
    refine S_yes (j := 34) (dj := 74) (b := false) rfl rfl rfl (T_val (v := (Value.bool false)) (x_move rfl) ?_)
    refine S_yes (j := 34) (dj := 74) (b := false) rfl rfl rfl (T_val (v := (Value.bool false)) (x_move rfl) ?_)
    refine S_no (j := 36) (dj := 76) (b := false) rfl rfl rfl (by decide) ?_
    refine S_no (j := 36) (dj := 76) (b := false) rfl rfl rfl (by decide) ?_
    refine S_no (j := 36) (dj := 76) (b := false) rfl rfl rfl (by decide) ?_
    refine S_no (j := 36) (dj := 76) (b := false) rfl rfl rfl (by decide) ?_
    refine S_yes (j := 34) (dj := 74) (b := false) rfl rfl rfl (T_pickF (v := (Value.bool false)) rfl rfl ?_)
    refine S_list (T_pickF (v := (Value.bool false)) rfl rfl ?_)
    refine wpList_nil ?_
    refine (X_then (hK107_ _ _ ?_))
    clear hK107_
    refine C_condF rfl ?_
    refine C_skip (X_blkN (X_then (hK88_ _ _ ?_)))
    clear hK88_
    refine C_reg ?_
    refine S_list (T_val (v := (Value.int .i64 2)) (x_bin rfl rfl (ib_add (IntWalk.i64_in _ (by omega)))) ?_)
    refine S_list (T_val (v := (Value.int .i64 2)) (x_move rfl) ?_)
    refine wpList_nil ?_
    refine (X_then ?_)
    refine hK85_ _ _ ?_
    clear hK85_
    refine C_rounds (fun K121_ hK121_ => ?_)
    refine C_seq (fun K122_ hK122_ => ?_)
    refine C_reg ?_
    refine S_list (T_val (v := (Value.bool false)) (x_bin rfl rfl rfl) ?_)
    refine wpList_nil ?_
    refine (X_then (hK122_ _ _ ?_))
    clear hK122_
    refine C_seq (fun K123_ hK123_ => ?_)
    refine C_condF rfl ?_
    refine C_exit (X_thenX (X_thenX (X_blkHit ?_)))
    refine (X_then (hK31_ _ _ ?_))
    clear hK31_
    refine C_seq (fun K124_ hK124_ => ?_)
    refine C_seq (fun K125_ hK125_ => ?_)
    refine C_reg ?_
    refine S_list (T_val (v := (Value.bool false)) (x_move rfl) ?_)
    refine wpList_nil ?_
    refine (X_then (hK125_ _ _ ?_))
    clear hK125_
    refine C_condF rfl ?_
    refine C_skip (X_then (hK124_ _ _ ?_))
    clear hK124_
    refine C_seq (fun K126_ hK126_ => ?_)
    refine C_reg ?_
    refine S_list (T_val (v := (Value.slice a28_ 17 cp29_)) (x_move rfl) ?_)
    refine S_list (T_val (v := (Value.slice a18_ 17 cp19_)) (x_move rfl) ?_)
    have H127_ : Holds w115_ (ro R :: sl 5 1 (Value.slice a18_ 17 cp19_) 17 (bytesV (rvb (IntKind.u64.wrap m) (IntKind.u64.wrap s) ++ [])) :: sl 5 1 (Value.slice a28_ 17 cp29_) 17 (bytesV (rvb (IntKind.u64.wrap m) (IntKind.u64.wrap s) ++ [])) :: sl 5 1 (Value.slice a39_ 18 cp40_) 18 (bytesV (rvb (IntKind.u64.wrap m) (IntKind.u64.wrap s) ++ [0])) :: cl b98_ 23 [(Value.int .i64 m), (Value.int .i64 s)] :: cl b61_ 23 [(Value.int .i64 m), (Value.int .i64 s)] :: cl b42_ 25 [(Value.slice a28_ 17 cp29_), (Value.slice a39_ 18 cp40_)] :: cl b2_ 23 [(Value.int .i64 m), (Value.int .i64 s)] :: F) := (Holds.bring (Holds.bring (Holds.bring H116_ 4 rfl) 3 rfl) 2 rfl)
    refine S_list (T_call (al := [(Value.slice a28_ 17 cp29_), (Value.slice a18_ 17 cp19_)]) (pre := [sl 5 1 (Value.slice a18_ 17 cp19_) 17 (bytesV (rvb (IntKind.u64.wrap m) (IntKind.u64.wrap s) ++ [])), sl 5 1 (Value.slice a28_ 17 cp29_) 17 (bytesV (rvb (IntKind.u64.wrap m) (IntKind.u64.wrap s) ++ []))]) (F := sl 5 1 (Value.slice a39_ 18 cp40_) 18 (bytesV (rvb (IntKind.u64.wrap m) (IntKind.u64.wrap s) ++ [0])) :: cl b98_ 23 [(Value.int .i64 m), (Value.int .i64 s)] :: cl b61_ 23 [(Value.int .i64 m), (Value.int .i64 s)] :: cl b42_ 25 [(Value.slice a28_ 17 cp29_), (Value.slice a39_ 18 cp40_)] :: cl b2_ 23 [(Value.int .i64 m), (Value.int .i64 s)] :: F) rfl rfl cb8 (Tri.lend (fun h0 a0 d0 => Tri.lend (fun h1 a1 d1 => rvSameEq _ (Value.slice a28_ 17 cp29_) (Value.slice a18_ 17 cp19_) 17 17 (rvb (IntKind.u64.wrap m) (IntKind.u64.wrap s) ++ []) (rvb (IntKind.u64.wrap m) (IntKind.u64.wrap s) ++ []) (RS.mono (sl_RS a1 (Sub.un_right d1)) (Sub.rfl' _)) (RS.mono (sl_RS a0 (Sub.un_right d0)) (Sub.trans' (Sub.un_left _ _) (Sub.rfl' _))) (by kernel_rfl)))) H127_ ?_)
    rintro v131_ p132_ w128_ ⟨_, rfl, ⟨_, rfl, rfl, rfl⟩⟩ S130_ H129_
    replace H129_ : Holds w128_ (ro R :: sl 5 1 (Value.slice a18_ 17 cp19_) 17 (bytesV (rvb (IntKind.u64.wrap m) (IntKind.u64.wrap s) ++ [])) :: sl 5 1 (Value.slice a28_ 17 cp29_) 17 (bytesV (rvb (IntKind.u64.wrap m) (IntKind.u64.wrap s) ++ [])) :: sl 5 1 (Value.slice a39_ 18 cp40_) 18 (bytesV (rvb (IntKind.u64.wrap m) (IntKind.u64.wrap s) ++ [0])) :: cl b98_ 23 [(Value.int .i64 m), (Value.int .i64 s)] :: cl b61_ 23 [(Value.int .i64 m), (Value.int .i64 s)] :: cl b42_ 25 [(Value.slice a28_ 17 cp29_), (Value.slice a39_ 18 cp40_)] :: cl b2_ 23 [(Value.int .i64 m), (Value.int .i64 s)] :: F) := H129_
    have S133_ := Same.trans S120_ S130_
    refine S_list (T_val (v := (Value.bool true)) (x_move rfl) ?_)
    refine S_yes (j := 3) (dj := 97) (b := true) rfl rfl rfl (T_call (al := []) (pre := []) (F := sl 5 1 (Value.slice a18_ 17 cp19_) 17 (bytesV (rvb (IntKind.u64.wrap m) (IntKind.u64.wrap s) ++ [])) :: sl 5 1 (Value.slice a28_ 17 cp29_) 17 (bytesV (rvb (IntKind.u64.wrap m) (IntKind.u64.wrap s) ++ [])) :: sl 5 1 (Value.slice a39_ 18 cp40_) 18 (bytesV (rvb (IntKind.u64.wrap m) (IntKind.u64.wrap s) ++ [0])) :: cl b98_ 23 [(Value.int .i64 m), (Value.int .i64 s)] :: cl b61_ 23 [(Value.int .i64 m), (Value.int .i64 s)] :: cl b42_ 25 [(Value.slice a28_ 17 cp29_), (Value.slice a39_ 18 cp40_)] :: cl b2_ 23 [(Value.int .i64 m), (Value.int .i64 s)] :: F) rfl rfl cb11 (rvLive R) H129_ ?_)
    rintro v137_ p138_ w134_ ⟨rfl, rfl⟩ S136_ H135_
    replace H135_ : Holds w134_ (ro R :: sl 5 1 (Value.slice a18_ 17 cp19_) 17 (bytesV (rvb (IntKind.u64.wrap m) (IntKind.u64.wrap s) ++ [])) :: sl 5 1 (Value.slice a28_ 17 cp29_) 17 (bytesV (rvb (IntKind.u64.wrap m) (IntKind.u64.wrap s) ++ [])) :: sl 5 1 (Value.slice a39_ 18 cp40_) 18 (bytesV (rvb (IntKind.u64.wrap m) (IntKind.u64.wrap s) ++ [0])) :: cl b98_ 23 [(Value.int .i64 m), (Value.int .i64 s)] :: cl b61_ 23 [(Value.int .i64 m), (Value.int .i64 s)] :: cl b42_ 25 [(Value.slice a28_ 17 cp29_), (Value.slice a39_ 18 cp40_)] :: cl b2_ 23 [(Value.int .i64 m), (Value.int .i64 s)] :: F) := H135_
    have S139_ := Same.trans S133_ S136_
    refine S_list (T_pickT (v := (Value.bool true)) rfl rfl ?_)
    refine S_list (T_val (v := (Value.bool true)) (x_assign rfl) ?_)
    refine wpList_nil ?_
    refine (X_then (hK126_ _ _ ?_))
    clear hK126_
    refine C_ret ?_
    refine R_any (v := (Value.bool true)) (run_results1 rfl rfl) ?_
    have H140_ : Holds w134_ (ro R :: F) := (Holds.erase (Holds.erase (Holds.erase (Holds.erase (Holds.erase (Holds.erase (Holds.erase (Holds.bring H135_ 0 rfl) 1) 1) 1) 1) 1) 1) 1)
    exact ⟨_, [], rfl, ⟨rfl, rfl⟩, S139_, H140_⟩

set_option maxHeartbeats 400000 in
theorem bucketBackNeg (R : HP) (m s : Int) (t : Bool) (hn : min m s < 0) :
    Tri Try.prog 6 #[(Value.agg #[(Value.int .i64 m), (Value.int .i64 s)]), (Value.bool t)] R [] (fun r post => r = .bool true ∧ post = []) := by
  refine Tri.into (n := 100) (al := [(Value.agg #[(Value.int .i64 m), (Value.int .i64 s)]), (Value.bool t)]) Try.func6 rfl Try.ntmps6 rfl rfl fun w F H => ?_
  replace H : Holds w (ro R :: F) := H
  refine C_seq (fun K1_ hK1_ => ?_)
  refine C_reg ?_
  refine S_list (T_box (v := (Value.agg #[(Value.int .i64 m), (Value.int .i64 s)])) rfl H ?_)
  intro b2_ w3_ S5_ H4_
  replace H4_ : Holds w3_ (cl b2_ 23 [(Value.int .i64 m), (Value.int .i64 s)] :: ro R :: F) := H4_
  have S6_ := Same.trans (Same.refl w) S5_
  refine S_list (T_val (v := (Value.bool false)) (x_assign rfl) ?_)
  refine wpList_nil ?_
  refine (X_then (hK1_ _ _ ?_))
  clear hK1_
  refine C_seq (fun K7_ hK7_ => ?_)
  refine C_seq (fun K8_ hK8_ => ?_)
  refine C_reg ?_
  refine S_list (T_val (v := (Value.pointer (some ⟨b2_, 0, none⟩))) (by kernel_rfl) ?_)
  refine S_list (T_val (v := (Value.int .i64 m)) (x_load1 rfl Try.underlying2 rfl ((Holds.rd H4_ 0 rfl) 0 (Value.int .i64 m) rfl)) ?_)
  refine S_list (T_val (v := (Value.pointer (some ⟨b2_, 1, none⟩))) (by kernel_rfl) ?_)
  refine S_list (T_val (v := (Value.int .i64 s)) (x_load1 rfl Try.underlying2 rfl ((Holds.rd H4_ 0 rfl) 1 (Value.int .i64 s) rfl)) ?_)
  refine S_list (T_val (v := (Value.int .i64 (min m s))) (x_min2 rfl rfl (min_ite _ _)) ?_)
  refine S_list (T_val (v := (Value.bool (decide (min m s < 0)))) (x_bin rfl rfl rfl) ?_)
  refine wpList_nil ?_
  refine (X_then (hK8_ _ _ ?_))
  clear hK8_
  refine C_cond (b := decide (min m s < 0)) rfl (fun c9_t => ?_) (fun c9_f => ?_)
  · have c9_tp : min m s < 0 := of_decide_eq_true c9_t
    refine C_seq (fun K10_ hK10_ => ?_)
    refine C_reg ?_
    have H11_ : Holds w3_ (ro R :: cl b2_ 23 [(Value.int .i64 m), (Value.int .i64 s)] :: F) := (Holds.bring H4_ 1 rfl)
    refine S_list (T_call (al := []) (pre := []) (F := cl b2_ 23 [(Value.int .i64 m), (Value.int .i64 s)] :: F) rfl rfl cb11 (rvLive R) H11_ ?_)
    rintro v15_ p16_ w12_ ⟨rfl, rfl⟩ S14_ H13_
    replace H13_ : Holds w12_ (ro R :: cl b2_ 23 [(Value.int .i64 m), (Value.int .i64 s)] :: F) := H13_
    have S17_ := Same.trans S6_ S14_
    refine S_list (T_val (v := (Value.bool true)) (x_assign rfl) ?_)
    refine wpList_nil ?_
    refine (X_then (hK10_ _ _ ?_))
    clear hK10_
    refine C_ret (X_thenR ?_)
    refine R_any (v := (Value.bool true)) (run_results1 rfl rfl) ?_
    have H18_ : Holds w12_ (ro R :: F) := (Holds.erase (Holds.bring H13_ 0 rfl) 1)
    exact ⟨_, [], rfl, ⟨rfl, rfl⟩, S17_, H18_⟩
  · have c9_fp : ¬ (min m s < 0) := of_decide_eq_false c9_f
    omega
end Go.Proofs.Ytfdnfnjmphjdnaa
