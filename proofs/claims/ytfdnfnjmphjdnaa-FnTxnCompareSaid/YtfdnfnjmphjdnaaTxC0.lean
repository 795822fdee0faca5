/- What the functions over compares come to: the reference, and the law. -/
import Derived.Test.YtfdnfnjmphjdnaaTxB2
set_option linter.unusedVariables false
set_option linter.unusedSimpArgs false
namespace Go.Proofs.Ytfdnfnjmphjdnaa
open Go Go.RowKit Gw

set_option maxHeartbeats 400000 in
theorem spKV0t (R : HP) (r : Int) (key en : ByteArray) (n : Int) (val : ByteArray) (k x : ByteArray) (cr md vr ls : Int) (h0 : 0 ≤ r) (h1 : r ≤ 3) :
    Tri Try.prog 16 #[(Value.agg #[(Value.int .i64 0), (Value.int .i64 r), (Value.string key), (Value.string en), (Value.int .i64 n), (Value.string val), (Value.bool true)]), (Value.agg #[(Value.string k), (Value.string x), (Value.int .i64 cr), (Value.int .i64 md), (Value.int .i64 vr), (Value.int .i64 ls)])] R [] (fun v post => v = .bool (resOk r (ordI vr 0)) ∧ post = []) := by
  refine Tri.into (n := 61) (al := [(Value.agg #[(Value.int .i64 0), (Value.int .i64 r), (Value.string key), (Value.string en), (Value.int .i64 n), (Value.string val), (Value.bool true)]), (Value.agg #[(Value.string k), (Value.string x), (Value.int .i64 cr), (Value.int .i64 md), (Value.int .i64 vr), (Value.int .i64 ls)])]) Try.func16 rfl Try.ntmps16 rfl rfl fun w F H => ?_
  replace H : Holds w (ro R :: F) := H
  refine C_seq (fun K1_ hK1_ => ?_)
  refine C_reg ?_
  refine S_list (T_box (v := (Value.agg #[(Value.int .i64 0), (Value.int .i64 r), (Value.string key), (Value.string en), (Value.int .i64 n), (Value.string val), (Value.bool true)])) rfl H ?_)
  intro b2_ w3_ S5_ H4_
  replace H4_ : Holds w3_ (cl b2_ 31 [(Value.int .i64 0), (Value.int .i64 r), (Value.string key), (Value.string en), (Value.int .i64 n), (Value.string val), (Value.bool true)] :: ro R :: F) := H4_
  have S6_ := Same.trans (Same.refl w) S5_
  refine S_list (T_box (v := (Value.agg #[(Value.string k), (Value.string x), (Value.int .i64 cr), (Value.int .i64 md), (Value.int .i64 vr), (Value.int .i64 ls)])) rfl H4_ ?_)
  intro b7_ w8_ S10_ H9_
  replace H9_ : Holds w8_ (cl b7_ 33 [(Value.string k), (Value.string x), (Value.int .i64 cr), (Value.int .i64 md), (Value.int .i64 vr), (Value.int .i64 ls)] :: cl b2_ 31 [(Value.int .i64 0), (Value.int .i64 r), (Value.string key), (Value.string en), (Value.int .i64 n), (Value.string val), (Value.bool true)] :: ro R :: F) := H9_
  have S11_ := Same.trans S6_ S10_
  refine S_list (T_val (v := (Value.bool false)) (x_assign rfl) ?_)
  refine wpList_nil ?_
  refine (X_then (hK1_ _ _ ?_))
  clear hK1_
  refine C_seq (fun K12_ hK12_ => ?_)
  refine C_seq (fun K13_ hK13_ => ?_)
  refine C_reg ?_
  refine S_list (T_val (v := (Value.pointer (some ⟨b2_, 6, none⟩))) (by kernel_rfl) ?_)
  refine S_list (T_val (v := (Value.bool true)) (x_load1 rfl Try.underlying4 rfl ((Holds.rd H9_ 1 rfl) 6 (Value.bool true) rfl)) ?_)
  refine wpList_nil ?_
  refine (X_then (hK13_ _ _ ?_))
  clear hK13_
  refine C_condT rfl ?_
  refine C_seq (fun K14_ hK14_ => ?_)
  refine C_reg ?_
  refine S_list (T_val (v := (Value.pointer (some ⟨b2_, 4, none⟩))) (by kernel_rfl) ?_)
  refine S_list0 (T_store1 (v := (Value.int .i64 0)) rfl rfl z2 rfl H9_ 1 rfl (Nat.le_of_ble_eq_true (by rfl)) ?_)
  intro w15_ S17_ H16_
  replace H16_ : Holds w15_ (cl b7_ 33 [(Value.string k), (Value.string x), (Value.int .i64 cr), (Value.int .i64 md), (Value.int .i64 vr), (Value.int .i64 ls)] :: cl b2_ 31 [(Value.int .i64 0), (Value.int .i64 r), (Value.string key), (Value.string en), (Value.int .i64 0), (Value.string val), (Value.bool true)] :: ro R :: F) := H16_
  have S18_ := Same.trans S11_ S17_
  refine wpList_nil ?_
  refine (X_then (hK14_ _ _ ?_))
  clear hK14_
  refine C_reg ?_
  refine S_list (T_val (v := (Value.pointer (some ⟨b2_, 5, none⟩))) (by kernel_rfl) ?_)
  refine S_list0 (T_store1 (v := (Value.string (ByteArray.mk #[]))) rfl rfl z9 rfl H16_ 1 rfl (Nat.le_of_ble_eq_true (by rfl)) ?_)
  intro w19_ S21_ H20_
  replace H20_ : Holds w19_ (cl b7_ 33 [(Value.string k), (Value.string x), (Value.int .i64 cr), (Value.int .i64 md), (Value.int .i64 vr), (Value.int .i64 ls)] :: cl b2_ 31 [(Value.int .i64 0), (Value.int .i64 r), (Value.string key), (Value.string en), (Value.int .i64 0), (Value.string (ByteArray.mk #[])), (Value.bool true)] :: ro R :: F) := H20_
  have S22_ := Same.trans S18_ S21_
  refine wpList_nil ?_
  refine (X_then (hK12_ _ _ ?_))
  clear hK12_
  refine C_seq (fun K23_ hK23_ => ?_)
  refine C_reg ?_
  refine S_list (T_val (v := (Value.int .i64 0)) (x_assign rfl) ?_)
  refine wpList_nil ?_
  refine (X_then (hK23_ _ _ ?_))
  clear hK23_
  refine C_seq (fun K24_ hK24_ => ?_)
  refine C_seq (fun K25_ hK25_ => ?_)
  refine C_reg ?_
  refine S_list (T_val (v := (Value.pointer (some ⟨b2_, 0, none⟩))) (by kernel_rfl) ?_)
  refine S_list (T_val (v := (Value.int .i64 0)) (x_load1 rfl Try.underlying3 rfl ((Holds.rd H20_ 1 rfl) 0 (Value.int .i64 0) rfl)) ?_)
  refine wpList_nil ?_
  refine (X_then (hK25_ _ _ ?_))
  clear hK25_
  refine C_block ?_
  refine C_seq (fun K26_ hK26_ => ?_)
  refine C_reg ?_
  refine S_list (T_val (v := (Value.bool true)) (x_bin rfl rfl rfl) ?_)
  refine S_list (T_val (v := (Value.bool true)) (x_assign rfl) ?_)
  refine wpList_nil ?_
  refine (X_then (hK26_ _ _ ?_))
  clear hK26_
  refine C_condT rfl ?_
  refine C_reg ?_
  refine S_list (T_val (v := (Value.pointer (some ⟨b7_, 4, none⟩))) (by kernel_rfl) ?_)
  refine S_list (T_val (v := (Value.int .i64 vr)) (x_load1 rfl Try.underlying2 rfl ((Holds.rd H20_ 0 rfl) 4 (Value.int .i64 vr) rfl)) ?_)
  refine S_list (T_val (v := (Value.pointer (some ⟨b2_, 4, none⟩))) (by kernel_rfl) ?_)
  refine S_list (T_val (v := (Value.int .i64 0)) (x_load1 rfl Try.underlying2 rfl ((Holds.rd H20_ 1 rfl) 4 (Value.int .i64 0) rfl)) ?_)
  have H27_ : Holds w19_ (ro R :: cl b7_ 33 [(Value.string k), (Value.string x), (Value.int .i64 cr), (Value.int .i64 md), (Value.int .i64 vr), (Value.int .i64 ls)] :: cl b2_ 31 [(Value.int .i64 0), (Value.int .i64 r), (Value.string key), (Value.string en), (Value.int .i64 0), (Value.string (ByteArray.mk #[])), (Value.bool true)] :: F) := (Holds.bring H20_ 2 rfl)
  refine S_list (T_call (al := [(Value.int .i64 vr), (Value.int .i64 0)]) (pre := []) (F := cl b7_ 33 [(Value.string k), (Value.string x), (Value.int .i64 cr), (Value.int .i64 md), (Value.int .i64 vr), (Value.int .i64 ls)] :: cl b2_ 31 [(Value.int .i64 0), (Value.int .i64 r), (Value.string key), (Value.string en), (Value.int .i64 0), (Value.string (ByteArray.mk #[])), (Value.bool true)] :: F) rfl rfl cb38 (numOrd R vr 0) H27_ ?_)
  rintro v31_ p32_ w28_ ⟨rfl, rfl⟩ S30_ H29_
  replace H29_ : Holds w28_ (ro R :: cl b7_ 33 [(Value.string k), (Value.string x), (Value.int .i64 cr), (Value.int .i64 md), (Value.int .i64 vr), (Value.int .i64 ls)] :: cl b2_ 31 [(Value.int .i64 0), (Value.int .i64 r), (Value.string key), (Value.string en), (Value.int .i64 0), (Value.string (ByteArray.mk #[])), (Value.bool true)] :: F) := H29_
  have S33_ := Same.trans S22_ S30_
  refine S_list (T_val (v := (Value.int .i64 (ordI vr 0))) (x_assign rfl) ?_)
  refine wpList_nil ?_
  refine (X_blkN (X_then (hK24_ _ _ ?_)))
  clear hK24_
  refine C_seq (fun K34_ hK34_ => ?_)
  refine C_seq (fun K35_ hK35_ => ?_)
  refine C_reg ?_
  refine S_list (T_val (v := (Value.pointer (some ⟨b2_, 1, none⟩))) (by kernel_rfl) ?_)
  refine S_list (T_val (v := (Value.int .i64 r)) (x_load1 rfl Try.underlying3 rfl ((Holds.rd H29_ 2 rfl) 1 (Value.int .i64 r) rfl)) ?_)
  refine wpList_nil ?_
  refine (X_then (hK35_ _ _ ?_))
  clear hK35_
  refine C_block ?_
  refine C_seq (fun K36_ hK36_ => ?_)
  refine C_reg ?_
  refine S_list (T_val (v := (Value.bool (decide (r = 0)))) (x_bin rfl rfl rfl) ?_)
  refine S_list (T_val (v := (Value.bool (decide (r = 0)))) (x_assign rfl) ?_)
  refine wpList_nil ?_
  refine (X_then (hK36_ _ _ ?_))
  clear hK36_
  refine C_cond (b := decide (r = 0)) rfl (fun c37_t => ?_) (fun c37_f => ?_)
  · have c37_tp : r = 0 := of_decide_eq_true c37_t
    refine C_seq (fun K38_ hK38_ => ?_)
    refine C_reg ?_
    refine S_list (T_val (v := (Value.int .i64 (ordI vr 0))) (x_move rfl) ?_)
    refine S_list (T_val (v := (Value.bool (decide (ordI vr 0 = 0)))) (x_bin rfl rfl rfl) ?_)
    refine S_list (T_val (v := (Value.bool (decide (ordI vr 0 = 0)))) (x_assign rfl) ?_)
    refine wpList_nil ?_
    refine (X_then (hK38_ _ _ ?_))
    clear hK38_
    refine C_ret (X_blkR (X_thenR ?_))
    refine R_any (v := (Value.bool (decide (ordI vr 0 = 0)))) (run_results1 rfl rfl) ?_
    have H39_ : Holds w28_ (ro R :: F) := (Holds.erase (Holds.erase (Holds.bring H29_ 0 rfl) 1) 1)
    exact ⟨_, [], rfl, ⟨by rw [show r = 0 by omega]; rfl, rfl⟩, S33_, H39_⟩
  · have c37_fp : ¬ (r = 0) := of_decide_eq_false c37_f
    refine C_seq (fun K40_ hK40_ => ?_)
    refine C_reg ?_
    refine S_list (T_val (v := (Value.bool (decide (r = 1)))) (x_bin rfl rfl rfl) ?_)
    refine S_list (T_val (v := (Value.bool (decide (r = 1)))) (x_assign rfl) ?_)
    refine wpList_nil ?_
    refine (X_then (hK40_ _ _ ?_))
    clear hK40_
    refine C_cond (b := decide (r = 1)) rfl (fun c41_t => ?_) (fun c41_f => ?_)
    · have c41_tp : r = 1 := of_decide_eq_true c41_t
      refine C_seq (fun K42_ hK42_ => ?_)
      refine C_reg ?_
      refine S_list (T_val (v := (Value.int .i64 (ordI vr 0))) (x_move rfl) ?_)
      refine S_list (T_val (v := (Value.bool (decide (0 < ordI vr 0)))) (x_bin rfl rfl rfl) ?_)
      refine S_list (T_val (v := (Value.bool (decide (0 < ordI vr 0)))) (x_assign rfl) ?_)
      refine wpList_nil ?_
      refine (X_then (hK42_ _ _ ?_))
      clear hK42_
      refine C_ret (X_blkR (X_thenR ?_))
      refine R_any (v := (Value.bool (decide (0 < ordI vr 0)))) (run_results1 rfl rfl) ?_
      have H43_ : Holds w28_ (ro R :: F) := (Holds.erase (Holds.erase (Holds.bring H29_ 0 rfl) 1) 1)
      exact ⟨_, [], rfl, ⟨by rw [show r = 1 by omega]; rfl, rfl⟩, S33_, H43_⟩
    · have c41_fp : ¬ (r = 1) := of_decide_eq_false c41_f
      refine C_seq (fun K44_ hK44_ => ?_)
      refine C_reg ?_
      refine S_list (T_val (v := (Value.bool (decide (r = 2)))) (x_bin rfl rfl rfl) ?_)
      refine S_list (T_val (v := (Value.bool (decide (r = 2)))) (x_assign rfl) ?_)
      refine wpList_nil ?_
      refine (X_then (hK44_ _ _ ?_))
      clear hK44_
      refine C_cond (b := decide (r = 2)) rfl (fun c45_t => ?_) (fun c45_f => ?_)
      · have c45_tp : r = 2 := of_decide_eq_true c45_t
        refine C_seq (fun K46_ hK46_ => ?_)
        refine C_reg ?_
        refine S_list (T_val (v := (Value.int .i64 (ordI vr 0))) (x_move rfl) ?_)
        refine S_list (T_val (v := (Value.bool (decide (ordI vr 0 < 0)))) (x_bin rfl rfl rfl) ?_)
        refine S_list (T_val (v := (Value.bool (decide (ordI vr 0 < 0)))) (x_assign rfl) ?_)
        refine wpList_nil ?_
        refine (X_then (hK46_ _ _ ?_))
        clear hK46_
        refine C_ret (X_blkR (X_thenR ?_))
        refine R_any (v := (Value.bool (decide (ordI vr 0 < 0)))) (run_results1 rfl rfl) ?_
        have H47_ : Holds w28_ (ro R :: F) := (Holds.erase (Holds.erase (Holds.bring H29_ 0 rfl) 1) 1)
        exact ⟨_, [], rfl, ⟨by rw [show r = 2 by omega]; rfl, rfl⟩, S33_, H47_⟩
      · have c45_fp : ¬ (r = 2) := of_decide_eq_false c45_f
        refine C_skip (X_blkN (X_then (hK34_ _ _ ?_)))
        clear hK34_
        refine C_seq (fun K48_ hK48_ => ?_)
        refine C_reg ?_
        refine S_list (T_val (v := (Value.int .i64 (ordI vr 0))) (x_move rfl) ?_)
        refine S_list (T_val (v := (Value.bool (decide (ordI vr 0 ≠ 0)))) (x_bin rfl rfl rfl) ?_)
        refine S_list (T_val (v := (Value.bool (decide (ordI vr 0 ≠ 0)))) (x_assign rfl) ?_)
        refine wpList_nil ?_
        refine (X_then (hK48_ _ _ ?_))
        clear hK48_
        refine C_ret ?_
        refine R_any (v := (Value.bool (decide (ordI vr 0 ≠ 0)))) (run_results1 rfl rfl) ?_
        have H49_ : Holds w28_ (ro R :: F) := (Holds.erase (Holds.erase (Holds.bring H29_ 0 rfl) 1) 1)
        exact ⟨_, [], rfl, ⟨by rw [show r = 3 by omega]; rfl, rfl⟩, S33_, H49_⟩

set_option maxHeartbeats 400000 in
theorem spKV0f (R : HP) (r : Int) (key en : ByteArray) (n : Int) (val : ByteArray) (k x : ByteArray) (cr md vr ls : Int) (h0 : 0 ≤ r) (h1 : r ≤ 3) :
    Tri Try.prog 16 #[(Value.agg #[(Value.int .i64 0), (Value.int .i64 r), (Value.string key), (Value.string en), (Value.int .i64 n), (Value.string val), (Value.bool false)]), (Value.agg #[(Value.string k), (Value.string x), (Value.int .i64 cr), (Value.int .i64 md), (Value.int .i64 vr), (Value.int .i64 ls)])] R [] (fun v post => v = .bool (resOk r (ordI vr n)) ∧ post = []) := by
  refine Tri.into (n := 61) (al := [(Value.agg #[(Value.int .i64 0), (Value.int .i64 r), (Value.string key), (Value.string en), (Value.int .i64 n), (Value.string val), (Value.bool false)]), (Value.agg #[(Value.string k), (Value.string x), (Value.int .i64 cr), (Value.int .i64 md), (Value.int .i64 vr), (Value.int .i64 ls)])]) Try.func16 rfl Try.ntmps16 rfl rfl fun w F H => ?_
  replace H : Holds w (ro R :: F) := H
  refine C_seq (fun K1_ hK1_ => ?_)
  refine C_reg ?_
  refine S_list (T_box (v := (Value.agg #[(Value.int .i64 0), (Value.int .i64 r), (Value.string key), (Value.string en), (Value.int .i64 n), (Value.string val), (Value.bool false)])) rfl H ?_)
  intro b2_ w3_ S5_ H4_
  replace H4_ : Holds w3_ (cl b2_ 31 [(Value.int .i64 0), (Value.int .i64 r), (Value.string key), (Value.string en), (Value.int .i64 n), (Value.string val), (Value.bool false)] :: ro R :: F) := H4_
  have S6_ := Same.trans (Same.refl w) S5_
  refine S_list (T_box (v := (Value.agg #[(Value.string k), (Value.string x), (Value.int .i64 cr), (Value.int .i64 md), (Value.int .i64 vr), (Value.int .i64 ls)])) rfl H4_ ?_)
  intro b7_ w8_ S10_ H9_
  replace H9_ : Holds w8_ (cl b7_ 33 [(Value.string k), (Value.string x), (Value.int .i64 cr), (Value.int .i64 md), (Value.int .i64 vr), (Value.int .i64 ls)] :: cl b2_ 31 [(Value.int .i64 0), (Value.int .i64 r), (Value.string key), (Value.string en), (Value.int .i64 n), (Value.string val), (Value.bool false)] :: ro R :: F) := H9_
  have S11_ := Same.trans S6_ S10_
  refine S_list (T_val (v := (Value.bool false)) (x_assign rfl) ?_)
  refine wpList_nil ?_
  refine (X_then (hK1_ _ _ ?_))
  clear hK1_
  refine C_seq (fun K12_ hK12_ => ?_)
  refine C_seq (fun K13_ hK13_ => ?_)
  refine C_reg ?_
  refine S_list (T_val (v := (Value.pointer (some ⟨b2_, 6, none⟩))) (by kernel_rfl) ?_)
  refine S_list (T_val (v := (Value.bool false)) (x_load1 rfl Try.underlying4 rfl ((Holds.rd H9_ 1 rfl) 6 (Value.bool false) rfl)) ?_)
  refine wpList_nil ?_
  refine (X_then (hK13_ _ _ ?_))
  clear hK13_
  refine C_condF rfl ?_
  refine C_skip (X_then (hK12_ _ _ ?_))
  clear hK12_
  refine C_seq (fun K14_ hK14_ => ?_)
  refine C_reg ?_
  refine S_list (T_val (v := (Value.int .i64 0)) (x_assign rfl) ?_)
  refine wpList_nil ?_
  refine (X_then (hK14_ _ _ ?_))
  clear hK14_
  refine C_seq (fun K15_ hK15_ => ?_)
  refine C_seq (fun K16_ hK16_ => ?_)
  refine C_reg ?_
  refine S_list (T_val (v := (Value.pointer (some ⟨b2_, 0, none⟩))) (by kernel_rfl) ?_)
  refine S_list (T_val (v := (Value.int .i64 0)) (x_load1 rfl Try.underlying3 rfl ((Holds.rd H9_ 1 rfl) 0 (Value.int .i64 0) rfl)) ?_)
  refine wpList_nil ?_
  refine (X_then (hK16_ _ _ ?_))
  clear hK16_
  refine C_block ?_
  refine C_seq (fun K17_ hK17_ => ?_)
  refine C_reg ?_
  refine S_list (T_val (v := (Value.bool true)) (x_bin rfl rfl rfl) ?_)
  refine S_list (T_val (v := (Value.bool true)) (x_assign rfl) ?_)
  refine wpList_nil ?_
  refine (X_then (hK17_ _ _ ?_))
  clear hK17_
  refine C_condT rfl ?_
  refine C_reg ?_
  refine S_list (T_val (v := (Value.pointer (some ⟨b7_, 4, none⟩))) (by kernel_rfl) ?_)
  refine S_list (T_val (v := (Value.int .i64 vr)) (x_load1 rfl Try.underlying2 rfl ((Holds.rd H9_ 0 rfl) 4 (Value.int .i64 vr) rfl)) ?_)
  refine S_list (T_val (v := (Value.pointer (some ⟨b2_, 4, none⟩))) (by kernel_rfl) ?_)
  refine S_list (T_val (v := (Value.int .i64 n)) (x_load1 rfl Try.underlying2 rfl ((Holds.rd H9_ 1 rfl) 4 (Value.int .i64 n) rfl)) ?_)
  have H18_ : Holds w8_ (ro R :: cl b7_ 33 [(Value.string k), (Value.string x), (Value.int .i64 cr), (Value.int .i64 md), (Value.int .i64 vr), (Value.int .i64 ls)] :: cl b2_ 31 [(Value.int .i64 0), (Value.int .i64 r), (Value.string key), (Value.string en), (Value.int .i64 n), (Value.string val), (Value.bool false)] :: F) := (Holds.bring H9_ 2 rfl)
  refine S_list (T_call (al := [(Value.int .i64 vr), (Value.int .i64 n)]) (pre := []) (F := cl b7_ 33 [(Value.string k), (Value.string x), (Value.int .i64 cr), (Value.int .i64 md), (Value.int .i64 vr), (Value.int .i64 ls)] :: cl b2_ 31 [(Value.int .i64 0), (Value.int .i64 r), (Value.string key), (Value.string en), (Value.int .i64 n), (Value.string val), (Value.bool false)] :: F) rfl rfl cb38 (numOrd R vr n) H18_ ?_)
  rintro v22_ p23_ w19_ ⟨rfl, rfl⟩ S21_ H20_
  replace H20_ : Holds w19_ (ro R :: cl b7_ 33 [(Value.string k), (Value.string x), (Value.int .i64 cr), (Value.int .i64 md), (Value.int .i64 vr), (Value.int .i64 ls)] :: cl b2_ 31 [(Value.int .i64 0), (Value.int .i64 r), (Value.string key), (Value.string en), (Value.int .i64 n), (Value.string val), (Value.bool false)] :: F) := H20_
  have S24_ := Same.trans S11_ S21_
  refine S_list (T_val (v := (Value.int .i64 (ordI vr n))) (x_assign rfl) ?_)
  refine wpList_nil ?_
  refine (X_blkN (X_then (hK15_ _ _ ?_)))
  clear hK15_
  refine C_seq (fun K25_ hK25_ => ?_)
  refine C_seq (fun K26_ hK26_ => ?_)
  refine C_reg ?_
  refine S_list (T_val (v := (Value.pointer (some ⟨b2_, 1, none⟩))) (by kernel_rfl) ?_)
  refine S_list (T_val (v := (Value.int .i64 r)) (x_load1 rfl Try.underlying3 rfl ((Holds.rd H20_ 2 rfl) 1 (Value.int .i64 r) rfl)) ?_)
  refine wpList_nil ?_
  refine (X_then (hK26_ _ _ ?_))
  clear hK26_
  refine C_block ?_
  refine C_seq (fun K27_ hK27_ => ?_)
  refine C_reg ?_
  refine S_list (T_val (v := (Value.bool (decide (r = 0)))) (x_bin rfl rfl rfl) ?_)
  refine S_list (T_val (v := (Value.bool (decide (r = 0)))) (x_assign rfl) ?_)
  refine wpList_nil ?_
  refine (X_then (hK27_ _ _ ?_))
  clear hK27_
  refine C_cond (b := decide (r = 0)) rfl (fun c28_t => ?_) (fun c28_f => ?_)
  · have c28_tp : r = 0 := of_decide_eq_true c28_t
    refine C_seq (fun K29_ hK29_ => ?_)
    refine C_reg ?_
    refine S_list (T_val (v := (Value.int .i64 (ordI vr n))) (x_move rfl) ?_)
    refine S_list (T_val (v := (Value.bool (decide (ordI vr n = 0)))) (x_bin rfl rfl rfl) ?_)
    refine S_list (T_val (v := (Value.bool (decide (ordI vr n = 0)))) (x_assign rfl) ?_)
    refine wpList_nil ?_
    refine (X_then (hK29_ _ _ ?_))
    clear hK29_
    refine C_ret (X_blkR (X_thenR ?_))
    refine R_any (v := (Value.bool (decide (ordI vr n = 0)))) (run_results1 rfl rfl) ?_
    have H30_ : Holds w19_ (ro R :: F) := (Holds.erase (Holds.erase (Holds.bring H20_ 0 rfl) 1) 1)
    exact ⟨_, [], rfl, ⟨by rw [show r = 0 by omega]; rfl, rfl⟩, S24_, H30_⟩
  · have c28_fp : ¬ (r = 0) := of_decide_eq_false c28_f
    refine C_seq (fun K31_ hK31_ => ?_)
    refine C_reg ?_
    refine S_list (T_val (v := (Value.bool (decide (r = 1)))) (x_bin rfl rfl rfl) ?_)
    refine S_list (T_val (v := (Value.bool (decide (r = 1)))) (x_assign rfl) ?_)
    refine wpList_nil ?_
    refine (X_then (hK31_ _ _ ?_))
    clear hK31_
    refine C_cond (b := decide (r = 1)) rfl (fun c32_t => ?_) (fun c32_f => ?_)
    · have c32_tp : r = 1 := of_decide_eq_true c32_t
      refine C_seq (fun K33_ hK33_ => ?_)
      refine C_reg ?_
      refine S_list (T_val (v := (Value.int .i64 (ordI vr n))) (x_move rfl) ?_)
      refine S_list (T_val (v := (Value.bool (decide (0 < ordI vr n)))) (x_bin rfl rfl rfl) ?_)
      refine S_list (T_val (v := (Value.bool (decide (0 < ordI vr n)))) (x_assign rfl) ?_)
      refine wpList_nil ?_
      refine (X_then (hK33_ _ _ ?_))
      clear hK33_
      refine C_ret (X_blkR (X_thenR ?_))
      refine R_any (v := (Value.bool (decide (0 < ordI vr n)))) (run_results1 rfl rfl) ?_
      have H34_ : Holds w19_ (ro R :: F) := (Holds.erase (Holds.erase (Holds.bring H20_ 0 rfl) 1) 1)
      exact ⟨_, [], rfl, ⟨by rw [show r = 1 by omega]; rfl, rfl⟩, S24_, H34_⟩
    · have c32_fp : ¬ (r = 1) := of_decide_eq_false c32_f
      refine C_seq (fun K35_ hK35_ => ?_)
      refine C_reg ?_
      refine S_list (T_val (v := (Value.bool (decide (r = 2)))) (x_bin rfl rfl rfl) ?_)
      refine S_list (T_val (v := (Value.bool (decide (r = 2)))) (x_assign rfl) ?_)
      refine wpList_nil ?_
      refine (X_then (hK35_ _ _ ?_))
      clear hK35_
      refine C_cond (b := decide (r = 2)) rfl (fun c36_t => ?_) (fun c36_f => ?_)
      · have c36_tp : r = 2 := of_decide_eq_true c36_t
        refine C_seq (fun K37_ hK37_ => ?_)
        refine C_reg ?_
        refine S_list (T_val (v := (Value.int .i64 (ordI vr n))) (x_move rfl) ?_)
        refine S_list (T_val (v := (Value.bool (decide (ordI vr n < 0)))) (x_bin rfl rfl rfl) ?_)
        refine S_list (T_val (v := (Value.bool (decide (ordI vr n < 0)))) (x_assign rfl) ?_)
        refine wpList_nil ?_
        refine (X_then (hK37_ _ _ ?_))
        clear hK37_
        refine C_ret (X_blkR (X_thenR ?_))
        refine R_any (v := (Value.bool (decide (ordI vr n < 0)))) (run_results1 rfl rfl) ?_
        have H38_ : Holds w19_ (ro R :: F) := (Holds.erase (Holds.erase (Holds.bring H20_ 0 rfl) 1) 1)
        exact ⟨_, [], rfl, ⟨by rw [show r = 2 by omega]; rfl, rfl⟩, S24_, H38_⟩
      · have c36_fp : ¬ (r = 2) := of_decide_eq_false c36_f
        refine C_skip (X_blkN (X_then (hK25_ _ _ ?_)))
        clear hK25_
        refine C_seq (fun K39_ hK39_ => ?_)
        refine C_reg ?_
        refine S_list (T_val (v := (Value.int .i64 (ordI vr n))) (x_move rfl) ?_)
        refine S_list (T_val (v := (Value.bool (decide (ordI vr n ≠ 0)))) (x_bin rfl rfl rfl) ?_)
        refine S_list (T_val (v := (Value.bool (decide (ordI vr n ≠ 0)))) (x_assign rfl) ?_)
        refine wpList_nil ?_
        refine (X_then (hK39_ _ _ ?_))
        clear hK39_
        refine C_ret ?_
        refine R_any (v := (Value.bool (decide (ordI vr n ≠ 0)))) (run_results1 rfl rfl) ?_
        have H40_ : Holds w19_ (ro R :: F) := (Holds.erase (Holds.erase (Holds.bring H20_ 0 rfl) 1) 1)
        exact ⟨_, [], rfl, ⟨by rw [show r = 3 by omega]; rfl, rfl⟩, S24_, H40_⟩

set_option maxHeartbeats 400000 in
theorem spKV1t (R : HP) (r : Int) (key en : ByteArray) (n : Int) (val : ByteArray) (k x : ByteArray) (cr md vr ls : Int) (h0 : 0 ≤ r) (h1 : r ≤ 3) :
    Tri Try.prog 16 #[(Value.agg #[(Value.int .i64 1), (Value.int .i64 r), (Value.string key), (Value.string en), (Value.int .i64 n), (Value.string val), (Value.bool true)]), (Value.agg #[(Value.string k), (Value.string x), (Value.int .i64 cr), (Value.int .i64 md), (Value.int .i64 vr), (Value.int .i64 ls)])] R [] (fun v post => v = .bool (resOk r (ordI cr 0)) ∧ post = []) := by
  refine Tri.into (n := 61) (al := [(Value.agg #[(Value.int .i64 1), (Value.int .i64 r), (Value.string key), (Value.string en), (Value.int .i64 n), (Value.string val), (Value.bool true)]), (Value.agg #[(Value.string k), (Value.string x), (Value.int .i64 cr), (Value.int .i64 md), (Value.int .i64 vr), (Value.int .i64 ls)])]) Try.func16 rfl Try.ntmps16 rfl rfl fun w F H => ?_
  replace H : Holds w (ro R :: F) := H
  refine C_seq (fun K1_ hK1_ => ?_)
  refine C_reg ?_
  refine S_list (T_box (v := (Value.agg #[(Value.int .i64 1), (Value.int .i64 r), (Value.string key), (Value.string en), (Value.int .i64 n), (Value.string val), (Value.bool true)])) rfl H ?_)
  intro b2_ w3_ S5_ H4_
  replace H4_ : Holds w3_ (cl b2_ 31 [(Value.int .i64 1), (Value.int .i64 r), (Value.string key), (Value.string en), (Value.int .i64 n), (Value.string val), (Value.bool true)] :: ro R :: F) := H4_
  have S6_ := Same.trans (Same.refl w) S5_
  refine S_list (T_box (v := (Value.agg #[(Value.string k), (Value.string x), (Value.int .i64 cr), (Value.int .i64 md), (Value.int .i64 vr), (Value.int .i64 ls)])) rfl H4_ ?_)
  intro b7_ w8_ S10_ H9_
  replace H9_ : Holds w8_ (cl b7_ 33 [(Value.string k), (Value.string x), (Value.int .i64 cr), (Value.int .i64 md), (Value.int .i64 vr), (Value.int .i64 ls)] :: cl b2_ 31 [(Value.int .i64 1), (Value.int .i64 r), (Value.string key), (Value.string en), (Value.int .i64 n), (Value.string val), (Value.bool true)] :: ro R :: F) := H9_
  have S11_ := Same.trans S6_ S10_
  refine S_list (T_val (v := (Value.bool false)) (x_assign rfl) ?_)
  refine wpList_nil ?_
  refine (X_then (hK1_ _ _ ?_))
  clear hK1_
  refine C_seq (fun K12_ hK12_ => ?_)
  refine C_seq (fun K13_ hK13_ => ?_)
  refine C_reg ?_
  refine S_list (T_val (v := (Value.pointer (some ⟨b2_, 6, none⟩))) (by kernel_rfl) ?_)
  refine S_list (T_val (v := (Value.bool true)) (x_load1 rfl Try.underlying4 rfl ((Holds.rd H9_ 1 rfl) 6 (Value.bool true) rfl)) ?_)
  refine wpList_nil ?_
  refine (X_then (hK13_ _ _ ?_))
  clear hK13_
  refine C_condT rfl ?_
  refine C_seq (fun K14_ hK14_ => ?_)
  refine C_reg ?_
  refine S_list (T_val (v := (Value.pointer (some ⟨b2_, 4, none⟩))) (by kernel_rfl) ?_)
  refine S_list0 (T_store1 (v := (Value.int .i64 0)) rfl rfl z2 rfl H9_ 1 rfl (Nat.le_of_ble_eq_true (by rfl)) ?_)
  intro w15_ S17_ H16_
  replace H16_ : Holds w15_ (cl b7_ 33 [(Value.string k), (Value.string x), (Value.int .i64 cr), (Value.int .i64 md), (Value.int .i64 vr), (Value.int .i64 ls)] :: cl b2_ 31 [(Value.int .i64 1), (Value.int .i64 r), (Value.string key), (Value.string en), (Value.int .i64 0), (Value.string val), (Value.bool true)] :: ro R :: F) := H16_
  have S18_ := Same.trans S11_ S17_
  refine wpList_nil ?_
  refine (X_then (hK14_ _ _ ?_))
  clear hK14_
  refine C_reg ?_
  refine S_list (T_val (v := (Value.pointer (some ⟨b2_, 5, none⟩))) (by kernel_rfl) ?_)
  refine S_list0 (T_store1 (v := (Value.string (ByteArray.mk #[]))) rfl rfl z9 rfl H16_ 1 rfl (Nat.le_of_ble_eq_true (by rfl)) ?_)
  intro w19_ S21_ H20_
  replace H20_ : Holds w19_ (cl b7_ 33 [(Value.string k), (Value.string x), (Value.int .i64 cr), (Value.int .i64 md), (Value.int .i64 vr), (Value.int .i64 ls)] :: cl b2_ 31 [(Value.int .i64 1), (Value.int .i64 r), (Value.string key), (Value.string en), (Value.int .i64 0), (Value.string (ByteArray.mk #[])), (Value.bool true)] :: ro R :: F) := H20_
  have S22_ := Same.trans S18_ S21_
  refine wpList_nil ?_
  refine (X_then (hK12_ _ _ ?_))
  clear hK12_
  refine C_seq (fun K23_ hK23_ => ?_)
  refine C_reg ?_
  refine S_list (T_val (v := (Value.int .i64 0)) (x_assign rfl) ?_)
  refine wpList_nil ?_
  refine (X_then (hK23_ _ _ ?_))
  clear hK23_
  refine C_seq (fun K24_ hK24_ => ?_)
  refine C_seq (fun K25_ hK25_ => ?_)
  refine C_reg ?_
  refine S_list (T_val (v := (Value.pointer (some ⟨b2_, 0, none⟩))) (by kernel_rfl) ?_)
  refine S_list (T_val (v := (Value.int .i64 1)) (x_load1 rfl Try.underlying3 rfl ((Holds.rd H20_ 1 rfl) 0 (Value.int .i64 1) rfl)) ?_)
  refine wpList_nil ?_
  refine (X_then (hK25_ _ _ ?_))
  clear hK25_
  refine C_block ?_
  refine C_seq (fun K26_ hK26_ => ?_)
  refine C_reg ?_
  refine S_list (T_val (v := (Value.bool false)) (x_bin rfl rfl rfl) ?_)
  refine S_list (T_val (v := (Value.bool false)) (x_assign rfl) ?_)
  refine wpList_nil ?_
  refine (X_then (hK26_ _ _ ?_))
  clear hK26_
  refine C_condF rfl ?_
  refine C_seq (fun K27_ hK27_ => ?_)
  refine C_reg ?_
  refine S_list (T_val (v := (Value.bool true)) (x_bin rfl rfl rfl) ?_)
  refine S_list (T_val (v := (Value.bool true)) (x_assign rfl) ?_)
  refine wpList_nil ?_
  refine (X_then (hK27_ _ _ ?_))
  clear hK27_
  refine C_condT rfl ?_
  refine C_reg ?_
  refine S_list (T_val (v := (Value.pointer (some ⟨b7_, 2, none⟩))) (by kernel_rfl) ?_)
  refine S_list (T_val (v := (Value.int .i64 cr)) (x_load1 rfl Try.underlying2 rfl ((Holds.rd H20_ 0 rfl) 2 (Value.int .i64 cr) rfl)) ?_)
  refine S_list (T_val (v := (Value.pointer (some ⟨b2_, 4, none⟩))) (by kernel_rfl) ?_)
  refine S_list (T_val (v := (Value.int .i64 0)) (x_load1 rfl Try.underlying2 rfl ((Holds.rd H20_ 1 rfl) 4 (Value.int .i64 0) rfl)) ?_)
  have H28_ : Holds w19_ (ro R :: cl b7_ 33 [(Value.string k), (Value.string x), (Value.int .i64 cr), (Value.int .i64 md), (Value.int .i64 vr), (Value.int .i64 ls)] :: cl b2_ 31 [(Value.int .i64 1), (Value.int .i64 r), (Value.string key), (Value.string en), (Value.int .i64 0), (Value.string (ByteArray.mk #[])), (Value.bool true)] :: F) := (Holds.bring H20_ 2 rfl)
  refine S_list (T_call (al := [(Value.int .i64 cr), (Value.int .i64 0)]) (pre := []) (F := cl b7_ 33 [(Value.string k), (Value.string x), (Value.int .i64 cr), (Value.int .i64 md), (Value.int .i64 vr), (Value.int .i64 ls)] :: cl b2_ 31 [(Value.int .i64 1), (Value.int .i64 r), (Value.string key), (Value.string en), (Value.int .i64 0), (Value.string (ByteArray.mk #[])), (Value.bool true)] :: F) rfl rfl cb38 (numOrd R cr 0) H28_ ?_)
  rintro v32_ p33_ w29_ ⟨rfl, rfl⟩ S31_ H30_
  replace H30_ : Holds w29_ (ro R :: cl b7_ 33 [(Value.string k), (Value.string x), (Value.int .i64 cr), (Value.int .i64 md), (Value.int .i64 vr), (Value.int .i64 ls)] :: cl b2_ 31 [(Value.int .i64 1), (Value.int .i64 r), (Value.string key), (Value.string en), (Value.int .i64 0), (Value.string (ByteArray.mk #[])), (Value.bool true)] :: F) := H30_
  have S34_ := Same.trans S22_ S31_
  refine S_list (T_val (v := (Value.int .i64 (ordI cr 0))) (x_assign rfl) ?_)
  refine wpList_nil ?_
  refine (X_blkN (X_then (hK24_ _ _ ?_)))
  clear hK24_
  refine C_seq (fun K35_ hK35_ => ?_)
  refine C_seq (fun K36_ hK36_ => ?_)
  refine C_reg ?_
  refine S_list (T_val (v := (Value.pointer (some ⟨b2_, 1, none⟩))) (by kernel_rfl) ?_)
  refine S_list (T_val (v := (Value.int .i64 r)) (x_load1 rfl Try.underlying3 rfl ((Holds.rd H30_ 2 rfl) 1 (Value.int .i64 r) rfl)) ?_)
  refine wpList_nil ?_
  refine (X_then (hK36_ _ _ ?_))
  clear hK36_
  refine C_block ?_
  refine C_seq (fun K37_ hK37_ => ?_)
  refine C_reg ?_
  refine S_list (T_val (v := (Value.bool (decide (r = 0)))) (x_bin rfl rfl rfl) ?_)
  refine S_list (T_val (v := (Value.bool (decide (r = 0)))) (x_assign rfl) ?_)
  refine wpList_nil ?_
  refine (X_then (hK37_ _ _ ?_))
  clear hK37_
  refine C_cond (b := decide (r = 0)) rfl (fun c38_t => ?_) (fun c38_f => ?_)
  · have c38_tp : r = 0 := of_decide_eq_true c38_t
    refine C_seq (fun K39_ hK39_ => ?_)
    refine C_reg ?_
    refine S_list (T_val (v := (Value.int .i64 (ordI cr 0))) (x_move rfl) ?_)
    refine S_list (T_val (v := (Value.bool (decide (ordI cr 0 = 0)))) (x_bin rfl rfl rfl) ?_)
    refine S_list (T_val (v := (Value.bool (decide (ordI cr 0 = 0)))) (x_assign rfl) ?_)
    refine wpList_nil ?_
    refine (X_then (hK39_ _ _ ?_))
    clear hK39_
    refine C_ret (X_blkR (X_thenR ?_))
    refine R_any (v := (Value.bool (decide (ordI cr 0 = 0)))) (run_results1 rfl rfl) ?_
    have H40_ : Holds w29_ (ro R :: F) := (Holds.erase (Holds.erase (Holds.bring H30_ 0 rfl) 1) 1)
    exact ⟨_, [], rfl, ⟨by rw [show r = 0 by omega]; rfl, rfl⟩, S34_, H40_⟩
  · have c38_fp : ¬ (r = 0) := of_decide_eq_false c38_f
    refine C_seq (fun K41_ hK41_ => ?_)
    refine C_reg ?_
    refine S_list (T_val (v := (Value.bool (decide (r = 1)))) (x_bin rfl rfl rfl) ?_)
    refine S_list (T_val (v := (Value.bool (decide (r = 1)))) (x_assign rfl) ?_)
    refine wpList_nil ?_
    refine (X_then (hK41_ _ _ ?_))
    clear hK41_
    refine C_cond (b := decide (r = 1)) rfl (fun c42_t => ?_) (fun c42_f => ?_)
    · have c42_tp : r = 1 := of_decide_eq_true c42_t
      refine C_seq (fun K43_ hK43_ => ?_)
      refine C_reg ?_
      refine S_list (T_val (v := (Value.int .i64 (ordI cr 0))) (x_move rfl) ?_)
      refine S_list (T_val (v := (Value.bool (decide (0 < ordI cr 0)))) (x_bin rfl rfl rfl) ?_)
      refine S_list (T_val (v := (Value.bool (decide (0 < ordI cr 0)))) (x_assign rfl) ?_)
      refine wpList_nil ?_
      refine (X_then (hK43_ _ _ ?_))
      clear hK43_
      refine C_ret (X_blkR (X_thenR ?_))
      refine R_any (v := (Value.bool (decide (0 < ordI cr 0)))) (run_results1 rfl rfl) ?_
      have H44_ : Holds w29_ (ro R :: F) := (Holds.erase (Holds.erase (Holds.bring H30_ 0 rfl) 1) 1)
      exact ⟨_, [], rfl, ⟨by rw [show r = 1 by omega]; rfl, rfl⟩, S34_, H44_⟩
    · have c42_fp : ¬ (r = 1) := of_decide_eq_false c42_f
      refine C_seq (fun K45_ hK45_ => ?_)
      refine C_reg ?_
      refine S_list (T_val (v := (Value.bool (decide (r = 2)))) (x_bin rfl rfl rfl) ?_)
      refine S_list (T_val (v := (Value.bool (decide (r = 2)))) (x_assign rfl) ?_)
      refine wpList_nil ?_
      refine (X_then (hK45_ _ _ ?_))
      clear hK45_
      refine C_cond (b := decide (r = 2)) rfl (fun c46_t => ?_) (fun c46_f => ?_)
      · have c46_tp : r = 2 := of_decide_eq_true c46_t
        refine C_seq (fun K47_ hK47_ => ?_)
        refine C_reg ?_
        refine S_list (T_val (v := (Value.int .i64 (ordI cr 0))) (x_move rfl) ?_)
        refine S_list (T_val (v := (Value.bool (decide (ordI cr 0 < 0)))) (x_bin rfl rfl rfl) ?_)
        refine S_list (T_val (v := (Value.bool (decide (ordI cr 0 < 0)))) (x_assign rfl) ?_)
        refine wpList_nil ?_
        refine (X_then (hK47_ _ _ ?_))
        clear hK47_
        refine C_ret (X_blkR (X_thenR ?_))
        refine R_any (v := (Value.bool (decide (ordI cr 0 < 0)))) (run_results1 rfl rfl) ?_
        have H48_ : Holds w29_ (ro R :: F) := (Holds.erase (Holds.erase (Holds.bring H30_ 0 rfl) 1) 1)
        exact ⟨_, [], rfl, ⟨by rw [show r = 2 by omega]; rfl, rfl⟩, S34_, H48_⟩
      · have c46_fp : ¬ (r = 2) := of_decide_eq_false c46_f
        refine C_skip (X_blkN (X_then (hK35_ _ _ ?_)))
        clear hK35_
        refine C_seq (fun K49_ hK49_ => ?_)
        refine C_reg ?_
        refine S_list (T_val (v := (Value.int .i64 (ordI cr 0))) (x_move rfl) ?_)
        refine S_list (T_val (v := (Value.bool (decide (ordI cr 0 ≠ 0)))) (x_bin rfl rfl rfl) ?_)
        refine S_list (T_val (v := (Value.bool (decide (ordI cr 0 ≠ 0)))) (x_assign rfl) ?_)
        refine wpList_nil ?_
        refine (X_then (hK49_ _ _ ?_))
        clear hK49_
        refine C_ret ?_
        refine R_any (v := (Value.bool (decide (ordI cr 0 ≠ 0)))) (run_results1 rfl rfl) ?_
        have H50_ : Holds w29_ (ro R :: F) := (Holds.erase (Holds.erase (Holds.bring H30_ 0 rfl) 1) 1)
        exact ⟨_, [], rfl, ⟨by rw [show r = 3 by omega]; rfl, rfl⟩, S34_, H50_⟩

set_option maxHeartbeats 400000 in
theorem spKV1f (R : HP) (r : Int) (key en : ByteArray) (n : Int) (val : ByteArray) (k x : ByteArray) (cr md vr ls : Int) (h0 : 0 ≤ r) (h1 : r ≤ 3) :
    Tri Try.prog 16 #[(Value.agg #[(Value.int .i64 1), (Value.int .i64 r), (Value.string key), (Value.string en), (Value.int .i64 n), (Value.string val), (Value.bool false)]), (Value.agg #[(Value.string k), (Value.string x), (Value.int .i64 cr), (Value.int .i64 md), (Value.int .i64 vr), (Value.int .i64 ls)])] R [] (fun v post => v = .bool (resOk r (ordI cr n)) ∧ post = []) := by
  refine Tri.into (n := 61) (al := [(Value.agg #[(Value.int .i64 1), (Value.int .i64 r), (Value.string key), (Value.string en), (Value.int .i64 n), (Value.string val), (Value.bool false)]), (Value.agg #[(Value.string k), (Value.string x), (Value.int .i64 cr), (Value.int .i64 md), (Value.int .i64 vr), (Value.int .i64 ls)])]) Try.func16 rfl Try.ntmps16 rfl rfl fun w F H => ?_
  replace H : Holds w (ro R :: F) := H
  refine C_seq (fun K1_ hK1_ => ?_)
  refine C_reg ?_
  refine S_list (T_box (v := (Value.agg #[(Value.int .i64 1), (Value.int .i64 r), (Value.string key), (Value.string en), (Value.int .i64 n), (Value.string val), (Value.bool false)])) rfl H ?_)
  intro b2_ w3_ S5_ H4_
  replace H4_ : Holds w3_ (cl b2_ 31 [(Value.int .i64 1), (Value.int .i64 r), (Value.string key), (Value.string en), (Value.int .i64 n), (Value.string val), (Value.bool false)] :: ro R :: F) := H4_
  have S6_ := Same.trans (Same.refl w) S5_
  refine S_list (T_box (v := (Value.agg #[(Value.string k), (Value.string x), (Value.int .i64 cr), (Value.int .i64 md), (Value.int .i64 vr), (Value.int .i64 ls)])) rfl H4_ ?_)
  intro b7_ w8_ S10_ H9_
  replace H9_ : Holds w8_ (cl b7_ 33 [(Value.string k), (Value.string x), (Value.int .i64 cr), (Value.int .i64 md), (Value.int .i64 vr), (Value.int .i64 ls)] :: cl b2_ 31 [(Value.int .i64 1), (Value.int .i64 r), (Value.string key), (Value.string en), (Value.int .i64 n), (Value.string val), (Value.bool false)] :: ro R :: F) := H9_
  have S11_ := Same.trans S6_ S10_
  refine S_list (T_val (v := (Value.bool false)) (x_assign rfl) ?_)
  refine wpList_nil ?_
  refine (X_then (hK1_ _ _ ?_))
  clear hK1_
  refine C_seq (fun K12_ hK12_ => ?_)
  refine C_seq (fun K13_ hK13_ => ?_)
  refine C_reg ?_
  refine S_list (T_val (v := (Value.pointer (some ⟨b2_, 6, none⟩))) (by kernel_rfl) ?_)
  refine S_list (T_val (v := (Value.bool false)) (x_load1 rfl Try.underlying4 rfl ((Holds.rd H9_ 1 rfl) 6 (Value.bool false) rfl)) ?_)
  refine wpList_nil ?_
  refine (X_then (hK13_ _ _ ?_))
  clear hK13_
  refine C_condF rfl ?_
  refine C_skip (X_then (hK12_ _ _ ?_))
  clear hK12_
  refine C_seq (fun K14_ hK14_ => ?_)
  refine C_reg ?_
  refine S_list (T_val (v := (Value.int .i64 0)) (x_assign rfl) ?_)
  refine wpList_nil ?_
  refine (X_then (hK14_ _ _ ?_))
  clear hK14_
  refine C_seq (fun K15_ hK15_ => ?_)
  refine C_seq (fun K16_ hK16_ => ?_)
  refine C_reg ?_
  refine S_list (T_val (v := (Value.pointer (some ⟨b2_, 0, none⟩))) (by kernel_rfl) ?_)
  refine S_list (T_val (v := (Value.int .i64 1)) (x_load1 rfl Try.underlying3 rfl ((Holds.rd H9_ 1 rfl) 0 (Value.int .i64 1) rfl)) ?_)
  refine wpList_nil ?_
  refine (X_then (hK16_ _ _ ?_))
  clear hK16_
  refine C_block ?_
  refine C_seq (fun K17_ hK17_ => ?_)
  refine C_reg ?_
  refine S_list (T_val (v := (Value.bool false)) (x_bin rfl rfl rfl) ?_)
  refine S_list (T_val (v := (Value.bool false)) (x_assign rfl) ?_)
  refine wpList_nil ?_
  refine (X_then (hK17_ _ _ ?_))
  clear hK17_
  refine C_condF rfl ?_
  refine C_seq (fun K18_ hK18_ => ?_)
  refine C_reg ?_
  refine S_list (T_val (v := (Value.bool true)) (x_bin rfl rfl rfl) ?_)
  refine S_list (T_val (v := (Value.bool true)) (x_assign rfl) ?_)
  refine wpList_nil ?_
  refine (X_then (hK18_ _ _ ?_))
  clear hK18_
  refine C_condT rfl ?_
  refine C_reg ?_
  refine S_list (T_val (v := (Value.pointer (some ⟨b7_, 2, none⟩))) (by kernel_rfl) ?_)
  refine S_list (T_val (v := (Value.int .i64 cr)) (x_load1 rfl Try.underlying2 rfl ((Holds.rd H9_ 0 rfl) 2 (Value.int .i64 cr) rfl)) ?_)
  refine S_list (T_val (v := (Value.pointer (some ⟨b2_, 4, none⟩))) (by kernel_rfl) ?_)
  refine S_list (T_val (v := (Value.int .i64 n)) (x_load1 rfl Try.underlying2 rfl ((Holds.rd H9_ 1 rfl) 4 (Value.int .i64 n) rfl)) ?_)
  have H19_ : Holds w8_ (ro R :: cl b7_ 33 [(Value.string k), (Value.string x), (Value.int .i64 cr), (Value.int .i64 md), (Value.int .i64 vr), (Value.int .i64 ls)] :: cl b2_ 31 [(Value.int .i64 1), (Value.int .i64 r), (Value.string key), (Value.string en), (Value.int .i64 n), (Value.string val), (Value.bool false)] :: F) := (Holds.bring H9_ 2 rfl)
  refine S_list (T_call (al := [(Value.int .i64 cr), (Value.int .i64 n)]) (pre := []) (F := cl b7_ 33 [(Value.string k), (Value.string x), (Value.int .i64 cr), (Value.int .i64 md), (Value.int .i64 vr), (Value.int .i64 ls)] :: cl b2_ 31 [(Value.int .i64 1), (Value.int .i64 r), (Value.string key), (Value.string en), (Value.int .i64 n), (Value.string val), (Value.bool false)] :: F) rfl rfl cb38 (numOrd R cr n) H19_ ?_)
  rintro v23_ p24_ w20_ ⟨rfl, rfl⟩ S22_ H21_
  replace H21_ : Holds w20_ (ro R :: cl b7_ 33 [(Value.string k), (Value.string x), (Value.int .i64 cr), (Value.int .i64 md), (Value.int .i64 vr), (Value.int .i64 ls)] :: cl b2_ 31 [(Value.int .i64 1), (Value.int .i64 r), (Value.string key), (Value.string en), (Value.int .i64 n), (Value.string val), (Value.bool false)] :: F) := H21_
  have S25_ := Same.trans S11_ S22_
  refine S_list (T_val (v := (Value.int .i64 (ordI cr n))) (x_assign rfl) ?_)
  refine wpList_nil ?_
  refine (X_blkN (X_then (hK15_ _ _ ?_)))
  clear hK15_
  refine C_seq (fun K26_ hK26_ => ?_)
  refine C_seq (fun K27_ hK27_ => ?_)
  refine C_reg ?_
  refine S_list (T_val (v := (Value.pointer (some ⟨b2_, 1, none⟩))) (by kernel_rfl) ?_)
  refine S_list (T_val (v := (Value.int .i64 r)) (x_load1 rfl Try.underlying3 rfl ((Holds.rd H21_ 2 rfl) 1 (Value.int .i64 r) rfl)) ?_)
  refine wpList_nil ?_
  refine (X_then (hK27_ _ _ ?_))
  clear hK27_
  refine C_block ?_
  refine C_seq (fun K28_ hK28_ => ?_)
  refine C_reg ?_
  refine S_list (T_val (v := (Value.bool (decide (r = 0)))) (x_bin rfl rfl rfl) ?_)
  refine S_list (T_val (v := (Value.bool (decide (r = 0)))) (x_assign rfl) ?_)
  refine wpList_nil ?_
  refine (X_then (hK28_ _ _ ?_))
  clear hK28_
  refine C_cond (b := decide (r = 0)) rfl (fun c29_t => ?_) (fun c29_f => ?_)
  · have c29_tp : r = 0 := of_decide_eq_true c29_t
    refine C_seq (fun K30_ hK30_ => ?_)
    refine C_reg ?_
    refine S_list (T_val (v := (Value.int .i64 (ordI cr n))) (x_move rfl) ?_)
    refine S_list (T_val (v := (Value.bool (decide (ordI cr n = 0)))) (x_bin rfl rfl rfl) ?_)
    refine S_list (T_val (v := (Value.bool (decide (ordI cr n = 0)))) (x_assign rfl) ?_)
    refine wpList_nil ?_
    refine (X_then (hK30_ _ _ ?_))
    clear hK30_
    refine C_ret (X_blkR (X_thenR ?_))
    refine R_any (v := (Value.bool (decide (ordI cr n = 0)))) (run_results1 rfl rfl) ?_
    have H31_ : Holds w20_ (ro R :: F) := (Holds.erase (Holds.erase (Holds.bring H21_ 0 rfl) 1) 1)
    exact ⟨_, [], rfl, ⟨by rw [show r = 0 by omega]; rfl, rfl⟩, S25_, H31_⟩
  · have c29_fp : ¬ (r = 0) := of_decide_eq_false c29_f
    refine C_seq (fun K32_ hK32_ => ?_)
    refine C_reg ?_
    refine S_list (T_val (v := (Value.bool (decide (r = 1)))) (x_bin rfl rfl rfl) ?_)
    refine S_list (T_val (v := (Value.bool (decide (r = 1)))) (x_assign rfl) ?_)
    refine wpList_nil ?_
    refine (X_then (hK32_ _ _ ?_))
    clear hK32_
    refine C_cond (b := decide (r = 1)) rfl (fun c33_t => ?_) (fun c33_f => ?_)
    · have c33_tp : r = 1 := of_decide_eq_true c33_t
      refine C_seq (fun K34_ hK34_ => ?_)
      refine C_reg ?_
      refine S_list (T_val (v := (Value.int .i64 (ordI cr n))) (x_move rfl) ?_)
      refine S_list (T_val (v := (Value.bool (decide (0 < ordI cr n)))) (x_bin rfl rfl rfl) ?_)
      refine S_list (T_val (v := (Value.bool (decide (0 < ordI cr n)))) (x_assign rfl) ?_)
      refine wpList_nil ?_
      refine (X_then (hK34_ _ _ ?_))
      clear hK34_
      refine C_ret (X_blkR (X_thenR ?_))
      refine R_any (v := (Value.bool (decide (0 < ordI cr n)))) (run_results1 rfl rfl) ?_
      have H35_ : Holds w20_ (ro R :: F) := (Holds.erase (Holds.erase (Holds.bring H21_ 0 rfl) 1) 1)
      exact ⟨_, [], rfl, ⟨by rw [show r = 1 by omega]; rfl, rfl⟩, S25_, H35_⟩
    · have c33_fp : ¬ (r = 1) := of_decide_eq_false c33_f
      refine C_seq (fun K36_ hK36_ => ?_)
      refine C_reg ?_
      refine S_list (T_val (v := (Value.bool (decide (r = 2)))) (x_bin rfl rfl rfl) ?_)
      refine S_list (T_val (v := (Value.bool (decide (r = 2)))) (x_assign rfl) ?_)
      refine wpList_nil ?_
      refine (X_then (hK36_ _ _ ?_))
      clear hK36_
      refine C_cond (b := decide (r = 2)) rfl (fun c37_t => ?_) (fun c37_f => ?_)
      · have c37_tp : r = 2 := of_decide_eq_true c37_t
        refine C_seq (fun K38_ hK38_ => ?_)
        refine C_reg ?_
        refine S_list (T_val (v := (Value.int .i64 (ordI cr n))) (x_move rfl) ?_)
        refine S_list (T_val (v := (Value.bool (decide (ordI cr n < 0)))) (x_bin rfl rfl rfl) ?_)
        refine S_list (T_val (v := (Value.bool (decide (ordI cr n < 0)))) (x_assign rfl) ?_)
        refine wpList_nil ?_
        refine (X_then (hK38_ _ _ ?_))
        clear hK38_
        refine C_ret (X_blkR (X_thenR ?_))
        refine R_any (v := (Value.bool (decide (ordI cr n < 0)))) (run_results1 rfl rfl) ?_
        have H39_ : Holds w20_ (ro R :: F) := (Holds.erase (Holds.erase (Holds.bring H21_ 0 rfl) 1) 1)
        exact ⟨_, [], rfl, ⟨by rw [show r = 2 by omega]; rfl, rfl⟩, S25_, H39_⟩
      · have c37_fp : ¬ (r = 2) := of_decide_eq_false c37_f
        refine C_skip (X_blkN (X_then (hK26_ _ _ ?_)))
        clear hK26_
        refine C_seq (fun K40_ hK40_ => ?_)
        refine C_reg ?_
        refine S_list (T_val (v := (Value.int .i64 (ordI cr n))) (x_move rfl) ?_)
        refine S_list (T_val (v := (Value.bool (decide (ordI cr n ≠ 0)))) (x_bin rfl rfl rfl) ?_)
        refine S_list (T_val (v := (Value.bool (decide (ordI cr n ≠ 0)))) (x_assign rfl) ?_)
        refine wpList_nil ?_
        refine (X_then (hK40_ _ _ ?_))
        clear hK40_
        refine C_ret ?_
        refine R_any (v := (Value.bool (decide (ordI cr n ≠ 0)))) (run_results1 rfl rfl) ?_
        have H41_ : Holds w20_ (ro R :: F) := (Holds.erase (Holds.erase (Holds.bring H21_ 0 rfl) 1) 1)
        exact ⟨_, [], rfl, ⟨by rw [show r = 3 by omega]; rfl, rfl⟩, S25_, H41_⟩

set_option maxHeartbeats 400000 in
theorem spKV2t (R : HP) (r : Int) (key en : ByteArray) (n : Int) (val : ByteArray) (k x : ByteArray) (cr md vr ls : Int) (h0 : 0 ≤ r) (h1 : r ≤ 3) :
    Tri Try.prog 16 #[(Value.agg #[(Value.int .i64 2), (Value.int .i64 r), (Value.string key), (Value.string en), (Value.int .i64 n), (Value.string val), (Value.bool true)]), (Value.agg #[(Value.string k), (Value.string x), (Value.int .i64 cr), (Value.int .i64 md), (Value.int .i64 vr), (Value.int .i64 ls)])] R [] (fun v post => v = .bool (resOk r (ordI md 0)) ∧ post = []) := by
  refine Tri.into (n := 61) (al := [(Value.agg #[(Value.int .i64 2), (Value.int .i64 r), (Value.string key), (Value.string en), (Value.int .i64 n), (Value.string val), (Value.bool true)]), (Value.agg #[(Value.string k), (Value.string x), (Value.int .i64 cr), (Value.int .i64 md), (Value.int .i64 vr), (Value.int .i64 ls)])]) Try.func16 rfl Try.ntmps16 rfl rfl fun w F H => ?_
  replace H : Holds w (ro R :: F) := H
  refine C_seq (fun K1_ hK1_ => ?_)
  refine C_reg ?_
  refine S_list (T_box (v := (Value.agg #[(Value.int .i64 2), (Value.int .i64 r), (Value.string key), (Value.string en), (Value.int .i64 n), (Value.string val), (Value.bool true)])) rfl H ?_)
  intro b2_ w3_ S5_ H4_
  replace H4_ : Holds w3_ (cl b2_ 31 [(Value.int .i64 2), (Value.int .i64 r), (Value.string key), (Value.string en), (Value.int .i64 n), (Value.string val), (Value.bool true)] :: ro R :: F) := H4_
  have S6_ := Same.trans (Same.refl w) S5_
  refine S_list (T_box (v := (Value.agg #[(Value.string k), (Value.string x), (Value.int .i64 cr), (Value.int .i64 md), (Value.int .i64 vr), (Value.int .i64 ls)])) rfl H4_ ?_)
  intro b7_ w8_ S10_ H9_
  replace H9_ : Holds w8_ (cl b7_ 33 [(Value.string k), (Value.string x), (Value.int .i64 cr), (Value.int .i64 md), (Value.int .i64 vr), (Value.int .i64 ls)] :: cl b2_ 31 [(Value.int .i64 2), (Value.int .i64 r), (Value.string key), (Value.string en), (Value.int .i64 n), (Value.string val), (Value.bool true)] :: ro R :: F) := H9_
  have S11_ := Same.trans S6_ S10_
  refine S_list (T_val (v := (Value.bool false)) (x_assign rfl) ?_)
  refine wpList_nil ?_
  refine (X_then (hK1_ _ _ ?_))
  clear hK1_
  refine C_seq (fun K12_ hK12_ => ?_)
  refine C_seq (fun K13_ hK13_ => ?_)
  refine C_reg ?_
  refine S_list (T_val (v := (Value.pointer (some ⟨b2_, 6, none⟩))) (by kernel_rfl) ?_)
  refine S_list (T_val (v := (Value.bool true)) (x_load1 rfl Try.underlying4 rfl ((Holds.rd H9_ 1 rfl) 6 (Value.bool true) rfl)) ?_)
  refine wpList_nil ?_
  refine (X_then (hK13_ _ _ ?_))
  clear hK13_
  refine C_condT rfl ?_
  refine C_seq (fun K14_ hK14_ => ?_)
  refine C_reg ?_
  refine S_list (T_val (v := (Value.pointer (some ⟨b2_, 4, none⟩))) (by kernel_rfl) ?_)
  refine S_list0 (T_store1 (v := (Value.int .i64 0)) rfl rfl z2 rfl H9_ 1 rfl (Nat.le_of_ble_eq_true (by rfl)) ?_)
  intro w15_ S17_ H16_
  replace H16_ : Holds w15_ (cl b7_ 33 [(Value.string k), (Value.string x), (Value.int .i64 cr), (Value.int .i64 md), (Value.int .i64 vr), (Value.int .i64 ls)] :: cl b2_ 31 [(Value.int .i64 2), (Value.int .i64 r), (Value.string key), (Value.string en), (Value.int .i64 0), (Value.string val), (Value.bool true)] :: ro R :: F) := H16_
  have S18_ := Same.trans S11_ S17_
  refine wpList_nil ?_
  refine (X_then (hK14_ _ _ ?_))
  clear hK14_
  refine C_reg ?_
  refine S_list (T_val (v := (Value.pointer (some ⟨b2_, 5, none⟩))) (by kernel_rfl) ?_)
  refine S_list0 (T_store1 (v := (Value.string (ByteArray.mk #[]))) rfl rfl z9 rfl H16_ 1 rfl (Nat.le_of_ble_eq_true (by rfl)) ?_)
  intro w19_ S21_ H20_
  replace H20_ : Holds w19_ (cl b7_ 33 [(Value.string k), (Value.string x), (Value.int .i64 cr), (Value.int .i64 md), (Value.int .i64 vr), (Value.int .i64 ls)] :: cl b2_ 31 [(Value.int .i64 2), (Value.int .i64 r), (Value.string key), (Value.string en), (Value.int .i64 0), (Value.string (ByteArray.mk #[])), (Value.bool true)] :: ro R :: F) := H20_
  have S22_ := Same.trans S18_ S21_
  refine wpList_nil ?_
  refine (X_then (hK12_ _ _ ?_))
  clear hK12_
  refine C_seq (fun K23_ hK23_ => ?_)
  refine C_reg ?_
  refine S_list (T_val (v := (Value.int .i64 0)) (x_assign rfl) ?_)
  refine wpList_nil ?_
  refine (X_then (hK23_ _ _ ?_))
  clear hK23_
  refine C_seq (fun K24_ hK24_ => ?_)
  refine C_seq (fun K25_ hK25_ => ?_)
  refine C_reg ?_
  refine S_list (T_val (v := (Value.pointer (some ⟨b2_, 0, none⟩))) (by kernel_rfl) ?_)
  refine S_list (T_val (v := (Value.int .i64 2)) (x_load1 rfl Try.underlying3 rfl ((Holds.rd H20_ 1 rfl) 0 (Value.int .i64 2) rfl)) ?_)
  refine wpList_nil ?_
  refine (X_then (hK25_ _ _ ?_))
  clear hK25_
  refine C_block ?_
  refine C_seq (fun K26_ hK26_ => ?_)
  refine C_reg ?_
  refine S_list (T_val (v := (Value.bool false)) (x_bin rfl rfl rfl) ?_)
  refine S_list (T_val (v := (Value.bool false)) (x_assign rfl) ?_)
  refine wpList_nil ?_
  refine (X_then (hK26_ _ _ ?_))
  clear hK26_
  refine C_condF rfl ?_
  refine C_seq (fun K27_ hK27_ => ?_)
  refine C_reg ?_
  refine S_list (T_val (v := (Value.bool false)) (x_bin rfl rfl rfl) ?_)
  refine S_list (T_val (v := (Value.bool false)) (x_assign rfl) ?_)
  refine wpList_nil ?_
  refine (X_then (hK27_ _ _ ?_))
  clear hK27_
  refine C_condF rfl ?_
  refine C_seq (fun K28_ hK28_ => ?_)
  refine C_reg ?_
  refine S_list (T_val (v := (Value.bool true)) (x_bin rfl rfl rfl) ?_)
  refine S_list (T_val (v := (Value.bool true)) (x_assign rfl) ?_)
  refine wpList_nil ?_
  refine (X_then (hK28_ _ _ ?_))
  clear hK28_
  refine C_condT rfl ?_
  refine C_reg ?_
  refine S_list (T_val (v := (Value.pointer (some ⟨b7_, 3, none⟩))) (by kernel_rfl) ?_)
  refine S_list (T_val (v := (Value.int .i64 md)) (x_load1 rfl Try.underlying2 rfl ((Holds.rd H20_ 0 rfl) 3 (Value.int .i64 md) rfl)) ?_)
  refine S_list (T_val (v := (Value.pointer (some ⟨b2_, 4, none⟩))) (by kernel_rfl) ?_)
  refine S_list (T_val (v := (Value.int .i64 0)) (x_load1 rfl Try.underlying2 rfl ((Holds.rd H20_ 1 rfl) 4 (Value.int .i64 0) rfl)) ?_)
  have H29_ : Holds w19_ (ro R :: cl b7_ 33 [(Value.string k), (Value.string x), (Value.int .i64 cr), (Value.int .i64 md), (Value.int .i64 vr), (Value.int .i64 ls)] :: cl b2_ 31 [(Value.int .i64 2), (Value.int .i64 r), (Value.string key), (Value.string en), (Value.int .i64 0), (Value.string (ByteArray.mk #[])), (Value.bool true)] :: F) := (Holds.bring H20_ 2 rfl)
  refine S_list (T_call (al := [(Value.int .i64 md), (Value.int .i64 0)]) (pre := []) (F := cl b7_ 33 [(Value.string k), (Value.string x), (Value.int .i64 cr), (Value.int .i64 md), (Value.int .i64 vr), (Value.int .i64 ls)] :: cl b2_ 31 [(Value.int .i64 2), (Value.int .i64 r), (Value.string key), (Value.string en), (Value.int .i64 0), (Value.string (ByteArray.mk #[])), (Value.bool true)] :: F) rfl rfl cb38 (numOrd R md 0) H29_ ?_)
  rintro v33_ p34_ w30_ ⟨rfl, rfl⟩ S32_ H31_
  replace H31_ : Holds w30_ (ro R :: cl b7_ 33 [(Value.string k), (Value.string x), (Value.int .i64 cr), (Value.int .i64 md), (Value.int .i64 vr), (Value.int .i64 ls)] :: cl b2_ 31 [(Value.int .i64 2), (Value.int .i64 r), (Value.string key), (Value.string en), (Value.int .i64 0), (Value.string (ByteArray.mk #[])), (Value.bool true)] :: F) := H31_
  have S35_ := Same.trans S22_ S32_
  refine S_list (T_val (v := (Value.int .i64 (ordI md 0))) (x_assign rfl) ?_)
  refine wpList_nil ?_
  refine (X_blkN (X_then (hK24_ _ _ ?_)))
  clear hK24_
  refine C_seq (fun K36_ hK36_ => ?_)
  refine C_seq (fun K37_ hK37_ => ?_)
  refine C_reg ?_
  refine S_list (T_val (v := (Value.pointer (some ⟨b2_, 1, none⟩))) (by kernel_rfl) ?_)
  refine S_list (T_val (v := (Value.int .i64 r)) (x_load1 rfl Try.underlying3 rfl ((Holds.rd H31_ 2 rfl) 1 (Value.int .i64 r) rfl)) ?_)
  refine wpList_nil ?_
  refine (X_then (hK37_ _ _ ?_))
  clear hK37_
  refine C_block ?_
  refine C_seq (fun K38_ hK38_ => ?_)
  refine C_reg ?_
  refine S_list (T_val (v := (Value.bool (decide (r = 0)))) (x_bin rfl rfl rfl) ?_)
  refine S_list (T_val (v := (Value.bool (decide (r = 0)))) (x_assign rfl) ?_)
  refine wpList_nil ?_
  refine (X_then (hK38_ _ _ ?_))
  clear hK38_
  refine C_cond (b := decide (r = 0)) rfl (fun c39_t => ?_) (fun c39_f => ?_)
  · have c39_tp : r = 0 := of_decide_eq_true c39_t
    refine C_seq (fun K40_ hK40_ => ?_)
    refine C_reg ?_
    refine S_list (T_val (v := (Value.int .i64 (ordI md 0))) (x_move rfl) ?_)
    refine S_list (T_val (v := (Value.bool (decide (ordI md 0 = 0)))) (x_bin rfl rfl rfl) ?_)
    refine S_list (T_val (v := (Value.bool (decide (ordI md 0 = 0)))) (x_assign rfl) ?_)
    refine wpList_nil ?_
    refine (X_then (hK40_ _ _ ?_))
    clear hK40_
    refine C_ret (X_blkR (X_thenR ?_))
    refine R_any (v := (Value.bool (decide (ordI md 0 = 0)))) (run_results1 rfl rfl) ?_
    have H41_ : Holds w30_ (ro R :: F) := (Holds.erase (Holds.erase (Holds.bring H31_ 0 rfl) 1) 1)
    exact ⟨_, [], rfl, ⟨by rw [show r = 0 by omega]; rfl, rfl⟩, S35_, H41_⟩
  · have c39_fp : ¬ (r = 0) := of_decide_eq_false c39_f
    refine C_seq (fun K42_ hK42_ => ?_)
    refine C_reg ?_
    refine S_list (T_val (v := (Value.bool (decide (r = 1)))) (x_bin rfl rfl rfl) ?_)
    refine S_list (T_val (v := (Value.bool (decide (r = 1)))) (x_assign rfl) ?_)
    refine wpList_nil ?_
    refine (X_then (hK42_ _ _ ?_))
    clear hK42_
    refine C_cond (b := decide (r = 1)) rfl (fun c43_t => ?_) (fun c43_f => ?_)
    · have c43_tp : r = 1 := of_decide_eq_true c43_t
      refine C_seq (fun K44_ hK44_ => ?_)
      refine C_reg ?_
      refine S_list (T_val (v := (Value.int .i64 (ordI md 0))) (x_move rfl) ?_)
      refine S_list (T_val (v := (Value.bool (decide (0 < ordI md 0)))) (x_bin rfl rfl rfl) ?_)
      refine S_list (T_val (v := (Value.bool (decide (0 < ordI md 0)))) (x_assign rfl) ?_)
      refine wpList_nil ?_
      refine (X_then (hK44_ _ _ ?_))
      clear hK44_
      refine C_ret (X_blkR (X_thenR ?_))
      refine R_any (v := (Value.bool (decide (0 < ordI md 0)))) (run_results1 rfl rfl) ?_
      have H45_ : Holds w30_ (ro R :: F) := (Holds.erase (Holds.erase (Holds.bring H31_ 0 rfl) 1) 1)
      exact ⟨_, [], rfl, ⟨by rw [show r = 1 by omega]; rfl, rfl⟩, S35_, H45_⟩
    · have c43_fp : ¬ (r = 1) := of_decide_eq_false c43_f
      refine C_seq (fun K46_ hK46_ => ?_)
      refine C_reg ?_
      refine S_list (T_val (v := (Value.bool (decide (r = 2)))) (x_bin rfl rfl rfl) ?_)
      refine S_list (T_val (v := (Value.bool (decide (r = 2)))) (x_assign rfl) ?_)
      refine wpList_nil ?_
      refine (X_then (hK46_ _ _ ?_))
      clear hK46_
      refine C_cond (b := decide (r = 2)) rfl (fun c47_t => ?_) (fun c47_f => ?_)
      · have c47_tp : r = 2 := of_decide_eq_true c47_t
        refine C_seq (fun K48_ hK48_ => ?_)
        refine C_reg ?_
        refine S_list (T_val (v := (Value.int .i64 (ordI md 0))) (x_move rfl) ?_)
        refine S_list (T_val (v := (Value.bool (decide (ordI md 0 < 0)))) (x_bin rfl rfl rfl) ?_)
        refine S_list (T_val (v := (Value.bool (decide (ordI md 0 < 0)))) (x_assign rfl) ?_)
        refine wpList_nil ?_
        refine (X_then (hK48_ _ _ ?_))
        clear hK48_
        refine C_ret (X_blkR (X_thenR ?_))
        refine R_any (v := (Value.bool (decide (ordI md 0 < 0)))) (run_results1 rfl rfl) ?_
        have H49_ : Holds w30_ (ro R :: F) := (Holds.erase (Holds.erase (Holds.bring H31_ 0 rfl) 1) 1)
        exact ⟨_, [], rfl, ⟨by rw [show r = 2 by omega]; rfl, rfl⟩, S35_, H49_⟩
      · have c47_fp : ¬ (r = 2) := of_decide_eq_false c47_f
        refine C_skip (X_blkN (X_then (hK36_ _ _ ?_)))
        clear hK36_
        refine C_seq (fun K50_ hK50_ => ?_)
        refine C_reg ?_
        refine S_list (T_val (v := (Value.int .i64 (ordI md 0))) (x_move rfl) ?_)
        refine S_list (T_val (v := (Value.bool (decide (ordI md 0 ≠ 0)))) (x_bin rfl rfl rfl) ?_)
        refine S_list (T_val (v := (Value.bool (decide (ordI md 0 ≠ 0)))) (x_assign rfl) ?_)
        refine wpList_nil ?_
        refine (X_then (hK50_ _ _ ?_))
        clear hK50_
        refine C_ret ?_
        refine R_any (v := (Value.bool (decide (ordI md 0 ≠ 0)))) (run_results1 rfl rfl) ?_
        have H51_ : Holds w30_ (ro R :: F) := (Holds.erase (Holds.erase (Holds.bring H31_ 0 rfl) 1) 1)
        exact ⟨_, [], rfl, ⟨by rw [show r = 3 by omega]; rfl, rfl⟩, S35_, H51_⟩

set_option maxHeartbeats 400000 in
theorem spKV2f (R : HP) (r : Int) (key en : ByteArray) (n : Int) (val : ByteArray) (k x : ByteArray) (cr md vr ls : Int) (h0 : 0 ≤ r) (h1 : r ≤ 3) :
    Tri Try.prog 16 #[(Value.agg #[(Value.int .i64 2), (Value.int .i64 r), (Value.string key), (Value.string en), (Value.int .i64 n), (Value.string val), (Value.bool false)]), (Value.agg #[(Value.string k), (Value.string x), (Value.int .i64 cr), (Value.int .i64 md), (Value.int .i64 vr), (Value.int .i64 ls)])] R [] (fun v post => v = .bool (resOk r (ordI md n)) ∧ post = []) := by
  refine Tri.into (n := 61) (al := [(Value.agg #[(Value.int .i64 2), (Value.int .i64 r), (Value.string key), (Value.string en), (Value.int .i64 n), (Value.string val), (Value.bool false)]), (Value.agg #[(Value.string k), (Value.string x), (Value.int .i64 cr), (Value.int .i64 md), (Value.int .i64 vr), (Value.int .i64 ls)])]) Try.func16 rfl Try.ntmps16 rfl rfl fun w F H => ?_
  replace H : Holds w (ro R :: F) := H
  refine C_seq (fun K1_ hK1_ => ?_)
  refine C_reg ?_
  refine S_list (T_box (v := (Value.agg #[(Value.int .i64 2), (Value.int .i64 r), (Value.string key), (Value.string en), (Value.int .i64 n), (Value.string val), (Value.bool false)])) rfl H ?_)
  intro b2_ w3_ S5_ H4_
  replace H4_ : Holds w3_ (cl b2_ 31 [(Value.int .i64 2), (Value.int .i64 r), (Value.string key), (Value.string en), (Value.int .i64 n), (Value.string val), (Value.bool false)] :: ro R :: F) := H4_
  have S6_ := Same.trans (Same.refl w) S5_
  refine S_list (T_box (v := (Value.agg #[(Value.string k), (Value.string x), (Value.int .i64 cr), (Value.int .i64 md), (Value.int .i64 vr), (Value.int .i64 ls)])) rfl H4_ ?_)
  intro b7_ w8_ S10_ H9_
  replace H9_ : Holds w8_ (cl b7_ 33 [(Value.string k), (Value.string x), (Value.int .i64 cr), (Value.int .i64 md), (Value.int .i64 vr), (Value.int .i64 ls)] :: cl b2_ 31 [(Value.int .i64 2), (Value.int .i64 r), (Value.string key), (Value.string en), (Value.int .i64 n), (Value.string val), (Value.bool false)] :: ro R :: F) := H9_
  have S11_ := Same.trans S6_ S10_
  refine S_list (T_val (v := (Value.bool false)) (x_assign rfl) ?_)
  refine wpList_nil ?_
  refine (X_then (hK1_ _ _ ?_))
  clear hK1_
  refine C_seq (fun K12_ hK12_ => ?_)
  refine C_seq (fun K13_ hK13_ => ?_)
  refine C_reg ?_
  refine S_list (T_val (v := (Value.pointer (some ⟨b2_, 6, none⟩))) (by kernel_rfl) ?_)
  refine S_list (T_val (v := (Value.bool false)) (x_load1 rfl Try.underlying4 rfl ((Holds.rd H9_ 1 rfl) 6 (Value.bool false) rfl)) ?_)
  refine wpList_nil ?_
  refine (X_then (hK13_ _ _ ?_))
  clear hK13_
  refine C_condF rfl ?_
  refine C_skip (X_then (hK12_ _ _ ?_))
  clear hK12_
  refine C_seq (fun K14_ hK14_ => ?_)
  refine C_reg ?_
  refine S_list (T_val (v := (Value.int .i64 0)) (x_assign rfl) ?_)
  refine wpList_nil ?_
  refine (X_then (hK14_ _ _ ?_))
  clear hK14_
  refine C_seq (fun K15_ hK15_ => ?_)
  refine C_seq (fun K16_ hK16_ => ?_)
  refine C_reg ?_
  refine S_list (T_val (v := (Value.pointer (some ⟨b2_, 0, none⟩))) (by kernel_rfl) ?_)
  refine S_list (T_val (v := (Value.int .i64 2)) (x_load1 rfl Try.underlying3 rfl ((Holds.rd H9_ 1 rfl) 0 (Value.int .i64 2) rfl)) ?_)
  refine wpList_nil ?_
  refine (X_then (hK16_ _ _ ?_))
  clear hK16_
  refine C_block ?_
  refine C_seq (fun K17_ hK17_ => ?_)
  refine C_reg ?_
  refine S_list (T_val (v := (Value.bool false)) (x_bin rfl rfl rfl) ?_)
  refine S_list (T_val (v := (Value.bool false)) (x_assign rfl) ?_)
  refine wpList_nil ?_
  refine (X_then (hK17_ _ _ ?_))
  clear hK17_
  refine C_condF rfl ?_
  refine C_seq (fun K18_ hK18_ => ?_)
  refine C_reg ?_
  refine S_list (T_val (v := (Value.bool false)) (x_bin rfl rfl rfl) ?_)
  refine S_list (T_val (v := (Value.bool false)) (x_assign rfl) ?_)
  refine wpList_nil ?_
  refine (X_then (hK18_ _ _ ?_))
  clear hK18_
  refine C_condF rfl ?_
  refine C_seq (fun K19_ hK19_ => ?_)
  refine C_reg ?_
  refine S_list (T_val (v := (Value.bool true)) (x_bin rfl rfl rfl) ?_)
  refine S_list (T_val (v := (Value.bool true)) (x_assign rfl) ?_)
  refine wpList_nil ?_
  refine (X_then (hK19_ _ _ ?_))
  clear hK19_
  refine C_condT rfl ?_
  refine C_reg ?_
  refine S_list (T_val (v := (Value.pointer (some ⟨b7_, 3, none⟩))) (by kernel_rfl) ?_)
  refine S_list (T_val (v := (Value.int .i64 md)) (x_load1 rfl Try.underlying2 rfl ((Holds.rd H9_ 0 rfl) 3 (Value.int .i64 md) rfl)) ?_)
  refine S_list (T_val (v := (Value.pointer (some ⟨b2_, 4, none⟩))) (by kernel_rfl) ?_)
  refine S_list (T_val (v := (Value.int .i64 n)) (x_load1 rfl Try.underlying2 rfl ((Holds.rd H9_ 1 rfl) 4 (Value.int .i64 n) rfl)) ?_)
  have H20_ : Holds w8_ (ro R :: cl b7_ 33 [(Value.string k), (Value.string x), (Value.int .i64 cr), (Value.int .i64 md), (Value.int .i64 vr), (Value.int .i64 ls)] :: cl b2_ 31 [(Value.int .i64 2), (Value.int .i64 r), (Value.string key), (Value.string en), (Value.int .i64 n), (Value.string val), (Value.bool false)] :: F) := (Holds.bring H9_ 2 rfl)
  refine S_list (T_call (al := [(Value.int .i64 md), (Value.int .i64 n)]) (pre := []) (F := cl b7_ 33 [(Value.string k), (Value.string x), (Value.int .i64 cr), (Value.int .i64 md), (Value.int .i64 vr), (Value.int .i64 ls)] :: cl b2_ 31 [(Value.int .i64 2), (Value.int .i64 r), (Value.string key), (Value.string en), (Value.int .i64 n), (Value.string val), (Value.bool false)] :: F) rfl rfl cb38 (numOrd R md n) H20_ ?_)
  rintro v24_ p25_ w21_ ⟨rfl, rfl⟩ S23_ H22_
  replace H22_ : Holds w21_ (ro R :: cl b7_ 33 [(Value.string k), (Value.string x), (Value.int .i64 cr), (Value.int .i64 md), (Value.int .i64 vr), (Value.int .i64 ls)] :: cl b2_ 31 [(Value.int .i64 2), (Value.int .i64 r), (Value.string key), (Value.string en), (Value.int .i64 n), (Value.string val), (Value.bool false)] :: F) := H22_
  have S26_ := Same.trans S11_ S23_
  refine S_list (T_val (v := (Value.int .i64 (ordI md n))) (x_assign rfl) ?_)
  refine wpList_nil ?_
  refine (X_blkN (X_then (hK15_ _ _ ?_)))
  clear hK15_
  refine C_seq (fun K27_ hK27_ => ?_)
  refine C_seq (fun K28_ hK28_ => ?_)
  refine C_reg ?_
  refine S_list (T_val (v := (Value.pointer (some ⟨b2_, 1, none⟩))) (by kernel_rfl) ?_)
  refine S_list (T_val (v := (Value.int .i64 r)) (x_load1 rfl Try.underlying3 rfl ((Holds.rd H22_ 2 rfl) 1 (Value.int .i64 r) rfl)) ?_)
  refine wpList_nil ?_
  refine (X_then (hK28_ _ _ ?_))
  clear hK28_
  refine C_block ?_
  refine C_seq (fun K29_ hK29_ => ?_)
  refine C_reg ?_
  refine S_list (T_val (v := (Value.bool (decide (r = 0)))) (x_bin rfl rfl rfl) ?_)
  refine S_list (T_val (v := (Value.bool (decide (r = 0)))) (x_assign rfl) ?_)
  refine wpList_nil ?_
  refine (X_then (hK29_ _ _ ?_))
  clear hK29_
  refine C_cond (b := decide (r = 0)) rfl (fun c30_t => ?_) (fun c30_f => ?_)
  · have c30_tp : r = 0 := of_decide_eq_true c30_t
    refine C_seq (fun K31_ hK31_ => ?_)
    refine C_reg ?_
    refine S_list (T_val (v := (Value.int .i64 (ordI md n))) (x_move rfl) ?_)
    refine S_list (T_val (v := (Value.bool (decide (ordI md n = 0)))) (x_bin rfl rfl rfl) ?_)
    refine S_list (T_val (v := (Value.bool (decide (ordI md n = 0)))) (x_assign rfl) ?_)
    refine wpList_nil ?_
    refine (X_then (hK31_ _ _ ?_))
    clear hK31_
    refine C_ret (X_blkR (X_thenR ?_))
    refine R_any (v := (Value.bool (decide (ordI md n = 0)))) (run_results1 rfl rfl) ?_
    have H32_ : Holds w21_ (ro R :: F) := (Holds.erase (Holds.erase (Holds.bring H22_ 0 rfl) 1) 1)
    exact ⟨_, [], rfl, ⟨by rw [show r = 0 by omega]; rfl, rfl⟩, S26_, H32_⟩
  · have c30_fp : ¬ (r = 0) := of_decide_eq_false c30_f
    refine C_seq (fun K33_ hK33_ => ?_)
    refine C_reg ?_
    refine S_list (T_val (v := (Value.bool (decide (r = 1)))) (x_bin rfl rfl rfl) ?_)
    refine S_list (T_val (v := (Value.bool (decide (r = 1)))) (x_assign rfl) ?_)
    refine wpList_nil ?_
    refine (X_then (hK33_ _ _ ?_))
    clear hK33_
    refine C_cond (b := decide (r = 1)) rfl (fun c34_t => ?_) (fun c34_f => ?_)
    · have c34_tp : r = 1 := of_decide_eq_true c34_t
      refine C_seq (fun K35_ hK35_ => ?_)
      refine C_reg ?_
      refine S_list (T_val (v := (Value.int .i64 (ordI md n))) (x_move rfl) ?_)
      refine S_list (T_val (v := (Value.bool (decide (0 < ordI md n)))) (x_bin rfl rfl rfl) ?_)
      refine S_list (T_val (v := (Value.bool (decide (0 < ordI md n)))) (x_assign rfl) ?_)
      refine wpList_nil ?_
      refine (X_then (hK35_ _ _ ?_))
      clear hK35_
      refine C_ret (X_blkR (X_thenR ?_))
      refine R_any (v := (Value.bool (decide (0 < ordI md n)))) (run_results1 rfl rfl) ?_
      have H36_ : Holds w21_ (ro R :: F) := (Holds.erase (Holds.erase (Holds.bring H22_ 0 rfl) 1) 1)
      exact ⟨_, [], rfl, ⟨by rw [show r = 1 by omega]; rfl, rfl⟩, S26_, H36_⟩
    · have c34_fp : ¬ (r = 1) := of_decide_eq_false c34_f
      refine C_seq (fun K37_ hK37_ => ?_)
      refine C_reg ?_
      refine S_list (T_val (v := (Value.bool (decide (r = 2)))) (x_bin rfl rfl rfl) ?_)
      refine S_list (T_val (v := (Value.bool (decide (r = 2)))) (x_assign rfl) ?_)
      refine wpList_nil ?_
      refine (X_then (hK37_ _ _ ?_))
      clear hK37_
      refine C_cond (b := decide (r = 2)) rfl (fun c38_t => ?_) (fun c38_f => ?_)
      · have c38_tp : r = 2 := of_decide_eq_true c38_t
        refine C_seq (fun K39_ hK39_ => ?_)
        refine C_reg ?_
        refine S_list (T_val (v := (Value.int .i64 (ordI md n))) (x_move rfl) ?_)
        refine S_list (T_val (v := (Value.bool (decide (ordI md n < 0)))) (x_bin rfl rfl rfl) ?_)
        refine S_list (T_val (v := (Value.bool (decide (ordI md n < 0)))) (x_assign rfl) ?_)
        refine wpList_nil ?_
        refine (X_then (hK39_ _ _ ?_))
        clear hK39_
        refine C_ret (X_blkR (X_thenR ?_))
        refine R_any (v := (Value.bool (decide (ordI md n < 0)))) (run_results1 rfl rfl) ?_
        have H40_ : Holds w21_ (ro R :: F) := (Holds.erase (Holds.erase (Holds.bring H22_ 0 rfl) 1) 1)
        exact ⟨_, [], rfl, ⟨by rw [show r = 2 by omega]; rfl, rfl⟩, S26_, H40_⟩
      · have c38_fp : ¬ (r = 2) := of_decide_eq_false c38_f
        refine C_skip (X_blkN (X_then (hK27_ _ _ ?_)))
        clear hK27_
        refine C_seq (fun K41_ hK41_ => ?_)
        refine C_reg ?_
        refine S_list (T_val (v := (Value.int .i64 (ordI md n))) (x_move rfl) ?_)
        refine S_list (T_val (v := (Value.bool (decide (ordI md n ≠ 0)))) (x_bin rfl rfl rfl) ?_)
        refine S_list (T_val (v := (Value.bool (decide (ordI md n ≠ 0)))) (x_assign rfl) ?_)
        refine wpList_nil ?_
        refine (X_then (hK41_ _ _ ?_))
        clear hK41_
        refine C_ret ?_
        refine R_any (v := (Value.bool (decide (ordI md n ≠ 0)))) (run_results1 rfl rfl) ?_
        have H42_ : Holds w21_ (ro R :: F) := (Holds.erase (Holds.erase (Holds.bring H22_ 0 rfl) 1) 1)
        exact ⟨_, [], rfl, ⟨by rw [show r = 3 by omega]; rfl, rfl⟩, S26_, H42_⟩

set_option maxHeartbeats 400000 in
theorem spKV3t (R : HP) (r : Int) (key en : ByteArray) (n : Int) (val : ByteArray) (k x : ByteArray) (cr md vr ls : Int) (h0 : 0 ≤ r) (h1 : r ≤ 3) :
    Tri Try.prog 16 #[(Value.agg #[(Value.int .i64 3), (Value.int .i64 r), (Value.string key), (Value.string en), (Value.int .i64 n), (Value.string val), (Value.bool true)]), (Value.agg #[(Value.string k), (Value.string x), (Value.int .i64 cr), (Value.int .i64 md), (Value.int .i64 vr), (Value.int .i64 ls)])] R [] (fun v post => v = .bool (resOk r (Lib.compareBytes x.data.toList (ByteArray.mk #[]).data.toList)) ∧ post = []) := by
  refine Tri.into (n := 61) (al := [(Value.agg #[(Value.int .i64 3), (Value.int .i64 r), (Value.string key), (Value.string en), (Value.int .i64 n), (Value.string val), (Value.bool true)]), (Value.agg #[(Value.string k), (Value.string x), (Value.int .i64 cr), (Value.int .i64 md), (Value.int .i64 vr), (Value.int .i64 ls)])]) Try.func16 rfl Try.ntmps16 rfl rfl fun w F H => ?_
  replace H : Holds w (ro R :: F) := H
  refine C_seq (fun K1_ hK1_ => ?_)
  refine C_reg ?_
  refine S_list (T_box (v := (Value.agg #[(Value.int .i64 3), (Value.int .i64 r), (Value.string key), (Value.string en), (Value.int .i64 n), (Value.string val), (Value.bool true)])) rfl H ?_)
  intro b2_ w3_ S5_ H4_
  replace H4_ : Holds w3_ (cl b2_ 31 [(Value.int .i64 3), (Value.int .i64 r), (Value.string key), (Value.string en), (Value.int .i64 n), (Value.string val), (Value.bool true)] :: ro R :: F) := H4_
  have S6_ := Same.trans (Same.refl w) S5_
  refine S_list (T_box (v := (Value.agg #[(Value.string k), (Value.string x), (Value.int .i64 cr), (Value.int .i64 md), (Value.int .i64 vr), (Value.int .i64 ls)])) rfl H4_ ?_)
  intro b7_ w8_ S10_ H9_
  replace H9_ : Holds w8_ (cl b7_ 33 [(Value.string k), (Value.string x), (Value.int .i64 cr), (Value.int .i64 md), (Value.int .i64 vr), (Value.int .i64 ls)] :: cl b2_ 31 [(Value.int .i64 3), (Value.int .i64 r), (Value.string key), (Value.string en), (Value.int .i64 n), (Value.string val), (Value.bool true)] :: ro R :: F) := H9_
  have S11_ := Same.trans S6_ S10_
  refine S_list (T_val (v := (Value.bool false)) (x_assign rfl) ?_)
  refine wpList_nil ?_
  refine (X_then (hK1_ _ _ ?_))
  clear hK1_
  refine C_seq (fun K12_ hK12_ => ?_)
  refine C_seq (fun K13_ hK13_ => ?_)
  refine C_reg ?_
  refine S_list (T_val (v := (Value.pointer (some ⟨b2_, 6, none⟩))) (by kernel_rfl) ?_)
  refine S_list (T_val (v := (Value.bool true)) (x_load1 rfl Try.underlying4 rfl ((Holds.rd H9_ 1 rfl) 6 (Value.bool true) rfl)) ?_)
  refine wpList_nil ?_
  refine (X_then (hK13_ _ _ ?_))
  clear hK13_
  refine C_condT rfl ?_
  refine C_seq (fun K14_ hK14_ => ?_)
  refine C_reg ?_
  refine S_list (T_val (v := (Value.pointer (some ⟨b2_, 4, none⟩))) (by kernel_rfl) ?_)
  refine S_list0 (T_store1 (v := (Value.int .i64 0)) rfl rfl z2 rfl H9_ 1 rfl (Nat.le_of_ble_eq_true (by rfl)) ?_)
  intro w15_ S17_ H16_
  replace H16_ : Holds w15_ (cl b7_ 33 [(Value.string k), (Value.string x), (Value.int .i64 cr), (Value.int .i64 md), (Value.int .i64 vr), (Value.int .i64 ls)] :: cl b2_ 31 [(Value.int .i64 3), (Value.int .i64 r), (Value.string key), (Value.string en), (Value.int .i64 0), (Value.string val), (Value.bool true)] :: ro R :: F) := H16_
  have S18_ := Same.trans S11_ S17_
  refine wpList_nil ?_
  refine (X_then (hK14_ _ _ ?_))
  clear hK14_
  refine C_reg ?_
  refine S_list (T_val (v := (Value.pointer (some ⟨b2_, 5, none⟩))) (by kernel_rfl) ?_)
  refine S_list0 (T_store1 (v := (Value.string (ByteArray.mk #[]))) rfl rfl z9 rfl H16_ 1 rfl (Nat.le_of_ble_eq_true (by rfl)) ?_)
  intro w19_ S21_ H20_
  replace H20_ : Holds w19_ (cl b7_ 33 [(Value.string k), (Value.string x), (Value.int .i64 cr), (Value.int .i64 md), (Value.int .i64 vr), (Value.int .i64 ls)] :: cl b2_ 31 [(Value.int .i64 3), (Value.int .i64 r), (Value.string key), (Value.string en), (Value.int .i64 0), (Value.string (ByteArray.mk #[])), (Value.bool true)] :: ro R :: F) := H20_
  have S22_ := Same.trans S18_ S21_
  refine wpList_nil ?_
  refine (X_then (hK12_ _ _ ?_))
  clear hK12_
  refine C_seq (fun K23_ hK23_ => ?_)
  refine C_reg ?_
  refine S_list (T_val (v := (Value.int .i64 0)) (x_assign rfl) ?_)
  refine wpList_nil ?_
  refine (X_then (hK23_ _ _ ?_))
  clear hK23_
  refine C_seq (fun K24_ hK24_ => ?_)
  refine C_seq (fun K25_ hK25_ => ?_)
  refine C_reg ?_
  refine S_list (T_val (v := (Value.pointer (some ⟨b2_, 0, none⟩))) (by kernel_rfl) ?_)
  refine S_list (T_val (v := (Value.int .i64 3)) (x_load1 rfl Try.underlying3 rfl ((Holds.rd H20_ 1 rfl) 0 (Value.int .i64 3) rfl)) ?_)
  refine wpList_nil ?_
  refine (X_then (hK25_ _ _ ?_))
  clear hK25_
  refine C_block ?_
  refine C_seq (fun K26_ hK26_ => ?_)
  refine C_reg ?_
  refine S_list (T_val (v := (Value.bool false)) (x_bin rfl rfl rfl) ?_)
  refine S_list (T_val (v := (Value.bool false)) (x_assign rfl) ?_)
  refine wpList_nil ?_
  refine (X_then (hK26_ _ _ ?_))
  clear hK26_
  refine C_condF rfl ?_
  refine C_seq (fun K27_ hK27_ => ?_)
  refine C_reg ?_
  refine S_list (T_val (v := (Value.bool false)) (x_bin rfl rfl rfl) ?_)
  refine S_list (T_val (v := (Value.bool false)) (x_assign rfl) ?_)
  refine wpList_nil ?_
  refine (X_then (hK27_ _ _ ?_))
  clear hK27_
  refine C_condF rfl ?_
  refine C_seq (fun K28_ hK28_ => ?_)
  refine C_reg ?_
  refine S_list (T_val (v := (Value.bool false)) (x_bin rfl rfl rfl) ?_)
  refine S_list (T_val (v := (Value.bool false)) (x_assign rfl) ?_)
  refine wpList_nil ?_
  refine (X_then (hK28_ _ _ ?_))
  clear hK28_
  refine C_condF rfl ?_
  refine C_seq (fun K29_ hK29_ => ?_)
  refine C_reg ?_
  refine S_list (T_val (v := (Value.bool false)) (x_bin rfl rfl rfl) ?_)
  refine S_list (T_val (v := (Value.bool false)) (x_assign rfl) ?_)
  refine wpList_nil ?_
  refine (X_then (hK29_ _ _ ?_))
  clear hK29_
  refine C_condF rfl ?_
  refine C_reg ?_
  refine S_list (T_val (v := (Value.pointer (some ⟨b7_, 1, none⟩))) (by kernel_rfl) ?_)
  refine S_list (T_val (v := (Value.string x)) (x_load1 rfl Try.underlying9 rfl ((Holds.rd H20_ 0 rfl) 1 (Value.string x) rfl)) ?_)
  refine S_list (T_val (v := (Value.pointer (some ⟨b2_, 5, none⟩))) (by kernel_rfl) ?_)
  refine S_list (T_val (v := (Value.string (ByteArray.mk #[]))) (x_load1 rfl Try.underlying9 rfl ((Holds.rd H20_ 1 rfl) 5 (Value.string (ByteArray.mk #[])) rfl)) ?_)
  have H30_ : Holds w19_ (ro R :: cl b7_ 33 [(Value.string k), (Value.string x), (Value.int .i64 cr), (Value.int .i64 md), (Value.int .i64 vr), (Value.int .i64 ls)] :: cl b2_ 31 [(Value.int .i64 3), (Value.int .i64 r), (Value.string key), (Value.string en), (Value.int .i64 0), (Value.string (ByteArray.mk #[])), (Value.bool true)] :: F) := (Holds.bring H20_ 2 rfl)
  refine S_list (T_call (al := [(Value.string x), (Value.string (ByteArray.mk #[]))]) (pre := []) (F := cl b7_ 33 [(Value.string k), (Value.string x), (Value.int .i64 cr), (Value.int .i64 md), (Value.int .i64 vr), (Value.int .i64 ls)] :: cl b2_ 31 [(Value.int .i64 3), (Value.int .i64 r), (Value.string key), (Value.string en), (Value.int .i64 0), (Value.string (ByteArray.mk #[])), (Value.bool true)] :: F) rfl rfl cb39 (txtOrd R x (ByteArray.mk #[])) H30_ ?_)
  rintro v34_ p35_ w31_ ⟨rfl, rfl⟩ S33_ H32_
  replace H32_ : Holds w31_ (ro R :: cl b7_ 33 [(Value.string k), (Value.string x), (Value.int .i64 cr), (Value.int .i64 md), (Value.int .i64 vr), (Value.int .i64 ls)] :: cl b2_ 31 [(Value.int .i64 3), (Value.int .i64 r), (Value.string key), (Value.string en), (Value.int .i64 0), (Value.string (ByteArray.mk #[])), (Value.bool true)] :: F) := H32_
  have S36_ := Same.trans S22_ S33_
  refine S_list (T_val (v := (Value.int .i64 (Lib.compareBytes x.data.toList (ByteArray.mk #[]).data.toList))) (x_assign rfl) ?_)
  refine wpList_nil ?_
  refine (X_blkN (X_then (hK24_ _ _ ?_)))
  clear hK24_
  refine C_seq (fun K37_ hK37_ => ?_)
  refine C_seq (fun K38_ hK38_ => ?_)
  refine C_reg ?_
  refine S_list (T_val (v := (Value.pointer (some ⟨b2_, 1, none⟩))) (by kernel_rfl) ?_)
  refine S_list (T_val (v := (Value.int .i64 r)) (x_load1 rfl Try.underlying3 rfl ((Holds.rd H32_ 2 rfl) 1 (Value.int .i64 r) rfl)) ?_)
  refine wpList_nil ?_
  refine (X_then (hK38_ _ _ ?_))
  clear hK38_
  refine C_block ?_
  refine C_seq (fun K39_ hK39_ => ?_)
  refine C_reg ?_
  refine S_list (T_val (v := (Value.bool (decide (r = 0)))) (x_bin rfl rfl rfl) ?_)
  refine S_list (T_val (v := (Value.bool (decide (r = 0)))) (x_assign rfl) ?_)
  refine wpList_nil ?_
  refine (X_then (hK39_ _ _ ?_))
  clear hK39_
  refine C_cond (b := decide (r = 0)) rfl (fun c40_t => ?_) (fun c40_f => ?_)
  · have c40_tp : r = 0 := of_decide_eq_true c40_t
    refine C_seq (fun K41_ hK41_ => ?_)
    refine C_reg ?_
    refine S_list (T_val (v := (Value.int .i64 (Lib.compareBytes x.data.toList (ByteArray.mk #[]).data.toList))) (x_move rfl) ?_)
    refine S_list (T_val (v := (Value.bool (decide (Lib.compareBytes x.data.toList (ByteArray.mk #[]).data.toList = 0)))) (x_bin rfl rfl rfl) ?_)
    refine S_list (T_val (v := (Value.bool (decide (Lib.compareBytes x.data.toList (ByteArray.mk #[]).data.toList = 0)))) (x_assign rfl) ?_)
    refine wpList_nil ?_
    refine (X_then (hK41_ _ _ ?_))
    clear hK41_
    refine C_ret (X_blkR (X_thenR ?_))
    refine R_any (v := (Value.bool (decide (Lib.compareBytes x.data.toList (ByteArray.mk #[]).data.toList = 0)))) (run_results1 rfl rfl) ?_
    have H42_ : Holds w31_ (ro R :: F) := (Holds.erase (Holds.erase (Holds.bring H32_ 0 rfl) 1) 1)
    exact ⟨_, [], rfl, ⟨by rw [show r = 0 by omega]; rfl, rfl⟩, S36_, H42_⟩
  · have c40_fp : ¬ (r = 0) := of_decide_eq_false c40_f
    refine C_seq (fun K43_ hK43_ => ?_)
    refine C_reg ?_
    refine S_list (T_val (v := (Value.bool (decide (r = 1)))) (x_bin rfl rfl rfl) ?_)
    refine S_list (T_val (v := (Value.bool (decide (r = 1)))) (x_assign rfl) ?_)
    refine wpList_nil ?_
    refine (X_then (hK43_ _ _ ?_))
    clear hK43_
    refine C_cond (b := decide (r = 1)) rfl (fun c44_t => ?_) (fun c44_f => ?_)
    · have c44_tp : r = 1 := of_decide_eq_true c44_t
      refine C_seq (fun K45_ hK45_ => ?_)
      refine C_reg ?_
      refine S_list (T_val (v := (Value.int .i64 (Lib.compareBytes x.data.toList (ByteArray.mk #[]).data.toList))) (x_move rfl) ?_)
      refine S_list (T_val (v := (Value.bool (decide (0 < Lib.compareBytes x.data.toList (ByteArray.mk #[]).data.toList)))) (x_bin rfl rfl rfl) ?_)
      refine S_list (T_val (v := (Value.bool (decide (0 < Lib.compareBytes x.data.toList (ByteArray.mk #[]).data.toList)))) (x_assign rfl) ?_)
      refine wpList_nil ?_
      refine (X_then (hK45_ _ _ ?_))
      clear hK45_
      refine C_ret (X_blkR (X_thenR ?_))
      refine R_any (v := (Value.bool (decide (0 < Lib.compareBytes x.data.toList (ByteArray.mk #[]).data.toList)))) (run_results1 rfl rfl) ?_
      have H46_ : Holds w31_ (ro R :: F) := (Holds.erase (Holds.erase (Holds.bring H32_ 0 rfl) 1) 1)
      exact ⟨_, [], rfl, ⟨by rw [show r = 1 by omega]; rfl, rfl⟩, S36_, H46_⟩
    · have c44_fp : ¬ (r = 1) := of_decide_eq_false c44_f
      refine C_seq (fun K47_ hK47_ => ?_)
      refine C_reg ?_
      refine S_list (T_val (v := (Value.bool (decide (r = 2)))) (x_bin rfl rfl rfl) ?_)
      refine S_list (T_val (v := (Value.bool (decide (r = 2)))) (x_assign rfl) ?_)
      refine wpList_nil ?_
      refine (X_then (hK47_ _ _ ?_))
      clear hK47_
      refine C_cond (b := decide (r = 2)) rfl (fun c48_t => ?_) (fun c48_f => ?_)
      · have c48_tp : r = 2 := of_decide_eq_true c48_t
        refine C_seq (fun K49_ hK49_ => ?_)
        refine C_reg ?_
        refine S_list (T_val (v := (Value.int .i64 (Lib.compareBytes x.data.toList (ByteArray.mk #[]).data.toList))) (x_move rfl) ?_)
        refine S_list (T_val (v := (Value.bool (decide (Lib.compareBytes x.data.toList (ByteArray.mk #[]).data.toList < 0)))) (x_bin rfl rfl rfl) ?_)
        refine S_list (T_val (v := (Value.bool (decide (Lib.compareBytes x.data.toList (ByteArray.mk #[]).data.toList < 0)))) (x_assign rfl) ?_)
        refine wpList_nil ?_
        refine (X_then (hK49_ _ _ ?_))
        clear hK49_
        refine C_ret (X_blkR (X_thenR ?_))
        refine R_any (v := (Value.bool (decide (Lib.compareBytes x.data.toList (ByteArray.mk #[]).data.toList < 0)))) (run_results1 rfl rfl) ?_
        have H50_ : Holds w31_ (ro R :: F) := (Holds.erase (Holds.erase (Holds.bring H32_ 0 rfl) 1) 1)
        exact ⟨_, [], rfl, ⟨by rw [show r = 2 by omega]; rfl, rfl⟩, S36_, H50_⟩
      · have c48_fp : ¬ (r = 2) := of_decide_eq_false c48_f
        refine C_skip (X_blkN (X_then (hK37_ _ _ ?_)))
        clear hK37_
        refine C_seq (fun K51_ hK51_ => ?_)
        refine C_reg ?_
        refine S_list (T_val (v := (Value.int .i64 (Lib.compareBytes x.data.toList (ByteArray.mk #[]).data.toList))) (x_move rfl) ?_)
        refine S_list (T_val (v := (Value.bool (decide (Lib.compareBytes x.data.toList (ByteArray.mk #[]).data.toList ≠ 0)))) (x_bin rfl rfl rfl) ?_)
        refine S_list (T_val (v := (Value.bool (decide (Lib.compareBytes x.data.toList (ByteArray.mk #[]).data.toList ≠ 0)))) (x_assign rfl) ?_)
        refine wpList_nil ?_
        refine (X_then (hK51_ _ _ ?_))
        clear hK51_
        refine C_ret ?_
        refine R_any (v := (Value.bool (decide (Lib.compareBytes x.data.toList (ByteArray.mk #[]).data.toList ≠ 0)))) (run_results1 rfl rfl) ?_
        have H52_ : Holds w31_ (ro R :: F) := (Holds.erase (Holds.erase (Holds.bring H32_ 0 rfl) 1) 1)
        exact ⟨_, [], rfl, ⟨by rw [show r = 3 by omega]; rfl, rfl⟩, S36_, H52_⟩

set_option maxHeartbeats 400000 in
theorem spKV3f (R : HP) (r : Int) (key en : ByteArray) (n : Int) (val : ByteArray) (k x : ByteArray) (cr md vr ls : Int) (h0 : 0 ≤ r) (h1 : r ≤ 3) :
    Tri Try.prog 16 #[(Value.agg #[(Value.int .i64 3), (Value.int .i64 r), (Value.string key), (Value.string en), (Value.int .i64 n), (Value.string val), (Value.bool false)]), (Value.agg #[(Value.string k), (Value.string x), (Value.int .i64 cr), (Value.int .i64 md), (Value.int .i64 vr), (Value.int .i64 ls)])] R [] (fun v post => v = .bool (resOk r (Lib.compareBytes x.data.toList val.data.toList)) ∧ post = []) := by
  refine Tri.into (n := 61) (al := [(Value.agg #[(Value.int .i64 3), (Value.int .i64 r), (Value.string key), (Value.string en), (Value.int .i64 n), (Value.string val), (Value.bool false)]), (Value.agg #[(Value.string k), (Value.string x), (Value.int .i64 cr), (Value.int .i64 md), (Value.int .i64 vr), (Value.int .i64 ls)])]) Try.func16 rfl Try.ntmps16 rfl rfl fun w F H => ?_
  replace H : Holds w (ro R :: F) := H
  refine C_seq (fun K1_ hK1_ => ?_)
  refine C_reg ?_
  refine S_list (T_box (v := (Value.agg #[(Value.int .i64 3), (Value.int .i64 r), (Value.string key), (Value.string en), (Value.int .i64 n), (Value.string val), (Value.bool false)])) rfl H ?_)
  intro b2_ w3_ S5_ H4_
  replace H4_ : Holds w3_ (cl b2_ 31 [(Value.int .i64 3), (Value.int .i64 r), (Value.string key), (Value.string en), (Value.int .i64 n), (Value.string val), (Value.bool false)] :: ro R :: F) := H4_
  have S6_ := Same.trans (Same.refl w) S5_
  refine S_list (T_box (v := (Value.agg #[(Value.string k), (Value.string x), (Value.int .i64 cr), (Value.int .i64 md), (Value.int .i64 vr), (Value.int .i64 ls)])) rfl H4_ ?_)
  intro b7_ w8_ S10_ H9_
  replace H9_ : Holds w8_ (cl b7_ 33 [(Value.string k), (Value.string x), (Value.int .i64 cr), (Value.int .i64 md), (Value.int .i64 vr), (Value.int .i64 ls)] :: cl b2_ 31 [(Value.int .i64 3), (Value.int .i64 r), (Value.string key), (Value.string en), (Value.int .i64 n), (Value.string val), (Value.bool false)] :: ro R :: F) := H9_
  have S11_ := Same.trans S6_ S10_
  refine S_list (T_val (v := (Value.bool false)) (x_assign rfl) ?_)
  refine wpList_nil ?_
  refine (X_then (hK1_ _ _ ?_))
  clear hK1_
  refine C_seq (fun K12_ hK12_ => ?_)
  refine C_seq (fun K13_ hK13_ => ?_)
  refine C_reg ?_
  refine S_list (T_val (v := (Value.pointer (some ⟨b2_, 6, none⟩))) (by kernel_rfl) ?_)
  refine S_list (T_val (v := (Value.bool false)) (x_load1 rfl Try.underlying4 rfl ((Holds.rd H9_ 1 rfl) 6 (Value.bool false) rfl)) ?_)
  refine wpList_nil ?_
  refine (X_then (hK13_ _ _ ?_))
  clear hK13_
  refine C_condF rfl ?_
  refine C_skip (X_then (hK12_ _ _ ?_))
  clear hK12_
  refine C_seq (fun K14_ hK14_ => ?_)
  refine C_reg ?_
  refine S_list (T_val (v := (Value.int .i64 0)) (x_assign rfl) ?_)
  refine wpList_nil ?_
  refine (X_then (hK14_ _ _ ?_))
  clear hK14_
  refine C_seq (fun K15_ hK15_ => ?_)
  refine C_seq (fun K16_ hK16_ => ?_)
  refine C_reg ?_
  refine S_list (T_val (v := (Value.pointer (some ⟨b2_, 0, none⟩))) (by kernel_rfl) ?_)
  refine S_list (T_val (v := (Value.int .i64 3)) (x_load1 rfl Try.underlying3 rfl ((Holds.rd H9_ 1 rfl) 0 (Value.int .i64 3) rfl)) ?_)
  refine wpList_nil ?_
  refine (X_then (hK16_ _ _ ?_))
  clear hK16_
  refine C_block ?_
  refine C_seq (fun K17_ hK17_ => ?_)
  refine C_reg ?_
  refine S_list (T_val (v := (Value.bool false)) (x_bin rfl rfl rfl) ?_)
  refine S_list (T_val (v := (Value.bool false)) (x_assign rfl) ?_)
  refine wpList_nil ?_
  refine (X_then (hK17_ _ _ ?_))
  clear hK17_
  refine C_condF rfl ?_
  refine C_seq (fun K18_ hK18_ => ?_)
  refine C_reg ?_
  refine S_list (T_val (v := (Value.bool false)) (x_bin rfl rfl rfl) ?_)
  refine S_list (T_val (v := (Value.bool false)) (x_assign rfl) ?_)
  refine wpList_nil ?_
  refine (X_then (hK18_ _ _ ?_))
  clear hK18_
  refine C_condF rfl ?_
  refine C_seq (fun K19_ hK19_ => ?_)
  refine C_reg ?_
  refine S_list (T_val (v := (Value.bool false)) (x_bin rfl rfl rfl) ?_)
  refine S_list (T_val (v := (Value.bool false)) (x_assign rfl) ?_)
  refine wpList_nil ?_
  refine (X_then (hK19_ _ _ ?_))
  clear hK19_
  refine C_condF rfl ?_
  refine C_seq (fun K20_ hK20_ => ?_)
  refine C_reg ?_
  refine S_list (T_val (v := (Value.bool false)) (x_bin rfl rfl rfl) ?_)
  refine S_list (T_val (v := (Value.bool false)) (x_assign rfl) ?_)
  refine wpList_nil ?_
  refine (X_then (hK20_ _ _ ?_))
  clear hK20_
  refine C_condF rfl ?_
  refine C_reg ?_
  refine S_list (T_val (v := (Value.pointer (some ⟨b7_, 1, none⟩))) (by kernel_rfl) ?_)
  refine S_list (T_val (v := (Value.string x)) (x_load1 rfl Try.underlying9 rfl ((Holds.rd H9_ 0 rfl) 1 (Value.string x) rfl)) ?_)
  refine S_list (T_val (v := (Value.pointer (some ⟨b2_, 5, none⟩))) (by kernel_rfl) ?_)
  refine S_list (T_val (v := (Value.string val)) (x_load1 rfl Try.underlying9 rfl ((Holds.rd H9_ 1 rfl) 5 (Value.string val) rfl)) ?_)
  have H21_ : Holds w8_ (ro R :: cl b7_ 33 [(Value.string k), (Value.string x), (Value.int .i64 cr), (Value.int .i64 md), (Value.int .i64 vr), (Value.int .i64 ls)] :: cl b2_ 31 [(Value.int .i64 3), (Value.int .i64 r), (Value.string key), (Value.string en), (Value.int .i64 n), (Value.string val), (Value.bool false)] :: F) := (Holds.bring H9_ 2 rfl)
  refine S_list (T_call (al := [(Value.string x), (Value.string val)]) (pre := []) (F := cl b7_ 33 [(Value.string k), (Value.string x), (Value.int .i64 cr), (Value.int .i64 md), (Value.int .i64 vr), (Value.int .i64 ls)] :: cl b2_ 31 [(Value.int .i64 3), (Value.int .i64 r), (Value.string key), (Value.string en), (Value.int .i64 n), (Value.string val), (Value.bool false)] :: F) rfl rfl cb39 (txtOrd R x val) H21_ ?_)
  rintro v25_ p26_ w22_ ⟨rfl, rfl⟩ S24_ H23_
  replace H23_ : Holds w22_ (ro R :: cl b7_ 33 [(Value.string k), (Value.string x), (Value.int .i64 cr), (Value.int .i64 md), (Value.int .i64 vr), (Value.int .i64 ls)] :: cl b2_ 31 [(Value.int .i64 3), (Value.int .i64 r), (Value.string key), (Value.string en), (Value.int .i64 n), (Value.string val), (Value.bool false)] :: F) := H23_
  have S27_ := Same.trans S11_ S24_
  refine S_list (T_val (v := (Value.int .i64 (Lib.compareBytes x.data.toList val.data.toList))) (x_assign rfl) ?_)
  refine wpList_nil ?_
  refine (X_blkN (X_then (hK15_ _ _ ?_)))
  clear hK15_
  refine C_seq (fun K28_ hK28_ => ?_)
  refine C_seq (fun K29_ hK29_ => ?_)
  refine C_reg ?_
  refine S_list (T_val (v := (Value.pointer (some ⟨b2_, 1, none⟩))) (by kernel_rfl) ?_)
  refine S_list (T_val (v := (Value.int .i64 r)) (x_load1 rfl Try.underlying3 rfl ((Holds.rd H23_ 2 rfl) 1 (Value.int .i64 r) rfl)) ?_)
  refine wpList_nil ?_
  refine (X_then (hK29_ _ _ ?_))
  clear hK29_
  refine C_block ?_
  refine C_seq (fun K30_ hK30_ => ?_)
  refine C_reg ?_
  refine S_list (T_val (v := (Value.bool (decide (r = 0)))) (x_bin rfl rfl rfl) ?_)
  refine S_list (T_val (v := (Value.bool (decide (r = 0)))) (x_assign rfl) ?_)
  refine wpList_nil ?_
  refine (X_then (hK30_ _ _ ?_))
  clear hK30_
  refine C_cond (b := decide (r = 0)) rfl (fun c31_t => ?_) (fun c31_f => ?_)
  · have c31_tp : r = 0 := of_decide_eq_true c31_t
    refine C_seq (fun K32_ hK32_ => ?_)
    refine C_reg ?_
    refine S_list (T_val (v := (Value.int .i64 (Lib.compareBytes x.data.toList val.data.toList))) (x_move rfl) ?_)
    refine S_list (T_val (v := (Value.bool (decide (Lib.compareBytes x.data.toList val.data.toList = 0)))) (x_bin rfl rfl rfl) ?_)
    refine S_list (T_val (v := (Value.bool (decide (Lib.compareBytes x.data.toList val.data.toList = 0)))) (x_assign rfl) ?_)
    refine wpList_nil ?_
    refine (X_then (hK32_ _ _ ?_))
    clear hK32_
    refine C_ret (X_blkR (X_thenR ?_))
    refine R_any (v := (Value.bool (decide (Lib.compareBytes x.data.toList val.data.toList = 0)))) (run_results1 rfl rfl) ?_
    have H33_ : Holds w22_ (ro R :: F) := (Holds.erase (Holds.erase (Holds.bring H23_ 0 rfl) 1) 1)
    exact ⟨_, [], rfl, ⟨by rw [show r = 0 by omega]; rfl, rfl⟩, S27_, H33_⟩
  · have c31_fp : ¬ (r = 0) := of_decide_eq_false c31_f
    refine C_seq (fun K34_ hK34_ => ?_)
    refine C_reg ?_
    refine S_list (T_val (v := (Value.bool (decide (r = 1)))) (x_bin rfl rfl rfl) ?_)
    refine S_list (T_val (v := (Value.bool (decide (r = 1)))) (x_assign rfl) ?_)
    refine wpList_nil ?_
    refine (X_then (hK34_ _ _ ?_))
    clear hK34_
    refine C_cond (b := decide (r = 1)) rfl (fun c35_t => ?_) (fun c35_f => ?_)
    · have c35_tp : r = 1 := of_decide_eq_true c35_t
      refine C_seq (fun K36_ hK36_ => ?_)
      refine C_reg ?_
      refine S_list (T_val (v := (Value.int .i64 (Lib.compareBytes x.data.toList val.data.toList))) (x_move rfl) ?_)
      refine S_list (T_val (v := (Value.bool (decide (0 < Lib.compareBytes x.data.toList val.data.toList)))) (x_bin rfl rfl rfl) ?_)
      refine S_list (T_val (v := (Value.bool (decide (0 < Lib.compareBytes x.data.toList val.data.toList)))) (x_assign rfl) ?_)
      refine wpList_nil ?_
      refine (X_then (hK36_ _ _ ?_))
      clear hK36_
      refine C_ret (X_blkR (X_thenR ?_))
      refine R_any (v := (Value.bool (decide (0 < Lib.compareBytes x.data.toList val.data.toList)))) (run_results1 rfl rfl) ?_
      have H37_ : Holds w22_ (ro R :: F) := (Holds.erase (Holds.erase (Holds.bring H23_ 0 rfl) 1) 1)
      exact ⟨_, [], rfl, ⟨by rw [show r = 1 by omega]; rfl, rfl⟩, S27_, H37_⟩
    · have c35_fp : ¬ (r = 1) := of_decide_eq_false c35_f
      refine C_seq (fun K38_ hK38_ => ?_)
      refine C_reg ?_
      refine S_list (T_val (v := (Value.bool (decide (r = 2)))) (x_bin rfl rfl rfl) ?_)
      refine S_list (T_val (v := (Value.bool (decide (r = 2)))) (x_assign rfl) ?_)
      refine wpList_nil ?_
      refine (X_then (hK38_ _ _ ?_))
      clear hK38_
      refine C_cond (b := decide (r = 2)) rfl (fun c39_t => ?_) (fun c39_f => ?_)
      · have c39_tp : r = 2 := of_decide_eq_true c39_t
        refine C_seq (fun K40_ hK40_ => ?_)
        refine C_reg ?_
        refine S_list (T_val (v := (Value.int .i64 (Lib.compareBytes x.data.toList val.data.toList))) (x_move rfl) ?_)
        refine S_list (T_val (v := (Value.bool (decide (Lib.compareBytes x.data.toList val.data.toList < 0)))) (x_bin rfl rfl rfl) ?_)
        refine S_list (T_val (v := (Value.bool (decide (Lib.compareBytes x.data.toList val.data.toList < 0)))) (x_assign rfl) ?_)
        refine wpList_nil ?_
        refine (X_then (hK40_ _ _ ?_))
        clear hK40_
        refine C_ret (X_blkR (X_thenR ?_))
        refine R_any (v := (Value.bool (decide (Lib.compareBytes x.data.toList val.data.toList < 0)))) (run_results1 rfl rfl) ?_
        have H41_ : Holds w22_ (ro R :: F) := (Holds.erase (Holds.erase (Holds.bring H23_ 0 rfl) 1) 1)
        exact ⟨_, [], rfl, ⟨by rw [show r = 2 by omega]; rfl, rfl⟩, S27_, H41_⟩
      · have c39_fp : ¬ (r = 2) := of_decide_eq_false c39_f
        refine C_skip (X_blkN (X_then (hK28_ _ _ ?_)))
        clear hK28_
        refine C_seq (fun K42_ hK42_ => ?_)
        refine C_reg ?_
        refine S_list (T_val (v := (Value.int .i64 (Lib.compareBytes x.data.toList val.data.toList))) (x_move rfl) ?_)
        refine S_list (T_val (v := (Value.bool (decide (Lib.compareBytes x.data.toList val.data.toList ≠ 0)))) (x_bin rfl rfl rfl) ?_)
        refine S_list (T_val (v := (Value.bool (decide (Lib.compareBytes x.data.toList val.data.toList ≠ 0)))) (x_assign rfl) ?_)
        refine wpList_nil ?_
        refine (X_then (hK42_ _ _ ?_))
        clear hK42_
        refine C_ret ?_
        refine R_any (v := (Value.bool (decide (Lib.compareBytes x.data.toList val.data.toList ≠ 0)))) (run_results1 rfl rfl) ?_
        have H43_ : Holds w22_ (ro R :: F) := (Holds.erase (Holds.erase (Holds.bring H23_ 0 rfl) 1) 1)
        exact ⟨_, [], rfl, ⟨by rw [show r = 3 by omega]; rfl, rfl⟩, S27_, H43_⟩

set_option maxHeartbeats 400000 in
theorem spKV4t (R : HP) (r : Int) (key en : ByteArray) (n : Int) (val : ByteArray) (k x : ByteArray) (cr md vr ls : Int) (h0 : 0 ≤ r) (h1 : r ≤ 3) :
    Tri Try.prog 16 #[(Value.agg #[(Value.int .i64 4), (Value.int .i64 r), (Value.string key), (Value.string en), (Value.int .i64 n), (Value.string val), (Value.bool true)]), (Value.agg #[(Value.string k), (Value.string x), (Value.int .i64 cr), (Value.int .i64 md), (Value.int .i64 vr), (Value.int .i64 ls)])] R [] (fun v post => v = .bool (resOk r (ordI ls 0)) ∧ post = []) := by
  refine Tri.into (n := 61) (al := [(Value.agg #[(Value.int .i64 4), (Value.int .i64 r), (Value.string key), (Value.string en), (Value.int .i64 n), (Value.string val), (Value.bool true)]), (Value.agg #[(Value.string k), (Value.string x), (Value.int .i64 cr), (Value.int .i64 md), (Value.int .i64 vr), (Value.int .i64 ls)])]) Try.func16 rfl Try.ntmps16 rfl rfl fun w F H => ?_
  replace H : Holds w (ro R :: F) := H
  refine C_seq (fun K1_ hK1_ => ?_)
  refine C_reg ?_
  refine S_list (T_box (v := (Value.agg #[(Value.int .i64 4), (Value.int .i64 r), (Value.string key), (Value.string en), (Value.int .i64 n), (Value.string val), (Value.bool true)])) rfl H ?_)
  intro b2_ w3_ S5_ H4_
  replace H4_ : Holds w3_ (cl b2_ 31 [(Value.int .i64 4), (Value.int .i64 r), (Value.string key), (Value.string en), (Value.int .i64 n), (Value.string val), (Value.bool true)] :: ro R :: F) := H4_
  have S6_ := Same.trans (Same.refl w) S5_
  refine S_list (T_box (v := (Value.agg #[(Value.string k), (Value.string x), (Value.int .i64 cr), (Value.int .i64 md), (Value.int .i64 vr), (Value.int .i64 ls)])) rfl H4_ ?_)
  intro b7_ w8_ S10_ H9_
  replace H9_ : Holds w8_ (cl b7_ 33 [(Value.string k), (Value.string x), (Value.int .i64 cr), (Value.int .i64 md), (Value.int .i64 vr), (Value.int .i64 ls)] :: cl b2_ 31 [(Value.int .i64 4), (Value.int .i64 r), (Value.string key), (Value.string en), (Value.int .i64 n), (Value.string val), (Value.bool true)] :: ro R :: F) := H9_
  have S11_ := Same.trans S6_ S10_
  refine S_list (T_val (v := (Value.bool false)) (x_assign rfl) ?_)
  refine wpList_nil ?_
  refine (X_then (hK1_ _ _ ?_))
  clear hK1_
  refine C_seq (fun K12_ hK12_ => ?_)
  refine C_seq (fun K13_ hK13_ => ?_)
  refine C_reg ?_
  refine S_list (T_val (v := (Value.pointer (some ⟨b2_, 6, none⟩))) (by kernel_rfl) ?_)
  refine S_list (T_val (v := (Value.bool true)) (x_load1 rfl Try.underlying4 rfl ((Holds.rd H9_ 1 rfl) 6 (Value.bool true) rfl)) ?_)
  refine wpList_nil ?_
  refine (X_then (hK13_ _ _ ?_))
  clear hK13_
  refine C_condT rfl ?_
  refine C_seq (fun K14_ hK14_ => ?_)
  refine C_reg ?_
  refine S_list (T_val (v := (Value.pointer (some ⟨b2_, 4, none⟩))) (by kernel_rfl) ?_)
  refine S_list0 (T_store1 (v := (Value.int .i64 0)) rfl rfl z2 rfl H9_ 1 rfl (Nat.le_of_ble_eq_true (by rfl)) ?_)
  intro w15_ S17_ H16_
  replace H16_ : Holds w15_ (cl b7_ 33 [(Value.string k), (Value.string x), (Value.int .i64 cr), (Value.int .i64 md), (Value.int .i64 vr), (Value.int .i64 ls)] :: cl b2_ 31 [(Value.int .i64 4), (Value.int .i64 r), (Value.string key), (Value.string en), (Value.int .i64 0), (Value.string val), (Value.bool true)] :: ro R :: F) := H16_
  have S18_ := Same.trans S11_ S17_
  refine wpList_nil ?_
  refine (X_then (hK14_ _ _ ?_))
  clear hK14_
  refine C_reg ?_
  refine S_list (T_val (v := (Value.pointer (some ⟨b2_, 5, none⟩))) (by kernel_rfl) ?_)
  refine S_list0 (T_store1 (v := (Value.string (ByteArray.mk #[]))) rfl rfl z9 rfl H16_ 1 rfl (Nat.le_of_ble_eq_true (by rfl)) ?_)
  intro w19_ S21_ H20_
  replace H20_ : Holds w19_ (cl b7_ 33 [(Value.string k), (Value.string x), (Value.int .i64 cr), (Value.int .i64 md), (Value.int .i64 vr), (Value.int .i64 ls)] :: cl b2_ 31 [(Value.int .i64 4), (Value.int .i64 r), (Value.string key), (Value.string en), (Value.int .i64 0), (Value.string (ByteArray.mk #[])), (Value.bool true)] :: ro R :: F) := H20_
  have S22_ := Same.trans S18_ S21_
  refine wpList_nil ?_
  refine (X_then (hK12_ _ _ ?_))
  clear hK12_
  refine C_seq (fun K23_ hK23_ => ?_)
  refine C_reg ?_
  refine S_list (T_val (v := (Value.int .i64 0)) (x_assign rfl) ?_)
  refine wpList_nil ?_
  refine (X_then (hK23_ _ _ ?_))
  clear hK23_
  refine C_seq (fun K24_ hK24_ => ?_)
  refine C_seq (fun K25_ hK25_ => ?_)
  refine C_reg ?_
  refine S_list (T_val (v := (Value.pointer (some ⟨b2_, 0, none⟩))) (by kernel_rfl) ?_)
  refine S_list (T_val (v := (Value.int .i64 4)) (x_load1 rfl Try.underlying3 rfl ((Holds.rd H20_ 1 rfl) 0 (Value.int .i64 4) rfl)) ?_)
  refine wpList_nil ?_
  refine (X_then (hK25_ _ _ ?_))
  clear hK25_
  refine C_block ?_
  refine C_seq (fun K26_ hK26_ => ?_)
  refine C_reg ?_
  refine S_list (T_val (v := (Value.bool false)) (x_bin rfl rfl rfl) ?_)
  refine S_list (T_val (v := (Value.bool false)) (x_assign rfl) ?_)
  refine wpList_nil ?_
  refine (X_then (hK26_ _ _ ?_))
  clear hK26_
  refine C_condF rfl ?_
  refine C_seq (fun K27_ hK27_ => ?_)
  refine C_reg ?_
  refine S_list (T_val (v := (Value.bool false)) (x_bin rfl rfl rfl) ?_)
  refine S_list (T_val (v := (Value.bool false)) (x_assign rfl) ?_)
  refine wpList_nil ?_
  refine (X_then (hK27_ _ _ ?_))
  clear hK27_
  refine C_condF rfl ?_
  refine C_seq (fun K28_ hK28_ => ?_)
  refine C_reg ?_
  refine S_list (T_val (v := (Value.bool false)) (x_bin rfl rfl rfl) ?_)
  refine S_list (T_val (v := (Value.bool false)) (x_assign rfl) ?_)
  refine wpList_nil ?_
  refine (X_then (hK28_ _ _ ?_))
  clear hK28_
  refine C_condF rfl ?_
  refine C_seq (fun K29_ hK29_ => ?_)
  refine C_reg ?_
  refine S_list (T_val (v := (Value.bool true)) (x_bin rfl rfl rfl) ?_)
  refine S_list (T_val (v := (Value.bool true)) (x_assign rfl) ?_)
  refine wpList_nil ?_
  refine (X_then (hK29_ _ _ ?_))
  clear hK29_
  refine C_condT rfl ?_
  refine C_reg ?_
  refine S_list (T_val (v := (Value.pointer (some ⟨b7_, 5, none⟩))) (by kernel_rfl) ?_)
  refine S_list (T_val (v := (Value.int .i64 ls)) (x_load1 rfl Try.underlying2 rfl ((Holds.rd H20_ 0 rfl) 5 (Value.int .i64 ls) rfl)) ?_)
  refine S_list (T_val (v := (Value.pointer (some ⟨b2_, 4, none⟩))) (by kernel_rfl) ?_)
  refine S_list (T_val (v := (Value.int .i64 0)) (x_load1 rfl Try.underlying2 rfl ((Holds.rd H20_ 1 rfl) 4 (Value.int .i64 0) rfl)) ?_)
  have H30_ : Holds w19_ (ro R :: cl b7_ 33 [(Value.string k), (Value.string x), (Value.int .i64 cr), (Value.int .i64 md), (Value.int .i64 vr), (Value.int .i64 ls)] :: cl b2_ 31 [(Value.int .i64 4), (Value.int .i64 r), (Value.string key), (Value.string en), (Value.int .i64 0), (Value.string (ByteArray.mk #[])), (Value.bool true)] :: F) := (Holds.bring H20_ 2 rfl)
  refine S_list (T_call (al := [(Value.int .i64 ls), (Value.int .i64 0)]) (pre := []) (F := cl b7_ 33 [(Value.string k), (Value.string x), (Value.int .i64 cr), (Value.int .i64 md), (Value.int .i64 vr), (Value.int .i64 ls)] :: cl b2_ 31 [(Value.int .i64 4), (Value.int .i64 r), (Value.string key), (Value.string en), (Value.int .i64 0), (Value.string (ByteArray.mk #[])), (Value.bool true)] :: F) rfl rfl cb38 (numOrd R ls 0) H30_ ?_)
  rintro v34_ p35_ w31_ ⟨rfl, rfl⟩ S33_ H32_
  replace H32_ : Holds w31_ (ro R :: cl b7_ 33 [(Value.string k), (Value.string x), (Value.int .i64 cr), (Value.int .i64 md), (Value.int .i64 vr), (Value.int .i64 ls)] :: cl b2_ 31 [(Value.int .i64 4), (Value.int .i64 r), (Value.string key), (Value.string en), (Value.int .i64 0), (Value.string (ByteArray.mk #[])), (Value.bool true)] :: F) := H32_
  have S36_ := Same.trans S22_ S33_
  refine S_list (T_val (v := (Value.int .i64 (ordI ls 0))) (x_assign rfl) ?_)
  refine wpList_nil ?_
  refine (X_blkN (X_then (hK24_ _ _ ?_)))
  clear hK24_
  refine C_seq (fun K37_ hK37_ => ?_)
  refine C_seq (fun K38_ hK38_ => ?_)
  refine C_reg ?_
  refine S_list (T_val (v := (Value.pointer (some ⟨b2_, 1, none⟩))) (by kernel_rfl) ?_)
  refine S_list (T_val (v := (Value.int .i64 r)) (x_load1 rfl Try.underlying3 rfl ((Holds.rd H32_ 2 rfl) 1 (Value.int .i64 r) rfl)) ?_)
  refine wpList_nil ?_
  refine (X_then (hK38_ _ _ ?_))
  clear hK38_
  refine C_block ?_
  refine C_seq (fun K39_ hK39_ => ?_)
  refine C_reg ?_
  refine S_list (T_val (v := (Value.bool (decide (r = 0)))) (x_bin rfl rfl rfl) ?_)
  refine S_list (T_val (v := (Value.bool (decide (r = 0)))) (x_assign rfl) ?_)
  refine wpList_nil ?_
  refine (X_then (hK39_ _ _ ?_))
  clear hK39_
  refine C_cond (b := decide (r = 0)) rfl (fun c40_t => ?_) (fun c40_f => ?_)
  · have c40_tp : r = 0 := of_decide_eq_true c40_t
    refine C_seq (fun K41_ hK41_ => ?_)
    refine C_reg ?_
    refine S_list (T_val (v := (Value.int .i64 (ordI ls 0))) (x_move rfl) ?_)
    refine S_list (T_val (v := (Value.bool (decide (ordI ls 0 = 0)))) (x_bin rfl rfl rfl) ?_)
    refine S_list (T_val (v := (Value.bool (decide (ordI ls 0 = 0)))) (x_assign rfl) ?_)
    refine wpList_nil ?_
    refine (X_then (hK41_ _ _ ?_))
    clear hK41_
    refine C_ret (X_blkR (X_thenR ?_))
    refine R_any (v := (Value.bool (decide (ordI ls 0 = 0)))) (run_results1 rfl rfl) ?_
    have H42_ : Holds w31_ (ro R :: F) := (Holds.erase (Holds.erase (Holds.bring H32_ 0 rfl) 1) 1)
    exact ⟨_, [], rfl, ⟨by rw [show r = 0 by omega]; rfl, rfl⟩, S36_, H42_⟩
  · have c40_fp : ¬ (r = 0) := of_decide_eq_false c40_f
    refine C_seq (fun K43_ hK43_ => ?_)
    refine C_reg ?_
    refine S_list (T_val (v := (Value.bool (decide (r = 1)))) (x_bin rfl rfl rfl) ?_)
    refine S_list (T_val (v := (Value.bool (decide (r = 1)))) (x_assign rfl) ?_)
    refine wpList_nil ?_
    refine (X_then (hK43_ _ _ ?_))
    clear hK43_
    refine C_cond (b := decide (r = 1)) rfl (fun c44_t => ?_) (fun c44_f => ?_)
    · have c44_tp : r = 1 := of_decide_eq_true c44_t
      refine C_seq (fun K45_ hK45_ => ?_)
      refine C_reg ?_
      refine S_list (T_val (v := (Value.int .i64 (ordI ls 0))) (x_move rfl) ?_)
      refine S_list (T_val (v := (Value.bool (decide (0 < ordI ls 0)))) (x_bin rfl rfl rfl) ?_)
      refine S_list (T_val (v := (Value.bool (decide (0 < ordI ls 0)))) (x_assign rfl) ?_)
      refine wpList_nil ?_
      refine (X_then (hK45_ _ _ ?_))
      clear hK45_
      refine C_ret (X_blkR (X_thenR ?_))
      refine R_any (v := (Value.bool (decide (0 < ordI ls 0)))) (run_results1 rfl rfl) ?_
      have H46_ : Holds w31_ (ro R :: F) := (Holds.erase (Holds.erase (Holds.bring H32_ 0 rfl) 1) 1)
      exact ⟨_, [], rfl, ⟨by rw [show r = 1 by omega]; rfl, rfl⟩, S36_, H46_⟩
    · have c44_fp : ¬ (r = 1) := of_decide_eq_false c44_f
      refine C_seq (fun K47_ hK47_ => ?_)
      refine C_reg ?_
      refine S_list (T_val (v := (Value.bool (decide (r = 2)))) (x_bin rfl rfl rfl) ?_)
      refine S_list (T_val (v := (Value.bool (decide (r = 2)))) (x_assign rfl) ?_)
      refine wpList_nil ?_
      refine (X_then (hK47_ _ _ ?_))
      clear hK47_
      refine C_cond (b := decide (r = 2)) rfl (fun c48_t => ?_) (fun c48_f => ?_)
      · have c48_tp : r = 2 := of_decide_eq_true c48_t
        refine C_seq (fun K49_ hK49_ => ?_)
        refine C_reg ?_
        refine S_list (T_val (v := (Value.int .i64 (ordI ls 0))) (x_move rfl) ?_)
        refine S_list (T_val (v := (Value.bool (decide (ordI ls 0 < 0)))) (x_bin rfl rfl rfl) ?_)
        refine S_list (T_val (v := (Value.bool (decide (ordI ls 0 < 0)))) (x_assign rfl) ?_)
        refine wpList_nil ?_
        refine (X_then (hK49_ _ _ ?_))
        clear hK49_
        refine C_ret (X_blkR (X_thenR ?_))
        refine R_any (v := (Value.bool (decide (ordI ls 0 < 0)))) (run_results1 rfl rfl) ?_
        have H50_ : Holds w31_ (ro R :: F) := (Holds.erase (Holds.erase (Holds.bring H32_ 0 rfl) 1) 1)
        exact ⟨_, [], rfl, ⟨by rw [show r = 2 by omega]; rfl, rfl⟩, S36_, H50_⟩
      · have c48_fp : ¬ (r = 2) := of_decide_eq_false c48_f
        refine C_skip (X_blkN (X_then (hK37_ _ _ ?_)))
        clear hK37_
        refine C_seq (fun K51_ hK51_ => ?_)
        refine C_reg ?_
        refine S_list (T_val (v := (Value.int .i64 (ordI ls 0))) (x_move rfl) ?_)
        refine S_list (T_val (v := (Value.bool (decide (ordI ls 0 ≠ 0)))) (x_bin rfl rfl rfl) ?_)
        refine S_list (T_val (v := (Value.bool (decide (ordI ls 0 ≠ 0)))) (x_assign rfl) ?_)
        refine wpList_nil ?_
        refine (X_then (hK51_ _ _ ?_))
        clear hK51_
        refine C_ret ?_
        refine R_any (v := (Value.bool (decide (ordI ls 0 ≠ 0)))) (run_results1 rfl rfl) ?_
        have H52_ : Holds w31_ (ro R :: F) := (Holds.erase (Holds.erase (Holds.bring H32_ 0 rfl) 1) 1)
        exact ⟨_, [], rfl, ⟨by rw [show r = 3 by omega]; rfl, rfl⟩, S36_, H52_⟩

set_option maxHeartbeats 400000 in
theorem spKV4f (R : HP) (r : Int) (key en : ByteArray) (n : Int) (val : ByteArray) (k x : ByteArray) (cr md vr ls : Int) (h0 : 0 ≤ r) (h1 : r ≤ 3) :
    Tri Try.prog 16 #[(Value.agg #[(Value.int .i64 4), (Value.int .i64 r), (Value.string key), (Value.string en), (Value.int .i64 n), (Value.string val), (Value.bool false)]), (Value.agg #[(Value.string k), (Value.string x), (Value.int .i64 cr), (Value.int .i64 md), (Value.int .i64 vr), (Value.int .i64 ls)])] R [] (fun v post => v = .bool (resOk r (ordI ls n)) ∧ post = []) := by
  refine Tri.into (n := 61) (al := [(Value.agg #[(Value.int .i64 4), (Value.int .i64 r), (Value.string key), (Value.string en), (Value.int .i64 n), (Value.string val), (Value.bool false)]), (Value.agg #[(Value.string k), (Value.string x), (Value.int .i64 cr), (Value.int .i64 md), (Value.int .i64 vr), (Value.int .i64 ls)])]) Try.func16 rfl Try.ntmps16 rfl rfl fun w F H => ?_
  replace H : Holds w (ro R :: F) := H
  refine C_seq (fun K1_ hK1_ => ?_)
  refine C_reg ?_
  refine S_list (T_box (v := (Value.agg #[(Value.int .i64 4), (Value.int .i64 r), (Value.string key), (Value.string en), (Value.int .i64 n), (Value.string val), (Value.bool false)])) rfl H ?_)
  intro b2_ w3_ S5_ H4_
  replace H4_ : Holds w3_ (cl b2_ 31 [(Value.int .i64 4), (Value.int .i64 r), (Value.string key), (Value.string en), (Value.int .i64 n), (Value.string val), (Value.bool false)] :: ro R :: F) := H4_
  have S6_ := Same.trans (Same.refl w) S5_
  refine S_list (T_box (v := (Value.agg #[(Value.string k), (Value.string x), (Value.int .i64 cr), (Value.int .i64 md), (Value.int .i64 vr), (Value.int .i64 ls)])) rfl H4_ ?_)
  intro b7_ w8_ S10_ H9_
  replace H9_ : Holds w8_ (cl b7_ 33 [(Value.string k), (Value.string x), (Value.int .i64 cr), (Value.int .i64 md), (Value.int .i64 vr), (Value.int .i64 ls)] :: cl b2_ 31 [(Value.int .i64 4), (Value.int .i64 r), (Value.string key), (Value.string en), (Value.int .i64 n), (Value.string val), (Value.bool false)] :: ro R :: F) := H9_
  have S11_ := Same.trans S6_ S10_
  refine S_list (T_val (v := (Value.bool false)) (x_assign rfl) ?_)
  refine wpList_nil ?_
  refine (X_then (hK1_ _ _ ?_))
  clear hK1_
  refine C_seq (fun K12_ hK12_ => ?_)
  refine C_seq (fun K13_ hK13_ => ?_)
  refine C_reg ?_
  refine S_list (T_val (v := (Value.pointer (some ⟨b2_, 6, none⟩))) (by kernel_rfl) ?_)
  refine S_list (T_val (v := (Value.bool false)) (x_load1 rfl Try.underlying4 rfl ((Holds.rd H9_ 1 rfl) 6 (Value.bool false) rfl)) ?_)
  refine wpList_nil ?_
  refine (X_then (hK13_ _ _ ?_))
  clear hK13_
  refine C_condF rfl ?_
  refine C_skip (X_then (hK12_ _ _ ?_))
  clear hK12_
  refine C_seq (fun K14_ hK14_ => ?_)
  refine C_reg ?_
  refine S_list (T_val (v := (Value.int .i64 0)) (x_assign rfl) ?_)
  refine wpList_nil ?_
  refine (X_then (hK14_ _ _ ?_))
  clear hK14_
  refine C_seq (fun K15_ hK15_ => ?_)
  refine C_seq (fun K16_ hK16_ => ?_)
  refine C_reg ?_
  refine S_list (T_val (v := (Value.pointer (some ⟨b2_, 0, none⟩))) (by kernel_rfl) ?_)
  refine S_list (T_val (v := (Value.int .i64 4)) (x_load1 rfl Try.underlying3 rfl ((Holds.rd H9_ 1 rfl) 0 (Value.int .i64 4) rfl)) ?_)
  refine wpList_nil ?_
  refine (X_then (hK16_ _ _ ?_))
  clear hK16_
  refine C_block ?_
  refine C_seq (fun K17_ hK17_ => ?_)
  refine C_reg ?_
  refine S_list (T_val (v := (Value.bool false)) (x_bin rfl rfl rfl) ?_)
  refine S_list (T_val (v := (Value.bool false)) (x_assign rfl) ?_)
  refine wpList_nil ?_
  refine (X_then (hK17_ _ _ ?_))
  clear hK17_
  refine C_condF rfl ?_
  refine C_seq (fun K18_ hK18_ => ?_)
  refine C_reg ?_
  refine S_list (T_val (v := (Value.bool false)) (x_bin rfl rfl rfl) ?_)
  refine S_list (T_val (v := (Value.bool false)) (x_assign rfl) ?_)
  refine wpList_nil ?_
  refine (X_then (hK18_ _ _ ?_))
  clear hK18_
  refine C_condF rfl ?_
  refine C_seq (fun K19_ hK19_ => ?_)
  refine C_reg ?_
  refine S_list (T_val (v := (Value.bool false)) (x_bin rfl rfl rfl) ?_)
  refine S_list (T_val (v := (Value.bool false)) (x_assign rfl) ?_)
  refine wpList_nil ?_
  refine (X_then (hK19_ _ _ ?_))
  clear hK19_
  refine C_condF rfl ?_
  refine C_seq (fun K20_ hK20_ => ?_)
  refine C_reg ?_
  refine S_list (T_val (v := (Value.bool true)) (x_bin rfl rfl rfl) ?_)
  refine S_list (T_val (v := (Value.bool true)) (x_assign rfl) ?_)
  refine wpList_nil ?_
  refine (X_then (hK20_ _ _ ?_))
  clear hK20_
  refine C_condT rfl ?_
  refine C_reg ?_
  refine S_list (T_val (v := (Value.pointer (some ⟨b7_, 5, none⟩))) (by kernel_rfl) ?_)
  refine S_list (T_val (v := (Value.int .i64 ls)) (x_load1 rfl Try.underlying2 rfl ((Holds.rd H9_ 0 rfl) 5 (Value.int .i64 ls) rfl)) ?_)
  refine S_list (T_val (v := (Value.pointer (some ⟨b2_, 4, none⟩))) (by kernel_rfl) ?_)
  refine S_list (T_val (v := (Value.int .i64 n)) (x_load1 rfl Try.underlying2 rfl ((Holds.rd H9_ 1 rfl) 4 (Value.int .i64 n) rfl)) ?_)
  have H21_ : Holds w8_ (ro R :: cl b7_ 33 [(Value.string k), (Value.string x), (Value.int .i64 cr), (Value.int .i64 md), (Value.int .i64 vr), (Value.int .i64 ls)] :: cl b2_ 31 [(Value.int .i64 4), (Value.int .i64 r), (Value.string key), (Value.string en), (Value.int .i64 n), (Value.string val), (Value.bool false)] :: F) := (Holds.bring H9_ 2 rfl)
  refine S_list (T_call (al := [(Value.int .i64 ls), (Value.int .i64 n)]) (pre := []) (F := cl b7_ 33 [(Value.string k), (Value.string x), (Value.int .i64 cr), (Value.int .i64 md), (Value.int .i64 vr), (Value.int .i64 ls)] :: cl b2_ 31 [(Value.int .i64 4), (Value.int .i64 r), (Value.string key), (Value.string en), (Value.int .i64 n), (Value.string val), (Value.bool false)] :: F) rfl rfl cb38 (numOrd R ls n) H21_ ?_)
  rintro v25_ p26_ w22_ ⟨rfl, rfl⟩ S24_ H23_
  replace H23_ : Holds w22_ (ro R :: cl b7_ 33 [(Value.string k), (Value.string x), (Value.int .i64 cr), (Value.int .i64 md), (Value.int .i64 vr), (Value.int .i64 ls)] :: cl b2_ 31 [(Value.int .i64 4), (Value.int .i64 r), (Value.string key), (Value.string en), (Value.int .i64 n), (Value.string val), (Value.bool false)] :: F) := H23_
  have S27_ := Same.trans S11_ S24_
  refine S_list (T_val (v := (Value.int .i64 (ordI ls n))) (x_assign rfl) ?_)
  refine wpList_nil ?_
  refine (X_blkN (X_then (hK15_ _ _ ?_)))
  clear hK15_
  refine C_seq (fun K28_ hK28_ => ?_)
  refine C_seq (fun K29_ hK29_ => ?_)
  refine C_reg ?_
  refine S_list (T_val (v := (Value.pointer (some ⟨b2_, 1, none⟩))) (by kernel_rfl) ?_)
  refine S_list (T_val (v := (Value.int .i64 r)) (x_load1 rfl Try.underlying3 rfl ((Holds.rd H23_ 2 rfl) 1 (Value.int .i64 r) rfl)) ?_)
  refine wpList_nil ?_
  refine (X_then (hK29_ _ _ ?_))
  clear hK29_
  refine C_block ?_
  refine C_seq (fun K30_ hK30_ => ?_)
  refine C_reg ?_
  refine S_list (T_val (v := (Value.bool (decide (r = 0)))) (x_bin rfl rfl rfl) ?_)
  refine S_list (T_val (v := (Value.bool (decide (r = 0)))) (x_assign rfl) ?_)
  refine wpList_nil ?_
  refine (X_then (hK30_ _ _ ?_))
  clear hK30_
  refine C_cond (b := decide (r = 0)) rfl (fun c31_t => ?_) (fun c31_f => ?_)
  · have c31_tp : r = 0 := of_decide_eq_true c31_t
    refine C_seq (fun K32_ hK32_ => ?_)
    refine C_reg ?_
    refine S_list (T_val (v := (Value.int .i64 (ordI ls n))) (x_move rfl) ?_)
    refine S_list (T_val (v := (Value.bool (decide (ordI ls n = 0)))) (x_bin rfl rfl rfl) ?_)
    refine S_list (T_val (v := (Value.bool (decide (ordI ls n = 0)))) (x_assign rfl) ?_)
    refine wpList_nil ?_
    refine (X_then (hK32_ _ _ ?_))
    clear hK32_
    refine C_ret (X_blkR (X_thenR ?_))
    refine R_any (v := (Value.bool (decide (ordI ls n = 0)))) (run_results1 rfl rfl) ?_
    have H33_ : Holds w22_ (ro R :: F) := (Holds.erase (Holds.erase (Holds.bring H23_ 0 rfl) 1) 1)
    exact ⟨_, [], rfl, ⟨by rw [show r = 0 by omega]; rfl, rfl⟩, S27_, H33_⟩
  · have c31_fp : ¬ (r = 0) := of_decide_eq_false c31_f
    refine C_seq (fun K34_ hK34_ => ?_)
    refine C_reg ?_
    refine S_list (T_val (v := (Value.bool (decide (r = 1)))) (x_bin rfl rfl rfl) ?_)
    refine S_list (T_val (v := (Value.bool (decide (r = 1)))) (x_assign rfl) ?_)
    refine wpList_nil ?_
    refine (X_then (hK34_ _ _ ?_))
    clear hK34_
    refine C_cond (b := decide (r = 1)) rfl (fun c35_t => ?_) (fun c35_f => ?_)
    · have c35_tp : r = 1 := of_decide_eq_true c35_t
      refine C_seq (fun K36_ hK36_ => ?_)
      refine C_reg ?_
      refine S_list (T_val (v := (Value.int .i64 (ordI ls n))) (x_move rfl) ?_)
      refine S_list (T_val (v := (Value.bool (decide (0 < ordI ls n)))) (x_bin rfl rfl rfl) ?_)
      refine S_list (T_val (v := (Value.bool (decide (0 < ordI ls n)))) (x_assign rfl) ?_)
      refine wpList_nil ?_
      refine (X_then (hK36_ _ _ ?_))
      clear hK36_
      refine C_ret (X_blkR (X_thenR ?_))
      refine R_any (v := (Value.bool (decide (0 < ordI ls n)))) (run_results1 rfl rfl) ?_
      have H37_ : Holds w22_ (ro R :: F) := (Holds.erase (Holds.erase (Holds.bring H23_ 0 rfl) 1) 1)
      exact ⟨_, [], rfl, ⟨by rw [show r = 1 by omega]; rfl, rfl⟩, S27_, H37_⟩
    · have c35_fp : ¬ (r = 1) := of_decide_eq_false c35_f
      refine C_seq (fun K38_ hK38_ => ?_)
      refine C_reg ?_
      refine S_list (T_val (v := (Value.bool (decide (r = 2)))) (x_bin rfl rfl rfl) ?_)
      refine S_list (T_val (v := (Value.bool (decide (r = 2)))) (x_assign rfl) ?_)
      refine wpList_nil ?_
      refine (X_then (hK38_ _ _ ?_))
      clear hK38_
      refine C_cond (b := decide (r = 2)) rfl (fun c39_t => ?_) (fun c39_f => ?_)
      · have c39_tp : r = 2 := of_decide_eq_true c39_t
        refine C_seq (fun K40_ hK40_ => ?_)
        refine C_reg ?_
        refine S_list (T_val (v := (Value.int .i64 (ordI ls n))) (x_move rfl) ?_)
        refine S_list (T_val (v := (Value.bool (decide (ordI ls n < 0)))) (x_bin rfl rfl rfl) ?_)
        refine S_list (T_val (v := (Value.bool (decide (ordI ls n < 0)))) (x_assign rfl) ?_)
        refine wpList_nil ?_
        refine (X_then (hK40_ _ _ ?_))
        clear hK40_
        refine C_ret (X_blkR (X_thenR ?_))
        refine R_any (v := (Value.bool (decide (ordI ls n < 0)))) (run_results1 rfl rfl) ?_
        have H41_ : Holds w22_ (ro R :: F) := (Holds.erase (Holds.erase (Holds.bring H23_ 0 rfl) 1) 1)
        exact ⟨_, [], rfl, ⟨by rw [show r = 2 by omega]; rfl, rfl⟩, S27_, H41_⟩
      · have c39_fp : ¬ (r = 2) := of_decide_eq_false c39_f
        refine C_skip (X_blkN (X_then (hK28_ _ _ ?_)))
        clear hK28_
        refine C_seq (fun K42_ hK42_ => ?_)
        refine C_reg ?_
        refine S_list (T_val (v := (Value.int .i64 (ordI ls n))) (x_move rfl) ?_)
        refine S_list (T_val (v := (Value.bool (decide (ordI ls n ≠ 0)))) (x_bin rfl rfl rfl) ?_)
        refine S_list (T_val (v := (Value.bool (decide (ordI ls n ≠ 0)))) (x_assign rfl) ?_)
        refine wpList_nil ?_
        refine (X_then (hK42_ _ _ ?_))
        clear hK42_
        refine C_ret ?_
        refine R_any (v := (Value.bool (decide (ordI ls n ≠ 0)))) (run_results1 rfl rfl) ?_
        have H43_ : Holds w22_ (ro R :: F) := (Holds.erase (Holds.erase (Holds.bring H23_ 0 rfl) 1) 1)
        exact ⟨_, [], rfl, ⟨by rw [show r = 3 by omega]; rfl, rfl⟩, S27_, H43_⟩

/-- What a compare's target says of a key-value, held against what the compare has. -/
def ordT (T : Int) (bare : Bool) (n : Int) (val x : ByteArray) (cr md vr ls : Int) : Int :=
  if T = 3 then Lib.compareBytes x.data.toList (if bare then [] else val.data.toList)
  else ordI (if T = 0 then vr else if T = 1 then cr else if T = 2 then md else ls) (if bare then 0 else n)
theorem cmpKVall (R : HP) (T r : Int) (key en : ByteArray) (n : Int) (val : ByteArray) (bare : Bool) (k x : ByteArray) (cr md vr ls : Int) (hT : 0 ≤ T) (hT2 : T ≤ 4) (h0 : 0 ≤ r) (h1 : r ≤ 3) :
    Tri Try.prog 15 #[(Value.agg #[(Value.int .i64 T), (Value.int .i64 r), (Value.string key), (Value.string en), (Value.int .i64 n), (Value.string val), (Value.bool bare)]), (Value.agg #[(Value.string k), (Value.string x), (Value.int .i64 cr), (Value.int .i64 md), (Value.int .i64 vr), (Value.int .i64 ls)])] R [] (fun v post => v = .bool (resOk r (ordT T bare n val x cr md vr ls)) ∧ post = []) := by
  have h5 : T = 0 ∨ T = 1 ∨ T = 2 ∨ T = 3 ∨ T = 4 := by omega
  rcases h5 with rfl | rfl | rfl | rfl | rfl <;> cases bare
  · exact cmpKV0f R r key en n val k x cr md vr ls h0 h1
  · exact cmpKV0t R r key en n val k x cr md vr ls h0 h1
  · exact cmpKV1f R r key en n val k x cr md vr ls h0 h1
  · exact cmpKV1t R r key en n val k x cr md vr ls h0 h1
  · exact cmpKV2f R r key en n val k x cr md vr ls h0 h1
  · exact cmpKV2t R r key en n val k x cr md vr ls h0 h1
  · exact (cmpKV3f R r key en n val k x cr md vr ls h0 h1).mono fun v post h => by rw [u8s_ints, u8s_ints] at h; exact h
  · exact (cmpKV3t R r key en n val k x cr md vr ls h0 h1).mono fun v post h => by rw [u8s_ints] at h; exact h
  · exact cmpKV4f R r key en n val k x cr md vr ls h0 h1
  · exact cmpKV4t R r key en n val k x cr md vr ls h0 h1
theorem spKVall (R : HP) (T r : Int) (key en : ByteArray) (n : Int) (val : ByteArray) (bare : Bool) (k x : ByteArray) (cr md vr ls : Int) (hT : 0 ≤ T) (hT2 : T ≤ 4) (h0 : 0 ≤ r) (h1 : r ≤ 3) :
    Tri Try.prog 16 #[(Value.agg #[(Value.int .i64 T), (Value.int .i64 r), (Value.string key), (Value.string en), (Value.int .i64 n), (Value.string val), (Value.bool bare)]), (Value.agg #[(Value.string k), (Value.string x), (Value.int .i64 cr), (Value.int .i64 md), (Value.int .i64 vr), (Value.int .i64 ls)])] R [] (fun v post => v = .bool (resOk r (ordT T bare n val x cr md vr ls)) ∧ post = []) := by
  have h5 : T = 0 ∨ T = 1 ∨ T = 2 ∨ T = 3 ∨ T = 4 := by omega
  rcases h5 with rfl | rfl | rfl | rfl | rfl <;> cases bare
  · exact spKV0f R r key en n val k x cr md vr ls h0 h1
  · exact spKV0t R r key en n val k x cr md vr ls h0 h1
  · exact spKV1f R r key en n val k x cr md vr ls h0 h1
  · exact spKV1t R r key en n val k x cr md vr ls h0 h1
  · exact spKV2f R r key en n val k x cr md vr ls h0 h1
  · exact spKV2t R r key en n val k x cr md vr ls h0 h1
  · exact spKV3f R r key en n val k x cr md vr ls h0 h1
  · exact spKV3t R r key en n val k x cr md vr ls h0 h1
  · exact spKV4f R r key en n val k x cr md vr ls h0 h1
  · exact spKV4t R r key en n val k x cr md vr ls h0 h1

set_option maxHeartbeats 400000 in
theorem fnTxnCompare (R : HP) (T r : Int) (key en : ByteArray) (n : Int) (val : ByteArray) (bare : Bool) (k x : ByteArray) (cr md vr ls : Int) :
    Tri Try.prog 4 #[(Value.agg #[(Value.int .i64 T), (Value.int .i64 r), (Value.string key), (Value.string en), (Value.int .i64 n), (Value.string val), (Value.bool bare)]), (Value.agg #[(Value.string k), (Value.string x), (Value.int .i64 cr), (Value.int .i64 md), (Value.int .i64 vr), (Value.int .i64 ls)])] R [] (fun v post => v = .bool true ∧ post = []) := by
  refine Tri.into (n := 40) (al := [(Value.agg #[(Value.int .i64 T), (Value.int .i64 r), (Value.string key), (Value.string en), (Value.int .i64 n), (Value.string val), (Value.bool bare)]), (Value.agg #[(Value.string k), (Value.string x), (Value.int .i64 cr), (Value.int .i64 md), (Value.int .i64 vr), (Value.int .i64 ls)])]) Try.func4 rfl Try.ntmps4 rfl rfl fun w F H => ?_
  replace H : Holds w (ro R :: F) := H
  refine C_seq (fun K1_ hK1_ => ?_)
  refine C_reg ?_
  refine S_list (T_box (v := (Value.agg #[(Value.int .i64 T), (Value.int .i64 r), (Value.string key), (Value.string en), (Value.int .i64 n), (Value.string val), (Value.bool bare)])) rfl H ?_)
  intro b2_ w3_ S5_ H4_
  replace H4_ : Holds w3_ (cl b2_ 31 [(Value.int .i64 T), (Value.int .i64 r), (Value.string key), (Value.string en), (Value.int .i64 n), (Value.string val), (Value.bool bare)] :: ro R :: F) := H4_
  have S6_ := Same.trans (Same.refl w) S5_
  refine S_list (T_box (v := (Value.agg #[(Value.string k), (Value.string x), (Value.int .i64 cr), (Value.int .i64 md), (Value.int .i64 vr), (Value.int .i64 ls)])) rfl H4_ ?_)
  intro b7_ w8_ S10_ H9_
  replace H9_ : Holds w8_ (cl b7_ 33 [(Value.string k), (Value.string x), (Value.int .i64 cr), (Value.int .i64 md), (Value.int .i64 vr), (Value.int .i64 ls)] :: cl b2_ 31 [(Value.int .i64 T), (Value.int .i64 r), (Value.string key), (Value.string en), (Value.int .i64 n), (Value.string val), (Value.bool bare)] :: ro R :: F) := H9_
  have S11_ := Same.trans S6_ S10_
  refine S_list (T_val (v := (Value.bool false)) (x_assign rfl) ?_)
  refine wpList_nil ?_
  refine (X_then (hK1_ _ _ ?_))
  clear hK1_
  refine C_seq (fun K12_ hK12_ => ?_)
  refine C_seq (fun K13_ hK13_ => ?_)
  refine C_reg ?_
  refine S_list (T_val (v := (Value.agg #[(Value.int .i64 T), (Value.int .i64 r), (Value.string key), (Value.string en), (Value.int .i64 n), (Value.string val), (Value.bool bare)])) (x_loadN (vs := [(Value.int .i64 T), (Value.int .i64 r), (Value.string key), (Value.string en), (Value.int .i64 n), (Value.string val), (Value.bool bare)]) rfl Try.underlying31 rfl z31 rfl (Rd.cells (Holds.rd H9_ 1 rfl) 0 rfl)) ?_)
  have H15_ : Holds w8_ (ro R :: cl b7_ 33 [(Value.string k), (Value.string x), (Value.int .i64 cr), (Value.int .i64 md), (Value.int .i64 vr), (Value.int .i64 ls)] :: cl b2_ 31 [(Value.int .i64 T), (Value.int .i64 r), (Value.string key), (Value.string en), (Value.int .i64 n), (Value.string val), (Value.bool bare)] :: F) := (Holds.bring H9_ 2 rfl)
  refine S_list (T_call (al := [(Value.agg #[(Value.int .i64 T), (Value.int .i64 r), (Value.string key), (Value.string en), (Value.int .i64 n), (Value.string val), (Value.bool bare)])]) (pre := []) (F := cl b7_ 33 [(Value.string k), (Value.string x), (Value.int .i64 cr), (Value.int .i64 md), (Value.int .i64 vr), (Value.int .i64 ls)] :: cl b2_ 31 [(Value.int .i64 T), (Value.int .i64 r), (Value.string key), (Value.string en), (Value.int .i64 n), (Value.string val), (Value.bool bare)] :: F) rfl rfl cb12 (fits10 R T r key en n val bare) H15_ ?_)
  rintro v19_ p20_ w16_ ⟨⟨q14_, rfl⟩, rfl⟩ S18_ H17_
  replace H17_ : Holds w16_ (ro R :: cl b7_ 33 [(Value.string k), (Value.string x), (Value.int .i64 cr), (Value.int .i64 md), (Value.int .i64 vr), (Value.int .i64 ls)] :: cl b2_ 31 [(Value.int .i64 T), (Value.int .i64 r), (Value.string key), (Value.string en), (Value.int .i64 n), (Value.string val), (Value.bool bare)] :: F) := H17_
  have S21_ := Same.trans S11_ S18_
  refine S_list (T_val (v := (Value.bool (!q14_))) (x_not rfl) ?_)
  refine S_list (T_val (v := (Value.bool (!q14_))) (x_move rfl) ?_)
  rcases Bool.eq_false_or_eq_true (!q14_) with c22_t | c22_f
  · skip
    refine S_no (j := 3) (dj := 8) (b := true) rfl rfl (congrArg Value.bool c22_t) (by decide) ?_
    refine S_no (j := 3) (dj := 8) (b := true) rfl rfl (congrArg Value.bool c22_t) (by decide) ?_
    refine S_no (j := 3) (dj := 8) (b := true) rfl rfl (congrArg Value.bool c22_t) (by decide) ?_
    refine S_list (T_pickT (v := (Value.bool true)) (congrArg Value.bool c22_t) rfl ?_)
    refine wpList_nil ?_
    refine (X_then (hK13_ _ _ ?_))
    clear hK13_
    refine C_condT rfl ?_
    refine C_seq (fun K23_ hK23_ => ?_)
    refine C_reg ?_
    refine S_list (T_val (v := (Value.bool true)) (x_assign rfl) ?_)
    refine wpList_nil ?_
    refine (X_then (hK23_ _ _ ?_))
    clear hK23_
    refine C_ret (X_thenR ?_)
    refine R_any (v := (Value.bool true)) (run_results1 rfl rfl) ?_
    have H24_ : Holds w16_ (ro R :: F) := (Holds.erase (Holds.erase (Holds.bring H17_ 0 rfl) 1) 1)
    exact ⟨_, [], rfl, ⟨by first | rfl | simp, rfl⟩, S21_, H24_⟩
  · skip
    refine S_yes (j := 3) (dj := 8) (b := false) rfl rfl (congrArg Value.bool c22_f) (T_val (v := (Value.agg #[(Value.string k), (Value.string x), (Value.int .i64 cr), (Value.int .i64 md), (Value.int .i64 vr), (Value.int .i64 ls)])) (x_loadN (vs := [(Value.string k), (Value.string x), (Value.int .i64 cr), (Value.int .i64 md), (Value.int .i64 vr), (Value.int .i64 ls)]) rfl Try.underlying33 rfl z33 rfl (Rd.cells (Holds.rd H17_ 1 rfl) 0 rfl)) ?_)
    refine S_yes (j := 3) (dj := 8) (b := false) rfl rfl (congrArg Value.bool c22_f) (T_call (al := [(Value.agg #[(Value.string k), (Value.string x), (Value.int .i64 cr), (Value.int .i64 md), (Value.int .i64 vr), (Value.int .i64 ls)])]) (pre := []) (F := cl b7_ 33 [(Value.string k), (Value.string x), (Value.int .i64 cr), (Value.int .i64 md), (Value.int .i64 vr), (Value.int .i64 ls)] :: cl b2_ 31 [(Value.int .i64 T), (Value.int .i64 r), (Value.string key), (Value.string en), (Value.int .i64 n), (Value.string val), (Value.bool bare)] :: F) rfl rfl cb13 (fits14 R k x cr md vr ls) H17_ ?_)
    rintro v29_ p30_ w26_ ⟨⟨q25_, rfl⟩, rfl⟩ S28_ H27_
    replace H27_ : Holds w26_ (ro R :: cl b7_ 33 [(Value.string k), (Value.string x), (Value.int .i64 cr), (Value.int .i64 md), (Value.int .i64 vr), (Value.int .i64 ls)] :: cl b2_ 31 [(Value.int .i64 T), (Value.int .i64 r), (Value.string key), (Value.string en), (Value.int .i64 n), (Value.string val), (Value.bool bare)] :: F) := H27_
    have S31_ := Same.trans S21_ S28_
    refine S_yes (j := 3) (dj := 8) (b := false) rfl rfl (congrArg Value.bool c22_f) (T_val (v := (Value.bool (!q25_))) (x_not rfl) ?_)
    refine S_list (T_pickF (v := (Value.bool (!q25_))) (congrArg Value.bool c22_f) rfl ?_)
    refine wpList_nil ?_
    refine (X_then (hK13_ _ _ ?_))
    clear hK13_
    refine C_cond (b := !q25_) rfl (fun c32_t => ?_) (fun c32_f => ?_)
    · skip
      refine C_seq (fun K33_ hK33_ => ?_)
      refine C_reg ?_
      refine S_list (T_val (v := (Value.bool true)) (x_assign rfl) ?_)
      refine wpList_nil ?_
      refine (X_then (hK33_ _ _ ?_))
      clear hK33_
      refine C_ret (X_thenR ?_)
      refine R_any (v := (Value.bool true)) (run_results1 rfl rfl) ?_
      have H34_ : Holds w26_ (ro R :: F) := (Holds.erase (Holds.erase (Holds.bring H27_ 0 rfl) 1) 1)
      exact ⟨_, [], rfl, ⟨by first | rfl | simp, rfl⟩, S31_, H34_⟩
    · skip
      refine C_skip (X_then (hK12_ _ _ ?_))
      clear hK12_
      refine C_seq (fun K35_ hK35_ => ?_)
      refine C_seq (fun K36_ hK36_ => ?_)
      refine C_reg ?_
      refine S_list (T_val (v := (Value.agg #[(Value.int .i64 T), (Value.int .i64 r), (Value.string key), (Value.string en), (Value.int .i64 n), (Value.string val), (Value.bool bare)])) (x_loadN (vs := [(Value.int .i64 T), (Value.int .i64 r), (Value.string key), (Value.string en), (Value.int .i64 n), (Value.string val), (Value.bool bare)]) rfl Try.underlying31 rfl z31 rfl (Rd.cells (Holds.rd H27_ 2 rfl) 0 rfl)) ?_)
      refine S_list (T_call (al := [(Value.agg #[(Value.int .i64 T), (Value.int .i64 r), (Value.string key), (Value.string en), (Value.int .i64 n), (Value.string val), (Value.bool bare)])]) (pre := []) (F := cl b7_ 33 [(Value.string k), (Value.string x), (Value.int .i64 cr), (Value.int .i64 md), (Value.int .i64 vr), (Value.int .i64 ls)] :: cl b2_ 31 [(Value.int .i64 T), (Value.int .i64 r), (Value.string key), (Value.string en), (Value.int .i64 n), (Value.string val), (Value.bool bare)] :: F) rfl rfl cb14 (txnCmpC R T r key en n val bare) H27_ ?_)
      rintro v42_ p43_ w39_ ⟨⟨q37_, rfl, hq38_⟩, rfl⟩ S41_ H40_
      replace H40_ : Holds w39_ (ro R :: cl b7_ 33 [(Value.string k), (Value.string x), (Value.int .i64 cr), (Value.int .i64 md), (Value.int .i64 vr), (Value.int .i64 ls)] :: cl b2_ 31 [(Value.int .i64 T), (Value.int .i64 r), (Value.string key), (Value.string en), (Value.int .i64 n), (Value.string val), (Value.bool bare)] :: F) := H40_
      have S44_ := Same.trans S31_ S41_
      refine S_list (T_val (v := (Value.bool (!q37_))) (x_not rfl) ?_)
      refine S_list (T_val (v := (Value.bool (!q37_))) (x_move rfl) ?_)
      rcases Bool.eq_false_or_eq_true (!q37_) with c45_t | c45_f
      · skip
        refine S_no (j := 3) (dj := 16) (b := true) rfl rfl (congrArg Value.bool c45_t) (by decide) ?_
        refine S_no (j := 3) (dj := 16) (b := true) rfl rfl (congrArg Value.bool c45_t) (by decide) ?_
        refine S_no (j := 3) (dj := 16) (b := true) rfl rfl (congrArg Value.bool c45_t) (by decide) ?_
        refine S_no (j := 3) (dj := 16) (b := true) rfl rfl (congrArg Value.bool c45_t) (by decide) ?_
        refine S_list (T_pickT (v := (Value.bool true)) (congrArg Value.bool c45_t) rfl ?_)
        refine S_list (T_val (v := (Value.bool true)) (x_move rfl) ?_)
        refine S_no (j := 9) (dj := 22) (b := true) rfl rfl rfl (by decide) ?_
        refine S_no (j := 9) (dj := 22) (b := true) rfl rfl rfl (by decide) ?_
        refine S_no (j := 9) (dj := 22) (b := true) rfl rfl rfl (by decide) ?_
        refine S_no (j := 9) (dj := 22) (b := true) rfl rfl rfl (by decide) ?_
        refine S_list (T_pickT (v := (Value.bool true)) rfl rfl ?_)
        refine wpList_nil ?_
        refine (X_then (hK36_ _ _ ?_))
        clear hK36_
        refine C_condT rfl ?_
        refine C_seq (fun K46_ hK46_ => ?_)
        refine C_reg ?_
        refine S_list (T_val (v := (Value.bool true)) (x_assign rfl) ?_)
        refine wpList_nil ?_
        refine (X_then (hK46_ _ _ ?_))
        clear hK46_
        refine C_ret (X_thenR ?_)
        refine R_any (v := (Value.bool true)) (run_results1 rfl rfl) ?_
        have H47_ : Holds w39_ (ro R :: F) := (Holds.erase (Holds.erase (Holds.bring H40_ 0 rfl) 1) 1)
        exact ⟨_, [], rfl, ⟨by first | rfl | simp, rfl⟩, S44_, H47_⟩
      · skip
        obtain ⟨hb48_a, hb48_b, hb48_c, hb48_d⟩ := hq38_ (by simpa using c45_f)
        refine S_yes (j := 3) (dj := 16) (b := false) rfl rfl (congrArg Value.bool c45_f) (T_val (v := (Value.pointer (some ⟨b7_, 0, none⟩))) (by kernel_rfl) ?_)
        refine S_yes (j := 3) (dj := 16) (b := false) rfl rfl (congrArg Value.bool c45_f) (T_val (v := (Value.string k)) (x_load1 rfl Try.underlying9 rfl ((Holds.rd H40_ 1 rfl) 0 (Value.string k) rfl)) ?_)
        refine S_yes (j := 3) (dj := 16) (b := false) rfl rfl (congrArg Value.bool c45_f) (T_val (v := (Value.int .i64 (k.size : Int))) (x_lenT rfl Try.underlying9) ?_)
        refine S_yes (j := 3) (dj := 16) (b := false) rfl rfl (congrArg Value.bool c45_f) (T_val (v := (Value.bool (decide (1000 < (k.size : Int))))) (x_bin rfl rfl rfl) ?_)
        refine S_list (T_pickF (v := (Value.bool (decide (1000 < (k.size : Int))))) (congrArg Value.bool c45_f) rfl ?_)
        refine S_list (T_val (v := (Value.bool (decide (1000 < (k.size : Int))))) (x_move rfl) ?_)
        rcases Bool.eq_false_or_eq_true (decide (1000 < (k.size : Int))) with c49_t | c49_f
        · have c49_tp : 1000 < (k.size : Int) := of_decide_eq_true c49_t
          refine S_no (j := 9) (dj := 22) (b := true) rfl rfl (congrArg Value.bool c49_t) (by decide) ?_
          refine S_no (j := 9) (dj := 22) (b := true) rfl rfl (congrArg Value.bool c49_t) (by decide) ?_
          refine S_no (j := 9) (dj := 22) (b := true) rfl rfl (congrArg Value.bool c49_t) (by decide) ?_
          refine S_no (j := 9) (dj := 22) (b := true) rfl rfl (congrArg Value.bool c49_t) (by decide) ?_
          refine S_list (T_pickT (v := (Value.bool true)) (congrArg Value.bool c49_t) rfl ?_)
          refine wpList_nil ?_
          refine (X_then (hK36_ _ _ ?_))
          clear hK36_
          refine C_condT rfl ?_
          refine C_seq (fun K50_ hK50_ => ?_)
          refine C_reg ?_
          refine S_list (T_val (v := (Value.bool true)) (x_assign rfl) ?_)
          refine wpList_nil ?_
          refine (X_then (hK50_ _ _ ?_))
          clear hK50_
          refine C_ret (X_thenR ?_)
          refine R_any (v := (Value.bool true)) (run_results1 rfl rfl) ?_
          have H51_ : Holds w39_ (ro R :: F) := (Holds.erase (Holds.erase (Holds.bring H40_ 0 rfl) 1) 1)
          exact ⟨_, [], rfl, ⟨by first | rfl | simp, rfl⟩, S44_, H51_⟩
        · have c49_fp : ¬ (1000 < (k.size : Int)) := of_decide_eq_false c49_f
          refine S_yes (j := 9) (dj := 22) (b := false) rfl rfl (congrArg Value.bool c49_f) (T_val (v := (Value.pointer (some ⟨b7_, 1, none⟩))) (by kernel_rfl) ?_)
          refine S_yes (j := 9) (dj := 22) (b := false) rfl rfl (congrArg Value.bool c49_f) (T_val (v := (Value.string x)) (x_load1 rfl Try.underlying9 rfl ((Holds.rd H40_ 1 rfl) 1 (Value.string x) rfl)) ?_)
          refine S_yes (j := 9) (dj := 22) (b := false) rfl rfl (congrArg Value.bool c49_f) (T_val (v := (Value.int .i64 (x.size : Int))) (x_lenT rfl Try.underlying9) ?_)
          refine S_yes (j := 9) (dj := 22) (b := false) rfl rfl (congrArg Value.bool c49_f) (T_val (v := (Value.bool (decide (1000 < (x.size : Int))))) (x_bin rfl rfl rfl) ?_)
          refine S_list (T_pickF (v := (Value.bool (decide (1000 < (x.size : Int))))) (congrArg Value.bool c49_f) rfl ?_)
          refine wpList_nil ?_
          refine (X_then (hK36_ _ _ ?_))
          clear hK36_
          refine C_cond (b := decide (1000 < (x.size : Int))) rfl (fun c52_t => ?_) (fun c52_f => ?_)
          · have c52_tp : 1000 < (x.size : Int) := of_decide_eq_true c52_t
            refine C_seq (fun K53_ hK53_ => ?_)
            refine C_reg ?_
            refine S_list (T_val (v := (Value.bool true)) (x_assign rfl) ?_)
            refine wpList_nil ?_
            refine (X_then (hK53_ _ _ ?_))
            clear hK53_
            refine C_ret (X_thenR ?_)
            refine R_any (v := (Value.bool true)) (run_results1 rfl rfl) ?_
            have H54_ : Holds w39_ (ro R :: F) := (Holds.erase (Holds.erase (Holds.bring H40_ 0 rfl) 1) 1)
            exact ⟨_, [], rfl, ⟨by first | rfl | simp, rfl⟩, S44_, H54_⟩
          · have c52_fp : ¬ (1000 < (x.size : Int)) := of_decide_eq_false c52_f
            refine C_skip (X_then (hK35_ _ _ ?_))
            clear hK35_
            refine C_seq (fun K55_ hK55_ => ?_)
            refine A_start (S := fun w => Rd b2_ [(Value.int .i64 T), (Value.int .i64 r), (Value.string key), (Value.string en), (Value.int .i64 n), (Value.string val), (Value.bool bare)] w ∧ Rd b7_ [(Value.string k), (Value.string x), (Value.int .i64 cr), (Value.int .i64 md), (Value.int .i64 vr), (Value.int .i64 ls)] w ∧ Sub R (hp w)) (N := 13) foll rfl rfl ?_
            have H57_ : Holds w39_.drew (ro R :: cl b7_ 33 [(Value.string k), (Value.string x), (Value.int .i64 cr), (Value.int .i64 md), (Value.int .i64 vr), (Value.int .i64 ls)] :: cl b2_ 31 [(Value.int .i64 T), (Value.int .i64 r), (Value.string key), (Value.string en), (Value.int .i64 n), (Value.string val), (Value.bool bare)] :: F) := H40_
            refine A_take 0 (ls' := #[true, false, false, false, false, false, false, false, false, false, false, false, false]) (v := (Value.agg #[(Value.int .i64 T), (Value.int .i64 r), (Value.string key), (Value.string en), (Value.int .i64 n), (Value.string val), (Value.bool bare)])) rfl (by kernel_rfl) (by kernel_rfl) (by kernel_rfl) (by kernel_rfl) (fun _ _ _ h => h) (fun w hS => x_loadN (vs := [(Value.int .i64 T), (Value.int .i64 r), (Value.string key), (Value.string en), (Value.int .i64 n), (Value.string val), (Value.bool bare)]) rfl Try.underlying31 rfl z31 rfl (Rd.cells hS.1 0 rfl)) ⟨Holds.rd H57_ 2 rfl, Holds.rd H57_ 1 rfl, Holds.ro_at H57_ 0 rfl⟩ ?_
            refine A_take 1 (ls' := #[true, true, false, false, false, false, false, false, false, false, false, false, false]) (v := (Value.agg #[(Value.string k), (Value.string x), (Value.int .i64 cr), (Value.int .i64 md), (Value.int .i64 vr), (Value.int .i64 ls)])) rfl (by kernel_rfl) (by kernel_rfl) (by kernel_rfl) (by kernel_rfl) (fun _ _ _ h => h) (fun w hS => x_loadN (vs := [(Value.string k), (Value.string x), (Value.int .i64 cr), (Value.int .i64 md), (Value.int .i64 vr), (Value.int .i64 ls)]) rfl Try.underlying33 rfl z33 rfl (Rd.cells hS.2.1 0 rfl)) ⟨Holds.rd H57_ 2 rfl, Holds.rd H57_ 1 rfl, Holds.ro_at H57_ 0 rfl⟩ ?_
            refine A_take 3 (ls' := #[true, true, false, true, false, false, false, false, false, false, false, false, false]) (v := (Value.agg #[(Value.int .i64 T), (Value.int .i64 r), (Value.string key), (Value.string en), (Value.int .i64 n), (Value.string val), (Value.bool bare)])) rfl (by kernel_rfl) (by kernel_rfl) (by kernel_rfl) (by kernel_rfl) (fun _ _ _ h => h) (fun w hS => x_loadN (vs := [(Value.int .i64 T), (Value.int .i64 r), (Value.string key), (Value.string en), (Value.int .i64 n), (Value.string val), (Value.bool bare)]) rfl Try.underlying31 rfl z31 rfl (Rd.cells hS.1 0 rfl)) ⟨Holds.rd H57_ 2 rfl, Holds.rd H57_ 1 rfl, Holds.ro_at H57_ 0 rfl⟩ ?_
            refine A_take 4 (ls' := #[true, true, false, true, true, false, false, false, false, false, false, false, false]) (v := (Value.agg #[(Value.string k), (Value.string x), (Value.int .i64 cr), (Value.int .i64 md), (Value.int .i64 vr), (Value.int .i64 ls)])) rfl (by kernel_rfl) (by kernel_rfl) (by kernel_rfl) (by kernel_rfl) (fun _ _ _ h => h) (fun w hS => x_loadN (vs := [(Value.string k), (Value.string x), (Value.int .i64 cr), (Value.int .i64 md), (Value.int .i64 vr), (Value.int .i64 ls)]) rfl Try.underlying33 rfl z33 rfl (Rd.cells hS.2.1 0 rfl)) ⟨Holds.rd H57_ 2 rfl, Holds.rd H57_ 1 rfl, Holds.ro_at H57_ 0 rfl⟩ ?_
            refine A_ready (i := 2) (rs := []) (by kernel_rfl) ?_
            refine AllR.cons ?_ AllR.nil
            refine A_op (ls' := #[true, true, true, true, true, false, false, false, false, false, false, false, false]) rfl (by kernel_rfl) (T_call (al := [(Value.agg #[(Value.int .i64 T), (Value.int .i64 r), (Value.string key), (Value.string en), (Value.int .i64 n), (Value.string val), (Value.bool bare)]), (Value.agg #[(Value.string k), (Value.string x), (Value.int .i64 cr), (Value.int .i64 md), (Value.int .i64 vr), (Value.int .i64 ls)])]) (pre := []) (F := cl b7_ 33 [(Value.string k), (Value.string x), (Value.int .i64 cr), (Value.int .i64 md), (Value.int .i64 vr), (Value.int .i64 ls)] :: cl b2_ 31 [(Value.int .i64 T), (Value.int .i64 r), (Value.string key), (Value.string en), (Value.int .i64 n), (Value.string val), (Value.bool bare)] :: F) rfl rfl cb15 (cmpKVall R T r key en n val bare k x cr md vr ls (by omega) (by omega) (by omega) (by omega)) H57_ ?_)
            rintro v61_ p62_ w58_ ⟨rfl, rfl⟩ S60_ H59_
            replace H59_ : Holds w58_ (ro R :: cl b7_ 33 [(Value.string k), (Value.string x), (Value.int .i64 cr), (Value.int .i64 md), (Value.int .i64 vr), (Value.int .i64 ls)] :: cl b2_ 31 [(Value.int .i64 T), (Value.int .i64 r), (Value.string key), (Value.string en), (Value.int .i64 n), (Value.string val), (Value.bool bare)] :: F) := H59_
            have S63_ := Same.trans (Same.trans S44_ (Same.drew _)) S60_
            refine ⟨⟨Holds.rd H59_ 2 rfl, Holds.rd H59_ 1 rfl, Holds.ro_at H59_ 0 rfl⟩, ?_⟩
            refine A_ready (i := 5) (rs := []) (by kernel_rfl) ?_
            refine AllR.cons ?_ AllR.nil
            refine A_op (ls' := #[true, true, true, true, true, true, false, false, false, false, false, false, false]) rfl (by kernel_rfl) (T_call (al := [(Value.agg #[(Value.int .i64 T), (Value.int .i64 r), (Value.string key), (Value.string en), (Value.int .i64 n), (Value.string val), (Value.bool bare)]), (Value.agg #[(Value.string k), (Value.string x), (Value.int .i64 cr), (Value.int .i64 md), (Value.int .i64 vr), (Value.int .i64 ls)])]) (pre := []) (F := cl b7_ 33 [(Value.string k), (Value.string x), (Value.int .i64 cr), (Value.int .i64 md), (Value.int .i64 vr), (Value.int .i64 ls)] :: cl b2_ 31 [(Value.int .i64 T), (Value.int .i64 r), (Value.string key), (Value.string en), (Value.int .i64 n), (Value.string val), (Value.bool bare)] :: F) rfl rfl cb16 (spKVall R T r key en n val bare k x cr md vr ls (by omega) (by omega) (by omega) (by omega)) H59_ ?_)
            rintro v67_ p68_ w64_ ⟨rfl, rfl⟩ S66_ H65_
            replace H65_ : Holds w64_ (ro R :: cl b7_ 33 [(Value.string k), (Value.string x), (Value.int .i64 cr), (Value.int .i64 md), (Value.int .i64 vr), (Value.int .i64 ls)] :: cl b2_ 31 [(Value.int .i64 T), (Value.int .i64 r), (Value.string key), (Value.string en), (Value.int .i64 n), (Value.string val), (Value.bool bare)] :: F) := H65_
            have S69_ := Same.trans S63_ S66_
            refine ⟨⟨Holds.rd H65_ 2 rfl, Holds.rd H65_ 1 rfl, Holds.ro_at H65_ 0 rfl⟩, ?_⟩
            refine A_take 6 (ls' := #[true, true, true, true, true, true, true, false, false, false, false, false, false]) (v := (Value.bool true)) rfl (by kernel_rfl) (by kernel_rfl) (by kernel_rfl) (by kernel_rfl) (fun _ _ _ h => h) (fun w hS => x_cast (x_eqB rfl rfl Try.underlying4) (by simp)) ⟨Holds.rd H65_ 2 rfl, Holds.rd H65_ 1 rfl, Holds.ro_at H65_ 0 rfl⟩ ?_
            refine A_take 7 (ls' := #[true, true, true, true, true, true, true, true, false, false, false, false, false]) (v := (Value.bool true)) rfl (by kernel_rfl) (by kernel_rfl) (by kernel_rfl) (by kernel_rfl) (fun _ _ _ h => h) (fun w hS => x_move rfl) ⟨Holds.rd H65_ 2 rfl, Holds.rd H65_ 1 rfl, Holds.ro_at H65_ 0 rfl⟩ ?_
            refine A_takeYes 8 (ls' := #[true, true, true, true, true, true, true, true, true, false, false, false, false]) (j := 7) (dj := 35) (b := true) (v := (Value.agg #[(Value.int .i64 0), (Value.int .i64 0), (Value.string ByteArray.empty), (Value.string ByteArray.empty), (Value.int .i64 3), (Value.string ByteArray.empty), (Value.bool false)])) rfl (by kernel_rfl) (by kernel_rfl) (by kernel_rfl) (by kernel_rfl) (fun _ _ _ h => h) rfl rfl rfl (fun w hS => by kernel_rfl) ⟨Holds.rd H65_ 2 rfl, Holds.rd H65_ 1 rfl, Holds.ro_at H65_ 0 rfl⟩ ?_
            refine A_takeYes 9 (ls' := #[true, true, true, true, true, true, true, true, true, true, false, false, false]) (j := 7) (dj := 35) (b := true) (v := (Value.agg #[(Value.string ByteArray.empty), (Value.string ByteArray.empty), (Value.int .i64 0), (Value.int .i64 0), (Value.int .i64 3), (Value.int .i64 0)])) rfl (by kernel_rfl) (by kernel_rfl) (by kernel_rfl) (by kernel_rfl) (fun _ _ _ h => h) rfl rfl rfl (fun w hS => by kernel_rfl) ⟨Holds.rd H65_ 2 rfl, Holds.rd H65_ 1 rfl, Holds.ro_at H65_ 0 rfl⟩ ?_
            refine A_ready (i := 10) (rs := []) (by kernel_rfl) ?_
            refine AllR.cons ?_ AllR.nil
            refine A_opYes (ls' := #[true, true, true, true, true, true, true, true, true, true, true, false, false]) (j := 7) (dj := 35) (b := true) rfl (by kernel_rfl) rfl rfl rfl (T_call (al := [(Value.agg #[(Value.int .i64 0), (Value.int .i64 0), (Value.string ByteArray.empty), (Value.string ByteArray.empty), (Value.int .i64 3), (Value.string ByteArray.empty), (Value.bool false)]), (Value.agg #[(Value.string ByteArray.empty), (Value.string ByteArray.empty), (Value.int .i64 0), (Value.int .i64 0), (Value.int .i64 3), (Value.int .i64 0)])]) (pre := []) (F := cl b7_ 33 [(Value.string k), (Value.string x), (Value.int .i64 cr), (Value.int .i64 md), (Value.int .i64 vr), (Value.int .i64 ls)] :: cl b2_ 31 [(Value.int .i64 T), (Value.int .i64 r), (Value.string key), (Value.string en), (Value.int .i64 n), (Value.string val), (Value.bool bare)] :: F) rfl rfl cb15 (cmpKVall R 0 0 ByteArray.empty ByteArray.empty 3 ByteArray.empty false ByteArray.empty ByteArray.empty 0 0 3 0 (by omega) (by omega) (by omega) (by omega)) H65_ ?_)
            rintro v73_ p74_ w70_ ⟨rfl, rfl⟩ S72_ H71_
            replace H71_ : Holds w70_ (ro R :: cl b7_ 33 [(Value.string k), (Value.string x), (Value.int .i64 cr), (Value.int .i64 md), (Value.int .i64 vr), (Value.int .i64 ls)] :: cl b2_ 31 [(Value.int .i64 T), (Value.int .i64 r), (Value.string key), (Value.string en), (Value.int .i64 n), (Value.string val), (Value.bool bare)] :: F) := H71_
            have S75_ := Same.trans S69_ S72_
            refine ⟨⟨Holds.rd H71_ 2 rfl, Holds.rd H71_ 1 rfl, Holds.ro_at H71_ 0 rfl⟩, ?_⟩
            refine A_take 11 (ls' := #[true, true, true, true, true, true, true, true, true, true, true, true, false]) (v := (Value.bool (resOk 0 (ordT 0 false 3 ByteArray.empty ByteArray.empty 0 0 3 0)))) rfl (by kernel_rfl) (by kernel_rfl) (by kernel_rfl) (by kernel_rfl) (fun _ _ _ h => h) (fun w hS => (x_pickT rfl rfl)) ⟨Holds.rd H71_ 2 rfl, Holds.rd H71_ 1 rfl, Holds.ro_at H71_ 0 rfl⟩ ?_
            refine A_take 12 (ls' := #[true, true, true, true, true, true, true, true, true, true, true, true, true]) (v := (Value.bool (resOk 0 (ordT 0 false 3 ByteArray.empty ByteArray.empty 0 0 3 0)))) rfl (by kernel_rfl) (by kernel_rfl) (by kernel_rfl) (by kernel_rfl) (fun _ _ _ h => h) (fun w hS => x_assign rfl) ⟨Holds.rd H71_ 2 rfl, Holds.rd H71_ 1 rfl, Holds.ro_at H71_ 0 rfl⟩ ?_
            refine A_done (by kernel_rfl) ?_
            refine (X_then (hK55_ _ _ ?_))
            clear hK55_
            refine C_ret ?_
            refine R_any (v := (Value.bool (resOk 0 (ordT 0 false 3 ByteArray.empty ByteArray.empty 0 0 3 0)))) (run_results1 rfl rfl) ?_
            have H76_ : Holds w70_ (ro R :: F) := (Holds.erase (Holds.erase (Holds.bring H71_ 0 rfl) 1) 1)
            exact ⟨_, [], rfl, ⟨by first | rfl | simp, rfl⟩, S75_, H76_⟩
end Go.Proofs.Ytfdnfnjmphjdnaa
