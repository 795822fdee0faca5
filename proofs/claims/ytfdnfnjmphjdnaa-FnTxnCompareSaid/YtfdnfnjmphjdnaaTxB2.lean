/- What the functions over compares come to: the package's compare. -/
import Derived.Test.YtfdnfnjmphjdnaaTxB1
set_option linter.unusedVariables false
set_option linter.unusedSimpArgs false
namespace Go.Proofs.Ytfdnfnjmphjdnaa
open Go Go.RowKit Gw

set_option maxHeartbeats 400000 in
theorem kvCmp3f (R : HP) (c kk u : Nat) (r : Int) (K E KK XV VV : Value) (cr md vr ls n : Int) (x val : ByteArray) (h0 : 0 ≤ r) (h1 : r ≤ 3) :
    Tri Try.prog 60 #[(Value.pointer (some ⟨c, 0, none⟩)), (Value.pointer (some ⟨kk, 0, none⟩))] R [cl c 106 [(Value.int .i32 r), (Value.int .i32 3), K, (Value.iface 116 (Value.pointer (some ⟨u, 0, none⟩))), E], cl kk 123 [KK, (Value.int .i64 cr), (Value.int .i64 md), (Value.int .i64 vr), XV, (Value.int .i64 ls)], sl 5 1 XV x.size (bytesV (ints x)), cl u 118 [VV], sl 5 1 VV val.size (bytesV (ints val))] (fun v post => v = .bool (resOk r (Lib.compareBytes (u8s (ints x)) (u8s (ints val)))) ∧ post = []) := by
  refine Tri.into (n := 152) (al := [(Value.pointer (some ⟨c, 0, none⟩)), (Value.pointer (some ⟨kk, 0, none⟩))]) Try.func60 rfl Try.ntmps60 rfl rfl fun w F H => ?_
  replace H : Holds w (ro R :: cl c 106 [(Value.int .i32 r), (Value.int .i32 3), K, (Value.iface 116 (Value.pointer (some ⟨u, 0, none⟩))), E] :: cl kk 123 [KK, (Value.int .i64 cr), (Value.int .i64 md), (Value.int .i64 vr), XV, (Value.int .i64 ls)] :: sl 5 1 XV x.size (bytesV (ints x)) :: cl u 118 [VV] :: sl 5 1 VV val.size (bytesV (ints val)) :: F) := H
  refine C_seq (fun K1_ hK1_ => ?_)
  refine C_reg ?_
  refine S_list (T_val (v := (Value.bool false)) (x_assign rfl) ?_)
  refine wpList_nil ?_
  refine (X_then (hK1_ _ _ ?_))
  clear hK1_
  refine C_seq (fun K2_ hK2_ => ?_)
  refine C_reg ?_
  refine S_list (T_val (v := (Value.int .i64 0)) (x_assign rfl) ?_)
  refine wpList_nil ?_
  refine (X_then (hK2_ _ _ ?_))
  clear hK2_
  refine C_seq (fun K3_ hK3_ => ?_)
  refine C_reg ?_
  refine S_list (T_val (v := (Value.int .i64 0)) (x_assign rfl) ?_)
  refine wpList_nil ?_
  refine (X_then (hK3_ _ _ ?_))
  clear hK3_
  refine C_seq (fun K4_ hK4_ => ?_)
  refine C_seq (fun K5_ hK5_ => ?_)
  refine C_reg ?_
  refine S_list (T_val (v := (Value.pointer (some ⟨c, 0, none⟩))) (x_move rfl) ?_)
  refine S_list (T_val (v := (Value.pointer (some ⟨c, 0, none⟩))) (by kernel_rfl) ?_)
  refine S_list (T_val (v := (Value.pointer (some ⟨c, 1, none⟩))) (by kernel_rfl) ?_)
  refine S_list (T_val (v := (Value.int .i32 3)) (x_load1 rfl Try.underlying103 rfl ((Holds.rd H 1 rfl) 1 (Value.int .i32 3) rfl)) ?_)
  refine wpList_nil ?_
  refine (X_then (hK5_ _ _ ?_))
  clear hK5_
  refine C_block ?_
  refine C_seq (fun K6_ hK6_ => ?_)
  refine C_reg ?_
  refine S_list (T_val (v := (Value.bool true)) (x_bin rfl rfl rfl) ?_)
  refine S_list (T_val (v := (Value.bool true)) (x_assign rfl) ?_)
  refine wpList_nil ?_
  refine (X_then (hK6_ _ _ ?_))
  clear hK6_
  refine C_condT rfl ?_
  refine C_seq (fun K7_ hK7_ => ?_)
  refine C_reg ?_
  refine S_list (T_val (v := (Value.slice none 0 0)) (x_assign rfl) ?_)
  refine wpList_nil ?_
  refine (X_then (hK7_ _ _ ?_))
  clear hK7_
  refine C_seq (fun K8_ hK8_ => ?_)
  refine C_seq (fun K9_ hK9_ => ?_)
  refine C_reg ?_
  refine S_list (T_val (v := (Value.pointer (some ⟨c, 0, none⟩))) (x_move rfl) ?_)
  refine S_list (T_val (v := (Value.pointer (some ⟨c, 0, none⟩))) (by kernel_rfl) ?_)
  refine S_list (T_val (v := (Value.pointer (some ⟨c, 3, none⟩))) (by kernel_rfl) ?_)
  refine S_list (T_val (v := (Value.iface 116 (Value.pointer (some ⟨u, 0, none⟩)))) (x_load1 rfl Try.underlying20 rfl ((Holds.rd H 1 rfl) 3 (Value.iface 116 (Value.pointer (some ⟨u, 0, none⟩))) rfl)) ?_)
  refine S_list (T_val (v := (Value.tuple #[(Value.pointer (some ⟨u, 0, none⟩)), (Value.bool true)])) (by kernel_rfl) ?_)
  refine S_list (T_val (v := (Value.tuple #[(Value.pointer (some ⟨u, 0, none⟩)), (Value.bool true)])) (x_move rfl) ?_)
  refine S_list (T_val (v := (Value.pointer (some ⟨u, 0, none⟩))) (by kernel_rfl) ?_)
  refine S_list (T_val (v := (Value.bool true)) (by kernel_rfl) ?_)
  refine S_list (T_val (v := (Value.pointer (some ⟨u, 0, none⟩))) (x_assign rfl) ?_)
  refine S_list (T_val (v := (Value.bool true)) (x_assign rfl) ?_)
  refine wpList_nil ?_
  refine (X_then (hK9_ _ _ ?_))
  clear hK9_
  refine C_seq (fun K10_ hK10_ => ?_)
  refine C_reg ?_
  refine S_list (T_val (v := (Value.pointer (some ⟨u, 0, none⟩))) (x_move rfl) ?_)
  refine S_list (T_val (v := (Value.bool true)) (by kernel_rfl) ?_)
  refine wpList_nil ?_
  refine (X_then (hK10_ _ _ ?_))
  clear hK10_
  refine C_condT rfl ?_
  refine C_reg ?_
  refine S_list (T_val (v := (Value.pointer (some ⟨u, 0, none⟩))) (x_move rfl) ?_)
  refine S_list (T_val (v := (Value.pointer (some ⟨u, 0, none⟩))) (by kernel_rfl) ?_)
  refine S_list (T_val (v := (Value.pointer (some ⟨u, 0, none⟩))) (by kernel_rfl) ?_)
  refine S_list (T_val (v := VV) (x_load1 rfl Try.underlying25 rfl ((Holds.rd H 4 rfl) 0 VV rfl)) ?_)
  refine S_list (T_val (v := VV) (x_assign rfl) ?_)
  refine wpList_nil ?_
  refine (X_then (hK8_ _ _ ?_))
  clear hK8_
  refine C_reg ?_
  refine S_list (T_val (v := (Value.pointer (some ⟨kk, 0, none⟩))) (x_move rfl) ?_)
  refine S_list (T_val (v := (Value.pointer (some ⟨kk, 0, none⟩))) (by kernel_rfl) ?_)
  refine S_list (T_val (v := (Value.pointer (some ⟨kk, 4, none⟩))) (by kernel_rfl) ?_)
  refine S_list (T_val (v := XV) (x_load1 rfl Try.underlying25 rfl ((Holds.rd H 2 rfl) 4 XV rfl)) ?_)
  refine S_list (T_val (v := VV) (x_move rfl) ?_)
  refine S_list (T_callW (al := [XV, VV]) rfl rfl cb71 (Calls.into (n := 8) (al := [XV, VV]) Try.func71 rfl Try.ntmps71 rfl rfl ?_))
  refine C_seq (fun K11_ hK11_ => ?_)
  refine C_reg ?_
  refine S_list (T_val (v := (Value.int .i64 0)) (x_assign rfl) ?_)
  refine wpList_nil ?_
  refine (X_then (hK11_ _ _ ?_))
  clear hK11_
  refine C_seq (fun K12_ hK12_ => ?_)
  refine C_reg ?_
  refine S_list (T_val (v := XV) (x_move rfl) ?_)
  refine S_list (T_val (v := VV) (x_move rfl) ?_)
  refine S_list (T_bcmp (fn := Try.f77) (u := XV) (v := VV) (xs := ints x) (ys := ints val) Try.func77 (by kernel_rfl) rfl (by kernel_rfl) (by kernel_rfl) rfl rfl (Holds.sl_RSw H 3 rfl) (Holds.sl_RSw H 5 rfl) ?_)
  refine S_list (T_val (v := (Value.int .i64 (Lib.compareBytes (u8s (ints x)) (u8s (ints val))))) (x_assign rfl) ?_)
  refine wpList_nil ?_
  refine (X_then (hK12_ _ _ ?_))
  clear hK12_
  refine C_ret ?_
  refine R_any (v := (Value.int .i64 (Lib.compareBytes (u8s (ints x)) (u8s (ints val))))) (run_results1 rfl rfl) ⟨_, rfl, ?_⟩
  refine S_list (T_val (v := (Value.int .i64 (Lib.compareBytes (u8s (ints x)) (u8s (ints val))))) (x_assign rfl) ?_)
  refine wpList_nil ?_
  refine (X_blkN (X_then (hK4_ _ _ ?_)))
  clear hK4_
  refine C_seq (fun K13_ hK13_ => ?_)
  refine C_seq (fun K14_ hK14_ => ?_)
  refine C_reg ?_
  refine S_list (T_val (v := (Value.pointer (some ⟨c, 0, none⟩))) (x_move rfl) ?_)
  refine S_list (T_val (v := (Value.pointer (some ⟨c, 0, none⟩))) (by kernel_rfl) ?_)
  refine S_list (T_val (v := (Value.pointer (some ⟨c, 0, none⟩))) (by kernel_rfl) ?_)
  refine S_list (T_val (v := (Value.int .i32 r)) (x_load1 rfl Try.underlying101 rfl ((Holds.rd H 1 rfl) 0 (Value.int .i32 r) rfl)) ?_)
  refine wpList_nil ?_
  refine (X_then (hK14_ _ _ ?_))
  clear hK14_
  refine C_block ?_
  refine C_seq (fun K15_ hK15_ => ?_)
  refine C_reg ?_
  refine S_list (T_val (v := (Value.bool (decide (r = 0)))) (x_bin rfl rfl rfl) ?_)
  refine S_list (T_val (v := (Value.bool (decide (r = 0)))) (x_assign rfl) ?_)
  refine wpList_nil ?_
  refine (X_then (hK15_ _ _ ?_))
  clear hK15_
  refine C_cond (b := decide (r = 0)) rfl (fun c16_t => ?_) (fun c16_f => ?_)
  · have c16_tp : r = 0 := of_decide_eq_true c16_t
    refine C_seq (fun K17_ hK17_ => ?_)
    refine C_reg ?_
    refine S_list (T_val (v := (Value.int .i64 (Lib.compareBytes (u8s (ints x)) (u8s (ints val))))) (x_move rfl) ?_)
    refine S_list (T_val (v := (Value.bool (decide (Lib.compareBytes (u8s (ints x)) (u8s (ints val)) = 0)))) (x_bin rfl rfl rfl) ?_)
    refine S_list (T_val (v := (Value.bool (decide (Lib.compareBytes (u8s (ints x)) (u8s (ints val)) = 0)))) (x_assign rfl) ?_)
    refine wpList_nil ?_
    refine (X_then (hK17_ _ _ ?_))
    clear hK17_
    refine C_ret (X_blkR (X_thenR ?_))
    refine R_any (v := (Value.bool (decide (Lib.compareBytes (u8s (ints x)) (u8s (ints val)) = 0)))) (run_results1 rfl rfl) ?_
    have H18_ : Holds w (ro R :: F) := (Holds.erase (Holds.erase (Holds.erase (Holds.erase (Holds.erase (Holds.bring H 0 rfl) 1) 1) 1) 1) 1)
    exact ⟨_, [], rfl, ⟨by rw [show r = 0 by omega]; rfl, rfl⟩, (Same.refl w), H18_⟩
  · have c16_fp : ¬ (r = 0) := of_decide_eq_false c16_f
    refine C_seq (fun K19_ hK19_ => ?_)
    refine C_reg ?_
    refine S_list (T_val (v := (Value.bool (decide (r = 3)))) (x_bin rfl rfl rfl) ?_)
    refine S_list (T_val (v := (Value.bool (decide (r = 3)))) (x_assign rfl) ?_)
    refine wpList_nil ?_
    refine (X_then (hK19_ _ _ ?_))
    clear hK19_
    refine C_cond (b := decide (r = 3)) rfl (fun c20_t => ?_) (fun c20_f => ?_)
    · have c20_tp : r = 3 := of_decide_eq_true c20_t
      refine C_seq (fun K21_ hK21_ => ?_)
      refine C_reg ?_
      refine S_list (T_val (v := (Value.int .i64 (Lib.compareBytes (u8s (ints x)) (u8s (ints val))))) (x_move rfl) ?_)
      refine S_list (T_val (v := (Value.bool (decide (Lib.compareBytes (u8s (ints x)) (u8s (ints val)) ≠ 0)))) (x_bin rfl rfl rfl) ?_)
      refine S_list (T_val (v := (Value.bool (decide (Lib.compareBytes (u8s (ints x)) (u8s (ints val)) ≠ 0)))) (x_assign rfl) ?_)
      refine wpList_nil ?_
      refine (X_then (hK21_ _ _ ?_))
      clear hK21_
      refine C_ret (X_blkR (X_thenR ?_))
      refine R_any (v := (Value.bool (decide (Lib.compareBytes (u8s (ints x)) (u8s (ints val)) ≠ 0)))) (run_results1 rfl rfl) ?_
      have H22_ : Holds w (ro R :: F) := (Holds.erase (Holds.erase (Holds.erase (Holds.erase (Holds.erase (Holds.bring H 0 rfl) 1) 1) 1) 1) 1)
      exact ⟨_, [], rfl, ⟨by rw [show r = 3 by omega]; rfl, rfl⟩, (Same.refl w), H22_⟩
    · have c20_fp : ¬ (r = 3) := of_decide_eq_false c20_f
      refine C_seq (fun K23_ hK23_ => ?_)
      refine C_reg ?_
      refine S_list (T_val (v := (Value.bool (decide (r = 1)))) (x_bin rfl rfl rfl) ?_)
      refine S_list (T_val (v := (Value.bool (decide (r = 1)))) (x_assign rfl) ?_)
      refine wpList_nil ?_
      refine (X_then (hK23_ _ _ ?_))
      clear hK23_
      refine C_cond (b := decide (r = 1)) rfl (fun c24_t => ?_) (fun c24_f => ?_)
      · have c24_tp : r = 1 := of_decide_eq_true c24_t
        refine C_seq (fun K25_ hK25_ => ?_)
        refine C_reg ?_
        refine S_list (T_val (v := (Value.int .i64 (Lib.compareBytes (u8s (ints x)) (u8s (ints val))))) (x_move rfl) ?_)
        refine S_list (T_val (v := (Value.bool (decide (0 < Lib.compareBytes (u8s (ints x)) (u8s (ints val)))))) (x_bin rfl rfl rfl) ?_)
        refine S_list (T_val (v := (Value.bool (decide (0 < Lib.compareBytes (u8s (ints x)) (u8s (ints val)))))) (x_assign rfl) ?_)
        refine wpList_nil ?_
        refine (X_then (hK25_ _ _ ?_))
        clear hK25_
        refine C_ret (X_blkR (X_thenR ?_))
        refine R_any (v := (Value.bool (decide (0 < Lib.compareBytes (u8s (ints x)) (u8s (ints val)))))) (run_results1 rfl rfl) ?_
        have H26_ : Holds w (ro R :: F) := (Holds.erase (Holds.erase (Holds.erase (Holds.erase (Holds.erase (Holds.bring H 0 rfl) 1) 1) 1) 1) 1)
        exact ⟨_, [], rfl, ⟨by rw [show r = 1 by omega]; rfl, rfl⟩, (Same.refl w), H26_⟩
      · have c24_fp : ¬ (r = 1) := of_decide_eq_false c24_f
        refine C_seq (fun K27_ hK27_ => ?_)
        refine C_reg ?_
        refine S_list (T_val (v := (Value.bool (decide (r = 2)))) (x_bin rfl rfl rfl) ?_)
        refine S_list (T_val (v := (Value.bool (decide (r = 2)))) (x_assign rfl) ?_)
        refine wpList_nil ?_
        refine (X_then (hK27_ _ _ ?_))
        clear hK27_
        refine C_cond (b := decide (r = 2)) rfl (fun c28_t => ?_) (fun c28_f => ?_)
        · have c28_tp : r = 2 := of_decide_eq_true c28_t
          refine C_seq (fun K29_ hK29_ => ?_)
          refine C_reg ?_
          refine S_list (T_val (v := (Value.int .i64 (Lib.compareBytes (u8s (ints x)) (u8s (ints val))))) (x_move rfl) ?_)
          refine S_list (T_val (v := (Value.bool (decide (Lib.compareBytes (u8s (ints x)) (u8s (ints val)) < 0)))) (x_bin rfl rfl rfl) ?_)
          refine S_list (T_val (v := (Value.bool (decide (Lib.compareBytes (u8s (ints x)) (u8s (ints val)) < 0)))) (x_assign rfl) ?_)
          refine wpList_nil ?_
          refine (X_then (hK29_ _ _ ?_))
          clear hK29_
          refine C_ret (X_blkR (X_thenR ?_))
          refine R_any (v := (Value.bool (decide (Lib.compareBytes (u8s (ints x)) (u8s (ints val)) < 0)))) (run_results1 rfl rfl) ?_
          have H30_ : Holds w (ro R :: F) := (Holds.erase (Holds.erase (Holds.erase (Holds.erase (Holds.erase (Holds.bring H 0 rfl) 1) 1) 1) 1) 1)
          exact ⟨_, [], rfl, ⟨by rw [show r = 2 by omega]; rfl, rfl⟩, (Same.refl w), H30_⟩
        · have c28_fp : ¬ (r = 2) := of_decide_eq_false c28_f
          omega

set_option maxHeartbeats 400000 in
theorem kvCmp4t (R : HP) (c kk u : Nat) (r : Int) (K E KK XV VV : Value) (cr md vr ls n : Int) (x val : ByteArray) (h0 : 0 ≤ r) (h1 : r ≤ 3) :
    Tri Try.prog 60 #[(Value.pointer (some ⟨c, 0, none⟩)), (Value.pointer (some ⟨kk, 0, none⟩))] R [cl c 106 [(Value.int .i32 r), (Value.int .i32 4), K, (Value.nilIface), E], cl kk 123 [KK, (Value.int .i64 cr), (Value.int .i64 md), (Value.int .i64 vr), XV, (Value.int .i64 ls)]] (fun v post => v = .bool (resOk r (ordI ls 0)) ∧ post = []) := by
  refine Tri.into (n := 152) (al := [(Value.pointer (some ⟨c, 0, none⟩)), (Value.pointer (some ⟨kk, 0, none⟩))]) Try.func60 rfl Try.ntmps60 rfl rfl fun w F H => ?_
  replace H : Holds w (ro R :: cl c 106 [(Value.int .i32 r), (Value.int .i32 4), K, (Value.nilIface), E] :: cl kk 123 [KK, (Value.int .i64 cr), (Value.int .i64 md), (Value.int .i64 vr), XV, (Value.int .i64 ls)] :: F) := H
  refine C_seq (fun K1_ hK1_ => ?_)
  refine C_reg ?_
  refine S_list (T_val (v := (Value.bool false)) (x_assign rfl) ?_)
  refine wpList_nil ?_
  refine (X_then (hK1_ _ _ ?_))
  clear hK1_
  refine C_seq (fun K2_ hK2_ => ?_)
  refine C_reg ?_
  refine S_list (T_val (v := (Value.int .i64 0)) (x_assign rfl) ?_)
  refine wpList_nil ?_
  refine (X_then (hK2_ _ _ ?_))
  clear hK2_
  refine C_seq (fun K3_ hK3_ => ?_)
  refine C_reg ?_
  refine S_list (T_val (v := (Value.int .i64 0)) (x_assign rfl) ?_)
  refine wpList_nil ?_
  refine (X_then (hK3_ _ _ ?_))
  clear hK3_
  refine C_seq (fun K4_ hK4_ => ?_)
  refine C_seq (fun K5_ hK5_ => ?_)
  refine C_reg ?_
  refine S_list (T_val (v := (Value.pointer (some ⟨c, 0, none⟩))) (x_move rfl) ?_)
  refine S_list (T_val (v := (Value.pointer (some ⟨c, 0, none⟩))) (by kernel_rfl) ?_)
  refine S_list (T_val (v := (Value.pointer (some ⟨c, 1, none⟩))) (by kernel_rfl) ?_)
  refine S_list (T_val (v := (Value.int .i32 4)) (x_load1 rfl Try.underlying103 rfl ((Holds.rd H 1 rfl) 1 (Value.int .i32 4) rfl)) ?_)
  refine wpList_nil ?_
  refine (X_then (hK5_ _ _ ?_))
  clear hK5_
  refine C_block ?_
  refine C_seq (fun K6_ hK6_ => ?_)
  refine C_reg ?_
  refine S_list (T_val (v := (Value.bool false)) (x_bin rfl rfl rfl) ?_)
  refine S_list (T_val (v := (Value.bool false)) (x_assign rfl) ?_)
  refine wpList_nil ?_
  refine (X_then (hK6_ _ _ ?_))
  clear hK6_
  refine C_condF rfl ?_
  refine C_seq (fun K7_ hK7_ => ?_)
  refine C_reg ?_
  refine S_list (T_val (v := (Value.bool false)) (x_bin rfl rfl rfl) ?_)
  refine S_list (T_val (v := (Value.bool false)) (x_assign rfl) ?_)
  refine wpList_nil ?_
  refine (X_then (hK7_ _ _ ?_))
  clear hK7_
  refine C_condF rfl ?_
  refine C_seq (fun K8_ hK8_ => ?_)
  refine C_reg ?_
  refine S_list (T_val (v := (Value.bool false)) (x_bin rfl rfl rfl) ?_)
  refine S_list (T_val (v := (Value.bool false)) (x_assign rfl) ?_)
  refine wpList_nil ?_
  refine (X_then (hK8_ _ _ ?_))
  clear hK8_
  refine C_condF rfl ?_
  refine C_seq (fun K9_ hK9_ => ?_)
  refine C_reg ?_
  refine S_list (T_val (v := (Value.bool false)) (x_bin rfl rfl rfl) ?_)
  refine S_list (T_val (v := (Value.bool false)) (x_assign rfl) ?_)
  refine wpList_nil ?_
  refine (X_then (hK9_ _ _ ?_))
  clear hK9_
  refine C_condF rfl ?_
  refine C_seq (fun K10_ hK10_ => ?_)
  refine C_reg ?_
  refine S_list (T_val (v := (Value.bool true)) (x_bin rfl rfl rfl) ?_)
  refine S_list (T_val (v := (Value.bool true)) (x_assign rfl) ?_)
  refine wpList_nil ?_
  refine (X_then (hK10_ _ _ ?_))
  clear hK10_
  refine C_condT rfl ?_
  refine C_seq (fun K11_ hK11_ => ?_)
  refine C_seq (fun K12_ hK12_ => ?_)
  refine C_reg ?_
  refine S_list (T_val (v := (Value.pointer (some ⟨c, 0, none⟩))) (x_move rfl) ?_)
  refine S_list (T_val (v := (Value.pointer (some ⟨c, 0, none⟩))) (by kernel_rfl) ?_)
  refine S_list (T_val (v := (Value.pointer (some ⟨c, 3, none⟩))) (by kernel_rfl) ?_)
  refine S_list (T_val (v := (Value.nilIface)) (x_load1 rfl Try.underlying20 rfl ((Holds.rd H 1 rfl) 3 (Value.nilIface) rfl)) ?_)
  refine S_list (T_val (v := (Value.tuple #[(Value.pointer none), (Value.bool false)])) (by kernel_rfl) ?_)
  refine S_list (T_val (v := (Value.tuple #[(Value.pointer none), (Value.bool false)])) (x_move rfl) ?_)
  refine S_list (T_val (v := (Value.pointer none)) (by kernel_rfl) ?_)
  refine S_list (T_val (v := (Value.bool false)) (by kernel_rfl) ?_)
  refine S_list (T_val (v := (Value.pointer none)) (x_assign rfl) ?_)
  refine S_list (T_val (v := (Value.bool false)) (x_assign rfl) ?_)
  refine wpList_nil ?_
  refine (X_then (hK12_ _ _ ?_))
  clear hK12_
  refine C_seq (fun K13_ hK13_ => ?_)
  refine C_reg ?_
  refine S_list (T_val (v := (Value.pointer none)) (x_move rfl) ?_)
  refine S_list (T_val (v := (Value.bool false)) (by kernel_rfl) ?_)
  refine wpList_nil ?_
  refine (X_then (hK13_ _ _ ?_))
  clear hK13_
  refine C_condF rfl ?_
  refine C_skip (X_then (hK11_ _ _ ?_))
  clear hK11_
  refine C_reg ?_
  refine S_list (T_val (v := (Value.pointer (some ⟨kk, 0, none⟩))) (x_move rfl) ?_)
  refine S_list (T_val (v := (Value.pointer (some ⟨kk, 0, none⟩))) (by kernel_rfl) ?_)
  refine S_list (T_val (v := (Value.pointer (some ⟨kk, 5, none⟩))) (by kernel_rfl) ?_)
  refine S_list (T_val (v := (Value.int .i64 ls)) (x_load1 rfl Try.underlying2 rfl ((Holds.rd H 2 rfl) 5 (Value.int .i64 ls) rfl)) ?_)
  refine S_list (T_val (v := (Value.int .i64 0)) (x_move rfl) ?_)
  refine S_list (T_call (al := [(Value.int .i64 ls), (Value.int .i64 0)]) (pre := []) (F := cl c 106 [(Value.int .i32 r), (Value.int .i32 4), K, (Value.nilIface), E] :: cl kk 123 [KK, (Value.int .i64 cr), (Value.int .i64 md), (Value.int .i64 vr), XV, (Value.int .i64 ls)] :: F) rfl rfl cb72 (cmpI64 R ls 0) H ?_)
  rintro v17_ p18_ w14_ ⟨rfl, rfl⟩ S16_ H15_
  replace H15_ : Holds w14_ (ro R :: cl c 106 [(Value.int .i32 r), (Value.int .i32 4), K, (Value.nilIface), E] :: cl kk 123 [KK, (Value.int .i64 cr), (Value.int .i64 md), (Value.int .i64 vr), XV, (Value.int .i64 ls)] :: F) := H15_
  have S19_ := Same.trans (Same.refl w) S16_
  refine S_list (T_val (v := (Value.int .i64 (ordI ls 0))) (x_assign rfl) ?_)
  refine wpList_nil ?_
  refine (X_blkN (X_then (hK4_ _ _ ?_)))
  clear hK4_
  refine C_seq (fun K20_ hK20_ => ?_)
  refine C_seq (fun K21_ hK21_ => ?_)
  refine C_reg ?_
  refine S_list (T_val (v := (Value.pointer (some ⟨c, 0, none⟩))) (x_move rfl) ?_)
  refine S_list (T_val (v := (Value.pointer (some ⟨c, 0, none⟩))) (by kernel_rfl) ?_)
  refine S_list (T_val (v := (Value.pointer (some ⟨c, 0, none⟩))) (by kernel_rfl) ?_)
  refine S_list (T_val (v := (Value.int .i32 r)) (x_load1 rfl Try.underlying101 rfl ((Holds.rd H15_ 1 rfl) 0 (Value.int .i32 r) rfl)) ?_)
  refine wpList_nil ?_
  refine (X_then (hK21_ _ _ ?_))
  clear hK21_
  refine C_block ?_
  refine C_seq (fun K22_ hK22_ => ?_)
  refine C_reg ?_
  refine S_list (T_val (v := (Value.bool (decide (r = 0)))) (x_bin rfl rfl rfl) ?_)
  refine S_list (T_val (v := (Value.bool (decide (r = 0)))) (x_assign rfl) ?_)
  refine wpList_nil ?_
  refine (X_then (hK22_ _ _ ?_))
  clear hK22_
  refine C_cond (b := decide (r = 0)) rfl (fun c23_t => ?_) (fun c23_f => ?_)
  · have c23_tp : r = 0 := of_decide_eq_true c23_t
    refine C_seq (fun K24_ hK24_ => ?_)
    refine C_reg ?_
    refine S_list (T_val (v := (Value.int .i64 (ordI ls 0))) (x_move rfl) ?_)
    refine S_list (T_val (v := (Value.bool (decide (ordI ls 0 = 0)))) (x_bin rfl rfl rfl) ?_)
    refine S_list (T_val (v := (Value.bool (decide (ordI ls 0 = 0)))) (x_assign rfl) ?_)
    refine wpList_nil ?_
    refine (X_then (hK24_ _ _ ?_))
    clear hK24_
    refine C_ret (X_blkR (X_thenR ?_))
    refine R_any (v := (Value.bool (decide (ordI ls 0 = 0)))) (run_results1 rfl rfl) ?_
    have H25_ : Holds w14_ (ro R :: F) := (Holds.erase (Holds.erase (Holds.bring H15_ 0 rfl) 1) 1)
    exact ⟨_, [], rfl, ⟨by rw [show r = 0 by omega]; rfl, rfl⟩, S19_, H25_⟩
  · have c23_fp : ¬ (r = 0) := of_decide_eq_false c23_f
    refine C_seq (fun K26_ hK26_ => ?_)
    refine C_reg ?_
    refine S_list (T_val (v := (Value.bool (decide (r = 3)))) (x_bin rfl rfl rfl) ?_)
    refine S_list (T_val (v := (Value.bool (decide (r = 3)))) (x_assign rfl) ?_)
    refine wpList_nil ?_
    refine (X_then (hK26_ _ _ ?_))
    clear hK26_
    refine C_cond (b := decide (r = 3)) rfl (fun c27_t => ?_) (fun c27_f => ?_)
    · have c27_tp : r = 3 := of_decide_eq_true c27_t
      refine C_seq (fun K28_ hK28_ => ?_)
      refine C_reg ?_
      refine S_list (T_val (v := (Value.int .i64 (ordI ls 0))) (x_move rfl) ?_)
      refine S_list (T_val (v := (Value.bool (decide (ordI ls 0 ≠ 0)))) (x_bin rfl rfl rfl) ?_)
      refine S_list (T_val (v := (Value.bool (decide (ordI ls 0 ≠ 0)))) (x_assign rfl) ?_)
      refine wpList_nil ?_
      refine (X_then (hK28_ _ _ ?_))
      clear hK28_
      refine C_ret (X_blkR (X_thenR ?_))
      refine R_any (v := (Value.bool (decide (ordI ls 0 ≠ 0)))) (run_results1 rfl rfl) ?_
      have H29_ : Holds w14_ (ro R :: F) := (Holds.erase (Holds.erase (Holds.bring H15_ 0 rfl) 1) 1)
      exact ⟨_, [], rfl, ⟨by rw [show r = 3 by omega]; rfl, rfl⟩, S19_, H29_⟩
    · have c27_fp : ¬ (r = 3) := of_decide_eq_false c27_f
      refine C_seq (fun K30_ hK30_ => ?_)
      refine C_reg ?_
      refine S_list (T_val (v := (Value.bool (decide (r = 1)))) (x_bin rfl rfl rfl) ?_)
      refine S_list (T_val (v := (Value.bool (decide (r = 1)))) (x_assign rfl) ?_)
      refine wpList_nil ?_
      refine (X_then (hK30_ _ _ ?_))
      clear hK30_
      refine C_cond (b := decide (r = 1)) rfl (fun c31_t => ?_) (fun c31_f => ?_)
      · have c31_tp : r = 1 := of_decide_eq_true c31_t
        refine C_seq (fun K32_ hK32_ => ?_)
        refine C_reg ?_
        refine S_list (T_val (v := (Value.int .i64 (ordI ls 0))) (x_move rfl) ?_)
        refine S_list (T_val (v := (Value.bool (decide (0 < ordI ls 0)))) (x_bin rfl rfl rfl) ?_)
        refine S_list (T_val (v := (Value.bool (decide (0 < ordI ls 0)))) (x_assign rfl) ?_)
        refine wpList_nil ?_
        refine (X_then (hK32_ _ _ ?_))
        clear hK32_
        refine C_ret (X_blkR (X_thenR ?_))
        refine R_any (v := (Value.bool (decide (0 < ordI ls 0)))) (run_results1 rfl rfl) ?_
        have H33_ : Holds w14_ (ro R :: F) := (Holds.erase (Holds.erase (Holds.bring H15_ 0 rfl) 1) 1)
        exact ⟨_, [], rfl, ⟨by rw [show r = 1 by omega]; rfl, rfl⟩, S19_, H33_⟩
      · have c31_fp : ¬ (r = 1) := of_decide_eq_false c31_f
        refine C_seq (fun K34_ hK34_ => ?_)
        refine C_reg ?_
        refine S_list (T_val (v := (Value.bool (decide (r = 2)))) (x_bin rfl rfl rfl) ?_)
        refine S_list (T_val (v := (Value.bool (decide (r = 2)))) (x_assign rfl) ?_)
        refine wpList_nil ?_
        refine (X_then (hK34_ _ _ ?_))
        clear hK34_
        refine C_cond (b := decide (r = 2)) rfl (fun c35_t => ?_) (fun c35_f => ?_)
        · have c35_tp : r = 2 := of_decide_eq_true c35_t
          refine C_seq (fun K36_ hK36_ => ?_)
          refine C_reg ?_
          refine S_list (T_val (v := (Value.int .i64 (ordI ls 0))) (x_move rfl) ?_)
          refine S_list (T_val (v := (Value.bool (decide (ordI ls 0 < 0)))) (x_bin rfl rfl rfl) ?_)
          refine S_list (T_val (v := (Value.bool (decide (ordI ls 0 < 0)))) (x_assign rfl) ?_)
          refine wpList_nil ?_
          refine (X_then (hK36_ _ _ ?_))
          clear hK36_
          refine C_ret (X_blkR (X_thenR ?_))
          refine R_any (v := (Value.bool (decide (ordI ls 0 < 0)))) (run_results1 rfl rfl) ?_
          have H37_ : Holds w14_ (ro R :: F) := (Holds.erase (Holds.erase (Holds.bring H15_ 0 rfl) 1) 1)
          exact ⟨_, [], rfl, ⟨by rw [show r = 2 by omega]; rfl, rfl⟩, S19_, H37_⟩
        · have c35_fp : ¬ (r = 2) := of_decide_eq_false c35_f
          omega

set_option maxHeartbeats 400000 in
theorem kvCmp4f (R : HP) (c kk u : Nat) (r : Int) (K E KK XV VV : Value) (cr md vr ls n : Int) (x val : ByteArray) (h0 : 0 ≤ r) (h1 : r ≤ 3) :
    Tri Try.prog 60 #[(Value.pointer (some ⟨c, 0, none⟩)), (Value.pointer (some ⟨kk, 0, none⟩))] R [cl c 106 [(Value.int .i32 r), (Value.int .i32 4), K, (Value.iface 119 (Value.pointer (some ⟨u, 0, none⟩))), E], cl kk 123 [KK, (Value.int .i64 cr), (Value.int .i64 md), (Value.int .i64 vr), XV, (Value.int .i64 ls)], cl u 121 [(Value.int .i64 n)]] (fun v post => v = .bool (resOk r (ordI ls n)) ∧ post = []) := by
  refine Tri.into (n := 152) (al := [(Value.pointer (some ⟨c, 0, none⟩)), (Value.pointer (some ⟨kk, 0, none⟩))]) Try.func60 rfl Try.ntmps60 rfl rfl fun w F H => ?_
  replace H : Holds w (ro R :: cl c 106 [(Value.int .i32 r), (Value.int .i32 4), K, (Value.iface 119 (Value.pointer (some ⟨u, 0, none⟩))), E] :: cl kk 123 [KK, (Value.int .i64 cr), (Value.int .i64 md), (Value.int .i64 vr), XV, (Value.int .i64 ls)] :: cl u 121 [(Value.int .i64 n)] :: F) := H
  refine C_seq (fun K1_ hK1_ => ?_)
  refine C_reg ?_
  refine S_list (T_val (v := (Value.bool false)) (x_assign rfl) ?_)
  refine wpList_nil ?_
  refine (X_then (hK1_ _ _ ?_))
  clear hK1_
  refine C_seq (fun K2_ hK2_ => ?_)
  refine C_reg ?_
  refine S_list (T_val (v := (Value.int .i64 0)) (x_assign rfl) ?_)
  refine wpList_nil ?_
  refine (X_then (hK2_ _ _ ?_))
  clear hK2_
  refine C_seq (fun K3_ hK3_ => ?_)
  refine C_reg ?_
  refine S_list (T_val (v := (Value.int .i64 0)) (x_assign rfl) ?_)
  refine wpList_nil ?_
  refine (X_then (hK3_ _ _ ?_))
  clear hK3_
  refine C_seq (fun K4_ hK4_ => ?_)
  refine C_seq (fun K5_ hK5_ => ?_)
  refine C_reg ?_
  refine S_list (T_val (v := (Value.pointer (some ⟨c, 0, none⟩))) (x_move rfl) ?_)
  refine S_list (T_val (v := (Value.pointer (some ⟨c, 0, none⟩))) (by kernel_rfl) ?_)
  refine S_list (T_val (v := (Value.pointer (some ⟨c, 1, none⟩))) (by kernel_rfl) ?_)
  refine S_list (T_val (v := (Value.int .i32 4)) (x_load1 rfl Try.underlying103 rfl ((Holds.rd H 1 rfl) 1 (Value.int .i32 4) rfl)) ?_)
  refine wpList_nil ?_
  refine (X_then (hK5_ _ _ ?_))
  clear hK5_
  refine C_block ?_
  refine C_seq (fun K6_ hK6_ => ?_)
  refine C_reg ?_
  refine S_list (T_val (v := (Value.bool false)) (x_bin rfl rfl rfl) ?_)
  refine S_list (T_val (v := (Value.bool false)) (x_assign rfl) ?_)
  refine wpList_nil ?_
  refine (X_then (hK6_ _ _ ?_))
  clear hK6_
  refine C_condF rfl ?_
  refine C_seq (fun K7_ hK7_ => ?_)
  refine C_reg ?_
  refine S_list (T_val (v := (Value.bool false)) (x_bin rfl rfl rfl) ?_)
  refine S_list (T_val (v := (Value.bool false)) (x_assign rfl) ?_)
  refine wpList_nil ?_
  refine (X_then (hK7_ _ _ ?_))
  clear hK7_
  refine C_condF rfl ?_
  refine C_seq (fun K8_ hK8_ => ?_)
  refine C_reg ?_
  refine S_list (T_val (v := (Value.bool false)) (x_bin rfl rfl rfl) ?_)
  refine S_list (T_val (v := (Value.bool false)) (x_assign rfl) ?_)
  refine wpList_nil ?_
  refine (X_then (hK8_ _ _ ?_))
  clear hK8_
  refine C_condF rfl ?_
  refine C_seq (fun K9_ hK9_ => ?_)
  refine C_reg ?_
  refine S_list (T_val (v := (Value.bool false)) (x_bin rfl rfl rfl) ?_)
  refine S_list (T_val (v := (Value.bool false)) (x_assign rfl) ?_)
  refine wpList_nil ?_
  refine (X_then (hK9_ _ _ ?_))
  clear hK9_
  refine C_condF rfl ?_
  refine C_seq (fun K10_ hK10_ => ?_)
  refine C_reg ?_
  refine S_list (T_val (v := (Value.bool true)) (x_bin rfl rfl rfl) ?_)
  refine S_list (T_val (v := (Value.bool true)) (x_assign rfl) ?_)
  refine wpList_nil ?_
  refine (X_then (hK10_ _ _ ?_))
  clear hK10_
  refine C_condT rfl ?_
  refine C_seq (fun K11_ hK11_ => ?_)
  refine C_seq (fun K12_ hK12_ => ?_)
  refine C_reg ?_
  refine S_list (T_val (v := (Value.pointer (some ⟨c, 0, none⟩))) (x_move rfl) ?_)
  refine S_list (T_val (v := (Value.pointer (some ⟨c, 0, none⟩))) (by kernel_rfl) ?_)
  refine S_list (T_val (v := (Value.pointer (some ⟨c, 3, none⟩))) (by kernel_rfl) ?_)
  refine S_list (T_val (v := (Value.iface 119 (Value.pointer (some ⟨u, 0, none⟩)))) (x_load1 rfl Try.underlying20 rfl ((Holds.rd H 1 rfl) 3 (Value.iface 119 (Value.pointer (some ⟨u, 0, none⟩))) rfl)) ?_)
  refine S_list (T_val (v := (Value.tuple #[(Value.pointer (some ⟨u, 0, none⟩)), (Value.bool true)])) (by kernel_rfl) ?_)
  refine S_list (T_val (v := (Value.tuple #[(Value.pointer (some ⟨u, 0, none⟩)), (Value.bool true)])) (x_move rfl) ?_)
  refine S_list (T_val (v := (Value.pointer (some ⟨u, 0, none⟩))) (by kernel_rfl) ?_)
  refine S_list (T_val (v := (Value.bool true)) (by kernel_rfl) ?_)
  refine S_list (T_val (v := (Value.pointer (some ⟨u, 0, none⟩))) (x_assign rfl) ?_)
  refine S_list (T_val (v := (Value.bool true)) (x_assign rfl) ?_)
  refine wpList_nil ?_
  refine (X_then (hK12_ _ _ ?_))
  clear hK12_
  refine C_seq (fun K13_ hK13_ => ?_)
  refine C_reg ?_
  refine S_list (T_val (v := (Value.pointer (some ⟨u, 0, none⟩))) (x_move rfl) ?_)
  refine S_list (T_val (v := (Value.bool true)) (by kernel_rfl) ?_)
  refine wpList_nil ?_
  refine (X_then (hK13_ _ _ ?_))
  clear hK13_
  refine C_condT rfl ?_
  refine C_reg ?_
  refine S_list (T_val (v := (Value.pointer (some ⟨u, 0, none⟩))) (x_move rfl) ?_)
  refine S_list (T_val (v := (Value.pointer (some ⟨u, 0, none⟩))) (by kernel_rfl) ?_)
  refine S_list (T_val (v := (Value.pointer (some ⟨u, 0, none⟩))) (by kernel_rfl) ?_)
  refine S_list (T_val (v := (Value.int .i64 n)) (x_load1 rfl Try.underlying2 rfl ((Holds.rd H 3 rfl) 0 (Value.int .i64 n) rfl)) ?_)
  refine S_list (T_val (v := (Value.int .i64 n)) (x_assign rfl) ?_)
  refine wpList_nil ?_
  refine (X_then (hK11_ _ _ ?_))
  clear hK11_
  refine C_reg ?_
  refine S_list (T_val (v := (Value.pointer (some ⟨kk, 0, none⟩))) (x_move rfl) ?_)
  refine S_list (T_val (v := (Value.pointer (some ⟨kk, 0, none⟩))) (by kernel_rfl) ?_)
  refine S_list (T_val (v := (Value.pointer (some ⟨kk, 5, none⟩))) (by kernel_rfl) ?_)
  refine S_list (T_val (v := (Value.int .i64 ls)) (x_load1 rfl Try.underlying2 rfl ((Holds.rd H 2 rfl) 5 (Value.int .i64 ls) rfl)) ?_)
  refine S_list (T_val (v := (Value.int .i64 n)) (x_move rfl) ?_)
  refine S_list (T_call (al := [(Value.int .i64 ls), (Value.int .i64 n)]) (pre := []) (F := cl c 106 [(Value.int .i32 r), (Value.int .i32 4), K, (Value.iface 119 (Value.pointer (some ⟨u, 0, none⟩))), E] :: cl kk 123 [KK, (Value.int .i64 cr), (Value.int .i64 md), (Value.int .i64 vr), XV, (Value.int .i64 ls)] :: cl u 121 [(Value.int .i64 n)] :: F) rfl rfl cb72 (cmpI64 R ls n) H ?_)
  rintro v17_ p18_ w14_ ⟨rfl, rfl⟩ S16_ H15_
  replace H15_ : Holds w14_ (ro R :: cl c 106 [(Value.int .i32 r), (Value.int .i32 4), K, (Value.iface 119 (Value.pointer (some ⟨u, 0, none⟩))), E] :: cl kk 123 [KK, (Value.int .i64 cr), (Value.int .i64 md), (Value.int .i64 vr), XV, (Value.int .i64 ls)] :: cl u 121 [(Value.int .i64 n)] :: F) := H15_
  have S19_ := Same.trans (Same.refl w) S16_
  refine S_list (T_val (v := (Value.int .i64 (ordI ls n))) (x_assign rfl) ?_)
  refine wpList_nil ?_
  refine (X_blkN (X_then (hK4_ _ _ ?_)))
  clear hK4_
  refine C_seq (fun K20_ hK20_ => ?_)
  refine C_seq (fun K21_ hK21_ => ?_)
  refine C_reg ?_
  refine S_list (T_val (v := (Value.pointer (some ⟨c, 0, none⟩))) (x_move rfl) ?_)
  refine S_list (T_val (v := (Value.pointer (some ⟨c, 0, none⟩))) (by kernel_rfl) ?_)
  refine S_list (T_val (v := (Value.pointer (some ⟨c, 0, none⟩))) (by kernel_rfl) ?_)
  refine S_list (T_val (v := (Value.int .i32 r)) (x_load1 rfl Try.underlying101 rfl ((Holds.rd H15_ 1 rfl) 0 (Value.int .i32 r) rfl)) ?_)
  refine wpList_nil ?_
  refine (X_then (hK21_ _ _ ?_))
  clear hK21_
  refine C_block ?_
  refine C_seq (fun K22_ hK22_ => ?_)
  refine C_reg ?_
  refine S_list (T_val (v := (Value.bool (decide (r = 0)))) (x_bin rfl rfl rfl) ?_)
  refine S_list (T_val (v := (Value.bool (decide (r = 0)))) (x_assign rfl) ?_)
  refine wpList_nil ?_
  refine (X_then (hK22_ _ _ ?_))
  clear hK22_
  refine C_cond (b := decide (r = 0)) rfl (fun c23_t => ?_) (fun c23_f => ?_)
  · have c23_tp : r = 0 := of_decide_eq_true c23_t
    refine C_seq (fun K24_ hK24_ => ?_)
    refine C_reg ?_
    refine S_list (T_val (v := (Value.int .i64 (ordI ls n))) (x_move rfl) ?_)
    refine S_list (T_val (v := (Value.bool (decide (ordI ls n = 0)))) (x_bin rfl rfl rfl) ?_)
    refine S_list (T_val (v := (Value.bool (decide (ordI ls n = 0)))) (x_assign rfl) ?_)
    refine wpList_nil ?_
    refine (X_then (hK24_ _ _ ?_))
    clear hK24_
    refine C_ret (X_blkR (X_thenR ?_))
    refine R_any (v := (Value.bool (decide (ordI ls n = 0)))) (run_results1 rfl rfl) ?_
    have H25_ : Holds w14_ (ro R :: F) := (Holds.erase (Holds.erase (Holds.erase (Holds.bring H15_ 0 rfl) 1) 1) 1)
    exact ⟨_, [], rfl, ⟨by rw [show r = 0 by omega]; rfl, rfl⟩, S19_, H25_⟩
  · have c23_fp : ¬ (r = 0) := of_decide_eq_false c23_f
    refine C_seq (fun K26_ hK26_ => ?_)
    refine C_reg ?_
    refine S_list (T_val (v := (Value.bool (decide (r = 3)))) (x_bin rfl rfl rfl) ?_)
    refine S_list (T_val (v := (Value.bool (decide (r = 3)))) (x_assign rfl) ?_)
    refine wpList_nil ?_
    refine (X_then (hK26_ _ _ ?_))
    clear hK26_
    refine C_cond (b := decide (r = 3)) rfl (fun c27_t => ?_) (fun c27_f => ?_)
    · have c27_tp : r = 3 := of_decide_eq_true c27_t
      refine C_seq (fun K28_ hK28_ => ?_)
      refine C_reg ?_
      refine S_list (T_val (v := (Value.int .i64 (ordI ls n))) (x_move rfl) ?_)
      refine S_list (T_val (v := (Value.bool (decide (ordI ls n ≠ 0)))) (x_bin rfl rfl rfl) ?_)
      refine S_list (T_val (v := (Value.bool (decide (ordI ls n ≠ 0)))) (x_assign rfl) ?_)
      refine wpList_nil ?_
      refine (X_then (hK28_ _ _ ?_))
      clear hK28_
      refine C_ret (X_blkR (X_thenR ?_))
      refine R_any (v := (Value.bool (decide (ordI ls n ≠ 0)))) (run_results1 rfl rfl) ?_
      have H29_ : Holds w14_ (ro R :: F) := (Holds.erase (Holds.erase (Holds.erase (Holds.bring H15_ 0 rfl) 1) 1) 1)
      exact ⟨_, [], rfl, ⟨by rw [show r = 3 by omega]; rfl, rfl⟩, S19_, H29_⟩
    · have c27_fp : ¬ (r = 3) := of_decide_eq_false c27_f
      refine C_seq (fun K30_ hK30_ => ?_)
      refine C_reg ?_
      refine S_list (T_val (v := (Value.bool (decide (r = 1)))) (x_bin rfl rfl rfl) ?_)
      refine S_list (T_val (v := (Value.bool (decide (r = 1)))) (x_assign rfl) ?_)
      refine wpList_nil ?_
      refine (X_then (hK30_ _ _ ?_))
      clear hK30_
      refine C_cond (b := decide (r = 1)) rfl (fun c31_t => ?_) (fun c31_f => ?_)
      · have c31_tp : r = 1 := of_decide_eq_true c31_t
        refine C_seq (fun K32_ hK32_ => ?_)
        refine C_reg ?_
        refine S_list (T_val (v := (Value.int .i64 (ordI ls n))) (x_move rfl) ?_)
        refine S_list (T_val (v := (Value.bool (decide (0 < ordI ls n)))) (x_bin rfl rfl rfl) ?_)
        refine S_list (T_val (v := (Value.bool (decide (0 < ordI ls n)))) (x_assign rfl) ?_)
        refine wpList_nil ?_
        refine (X_then (hK32_ _ _ ?_))
        clear hK32_
        refine C_ret (X_blkR (X_thenR ?_))
        refine R_any (v := (Value.bool (decide (0 < ordI ls n)))) (run_results1 rfl rfl) ?_
        have H33_ : Holds w14_ (ro R :: F) := (Holds.erase (Holds.erase (Holds.erase (Holds.bring H15_ 0 rfl) 1) 1) 1)
        exact ⟨_, [], rfl, ⟨by rw [show r = 1 by omega]; rfl, rfl⟩, S19_, H33_⟩
      · have c31_fp : ¬ (r = 1) := of_decide_eq_false c31_f
        refine C_seq (fun K34_ hK34_ => ?_)
        refine C_reg ?_
        refine S_list (T_val (v := (Value.bool (decide (r = 2)))) (x_bin rfl rfl rfl) ?_)
        refine S_list (T_val (v := (Value.bool (decide (r = 2)))) (x_assign rfl) ?_)
        refine wpList_nil ?_
        refine (X_then (hK34_ _ _ ?_))
        clear hK34_
        refine C_cond (b := decide (r = 2)) rfl (fun c35_t => ?_) (fun c35_f => ?_)
        · have c35_tp : r = 2 := of_decide_eq_true c35_t
          refine C_seq (fun K36_ hK36_ => ?_)
          refine C_reg ?_
          refine S_list (T_val (v := (Value.int .i64 (ordI ls n))) (x_move rfl) ?_)
          refine S_list (T_val (v := (Value.bool (decide (ordI ls n < 0)))) (x_bin rfl rfl rfl) ?_)
          refine S_list (T_val (v := (Value.bool (decide (ordI ls n < 0)))) (x_assign rfl) ?_)
          refine wpList_nil ?_
          refine (X_then (hK36_ _ _ ?_))
          clear hK36_
          refine C_ret (X_blkR (X_thenR ?_))
          refine R_any (v := (Value.bool (decide (ordI ls n < 0)))) (run_results1 rfl rfl) ?_
          have H37_ : Holds w14_ (ro R :: F) := (Holds.erase (Holds.erase (Holds.erase (Holds.bring H15_ 0 rfl) 1) 1) 1)
          exact ⟨_, [], rfl, ⟨by rw [show r = 2 by omega]; rfl, rfl⟩, S19_, H37_⟩
        · have c35_fp : ¬ (r = 2) := of_decide_eq_false c35_f
          omega

set_option maxHeartbeats 400000 in
theorem cmpKV0t (R : HP) (r : Int) (key en : ByteArray) (n : Int) (val : ByteArray) (k x : ByteArray) (cr md vr ls : Int) (h0 : 0 ≤ r) (h1 : r ≤ 3) :
    Tri Try.prog 15 #[(Value.agg #[(Value.int .i64 0), (Value.int .i64 r), (Value.string key), (Value.string en), (Value.int .i64 n), (Value.string val), (Value.bool true)]), (Value.agg #[(Value.string k), (Value.string x), (Value.int .i64 cr), (Value.int .i64 md), (Value.int .i64 vr), (Value.int .i64 ls)])] R [] (fun v post => v = .bool (resOk r (ordI vr 0)) ∧ post = []) := by
  refine Tri.into (n := 10) (al := [(Value.agg #[(Value.int .i64 0), (Value.int .i64 r), (Value.string key), (Value.string en), (Value.int .i64 n), (Value.string val), (Value.bool true)]), (Value.agg #[(Value.string k), (Value.string x), (Value.int .i64 cr), (Value.int .i64 md), (Value.int .i64 vr), (Value.int .i64 ls)])]) Try.func15 rfl Try.ntmps15 rfl rfl fun w F H => ?_
  replace H : Holds w (ro R :: F) := H
  refine C_seq (fun K1_ hK1_ => ?_)
  refine C_reg ?_
  refine S_list (T_box (v := (Value.agg #[(Value.int .i64 0), (Value.int .i64 r), (Value.string key), (Value.string en), (Value.int .i64 n), (Value.string val), (Value.bool true)])) rfl H ?_)
  intro b2_ w3_ S5_ H4_
  replace H4_ : Holds w3_ (cl b2_ 31 [(Value.int .i64 0), (Value.int .i64 r), (Value.string key), (Value.string en), (Value.int .i64 n), (Value.string val), (Value.bool true)] :: ro R :: F) := H4_
  have S6_ := Same.trans (Same.refl w) S5_
  refine S_list (T_box (v := (Value.agg #[(Value.string k), (Value.string x), (Value.int .i64 cr), (Value.int .i64 md), (Value.int .i64 vr), (Value.int .i64 ls)])) rfl H4_ ?_)
  intro b7_ w8_ S10_ H9_
  replace H9_ : Holds w8_ (cl b7_ 33 [(Value.string k), (Value.string x), (Value.int .i64 cr), (Value.int .i64 md), (Value.int .i64 vr), (Value.int .i64 ls)] :: cl b2_ 31 [(Value.int .i64 0), (Value.int .i64 r), (Value.string key), (Value.string en), (Value.int .i64 n), (Value.string val), (Value.bool true)] :: ro R :: F) := H9_
  have S11_ := Same.trans S6_ S10_
  refine S_list (T_val (v := (Value.bool false)) (x_assign rfl) ?_)
  refine wpList_nil ?_
  refine (X_then (hK1_ _ _ ?_))
  clear hK1_
  refine C_seq (fun K12_ hK12_ => ?_)
  refine A_start (S := fun w => Rd b2_ [(Value.int .i64 0), (Value.int .i64 r), (Value.string key), (Value.string en), (Value.int .i64 n), (Value.string val), (Value.bool true)] w ∧ Rd b7_ [(Value.string k), (Value.string x), (Value.int .i64 cr), (Value.int .i64 md), (Value.int .i64 vr), (Value.int .i64 ls)] w ∧ Sub R (hp w)) (N := 6) foll rfl rfl ?_
  have H14_ : Holds w8_.drew (cl b7_ 33 [(Value.string k), (Value.string x), (Value.int .i64 cr), (Value.int .i64 md), (Value.int .i64 vr), (Value.int .i64 ls)] :: cl b2_ 31 [(Value.int .i64 0), (Value.int .i64 r), (Value.string key), (Value.string en), (Value.int .i64 n), (Value.string val), (Value.bool true)] :: ro R :: F) := H9_
  refine A_take 0 (ls' := #[true, false, false, false, false, false]) (v := (Value.agg #[(Value.int .i64 0), (Value.int .i64 r), (Value.string key), (Value.string en), (Value.int .i64 n), (Value.string val), (Value.bool true)])) rfl (by kernel_rfl) (by kernel_rfl) (by kernel_rfl) (by kernel_rfl) (fun _ _ _ h => h) (fun w hS => x_loadN (vs := [(Value.int .i64 0), (Value.int .i64 r), (Value.string key), (Value.string en), (Value.int .i64 n), (Value.string val), (Value.bool true)]) rfl Try.underlying31 rfl z31 rfl (Rd.cells hS.1 0 rfl)) ⟨Holds.rd H14_ 1 rfl, Holds.rd H14_ 0 rfl, Holds.ro_at H14_ 2 rfl⟩ ?_
  refine A_take 2 (ls' := #[true, false, true, false, false, false]) (v := (Value.agg #[(Value.string k), (Value.string x), (Value.int .i64 cr), (Value.int .i64 md), (Value.int .i64 vr), (Value.int .i64 ls)])) rfl (by kernel_rfl) (by kernel_rfl) (by kernel_rfl) (by kernel_rfl) (fun _ _ _ h => h) (fun w hS => x_loadN (vs := [(Value.string k), (Value.string x), (Value.int .i64 cr), (Value.int .i64 md), (Value.int .i64 vr), (Value.int .i64 ls)]) rfl Try.underlying33 rfl z33 rfl (Rd.cells hS.2.1 0 rfl)) ⟨Holds.rd H14_ 1 rfl, Holds.rd H14_ 0 rfl, Holds.ro_at H14_ 2 rfl⟩ ?_
  refine A_ready (i := 1) (rs := []) (by kernel_rfl) ?_
  refine AllR.cons ?_ AllR.nil
  have H20_ : Holds w8_.drew (ro R :: cl b7_ 33 [(Value.string k), (Value.string x), (Value.int .i64 cr), (Value.int .i64 md), (Value.int .i64 vr), (Value.int .i64 ls)] :: cl b2_ 31 [(Value.int .i64 0), (Value.int .i64 r), (Value.string key), (Value.string en), (Value.int .i64 n), (Value.string val), (Value.bool true)] :: F) := (Holds.bring H14_ 2 rfl)
  refine A_op (ls' := #[true, true, true, false, false, false]) rfl (by kernel_rfl) (T_call (al := [(Value.agg #[(Value.int .i64 0), (Value.int .i64 r), (Value.string key), (Value.string en), (Value.int .i64 n), (Value.string val), (Value.bool true)])]) (pre := []) (F := cl b7_ 33 [(Value.string k), (Value.string x), (Value.int .i64 cr), (Value.int .i64 md), (Value.int .i64 vr), (Value.int .i64 ls)] :: cl b2_ 31 [(Value.int .i64 0), (Value.int .i64 r), (Value.string key), (Value.string en), (Value.int .i64 n), (Value.string val), (Value.bool true)] :: F) rfl rfl cb36 (cmpIn0t R r key en n val (by omega) (by omega)) H20_ ?_)
  rintro v24_ p25_ w21_ ⟨c15_, K17_, E18_, rfl, rfl⟩ S23_ H22_
  replace H22_ : Holds w21_ (ro R :: cl c15_ 106 [(Value.int .i32 r), (Value.int .i32 0), K17_, (Value.nilIface), E18_] :: cl b7_ 33 [(Value.string k), (Value.string x), (Value.int .i64 cr), (Value.int .i64 md), (Value.int .i64 vr), (Value.int .i64 ls)] :: cl b2_ 31 [(Value.int .i64 0), (Value.int .i64 r), (Value.string key), (Value.string en), (Value.int .i64 n), (Value.string val), (Value.bool true)] :: F) := H22_
  have S26_ := Same.trans (Same.trans S11_ (Same.drew _)) S23_
  refine ⟨⟨Holds.rd H22_ 3 rfl, Holds.rd H22_ 2 rfl, Holds.ro_at H22_ 0 rfl⟩, ?_⟩
  refine A_ready (i := 3) (rs := []) (by kernel_rfl) ?_
  refine AllR.cons ?_ AllR.nil
  refine A_op (ls' := #[true, true, true, true, false, false]) rfl (by kernel_rfl) (T_callW (al := [(Value.agg #[(Value.string k), (Value.string x), (Value.int .i64 cr), (Value.int .i64 md), (Value.int .i64 vr), (Value.int .i64 ls)])]) rfl rfl cb37 (Calls.into (n := 19) (al := [(Value.agg #[(Value.string k), (Value.string x), (Value.int .i64 cr), (Value.int .i64 md), (Value.int .i64 vr), (Value.int .i64 ls)])]) Try.func37 rfl Try.ntmps37 rfl rfl ?_))
  refine C_seq (fun K27_ hK27_ => ?_)
  refine C_reg ?_
  refine S_list (T_box (v := (Value.agg #[(Value.string k), (Value.string x), (Value.int .i64 cr), (Value.int .i64 md), (Value.int .i64 vr), (Value.int .i64 ls)])) rfl H22_ ?_)
  intro b28_ w29_ S31_ H30_
  replace H30_ : Holds w29_ (cl b28_ 33 [(Value.string k), (Value.string x), (Value.int .i64 cr), (Value.int .i64 md), (Value.int .i64 vr), (Value.int .i64 ls)] :: ro R :: cl c15_ 106 [(Value.int .i32 r), (Value.int .i32 0), K17_, (Value.nilIface), E18_] :: cl b7_ 33 [(Value.string k), (Value.string x), (Value.int .i64 cr), (Value.int .i64 md), (Value.int .i64 vr), (Value.int .i64 ls)] :: cl b2_ 31 [(Value.int .i64 0), (Value.int .i64 r), (Value.string key), (Value.string en), (Value.int .i64 n), (Value.string val), (Value.bool true)] :: F) := H30_
  have S32_ := Same.trans S26_ S31_
  refine S_list (T_val (v := (Value.pointer none)) (x_assign rfl) ?_)
  refine wpList_nil ?_
  refine (X_then (hK27_ _ _ ?_))
  clear hK27_
  refine C_seq (fun K33_ hK33_ => ?_)
  refine C_reg ?_
  refine S_list (T_val (v := (Value.pointer (some ⟨b28_, 0, none⟩))) (by kernel_rfl) ?_)
  refine S_list (T_val (v := (Value.string k)) (x_load1 rfl Try.underlying9 rfl ((Holds.rd H30_ 0 rfl) 0 (Value.string k) rfl)) ?_)
  refine S_list (T_s2b rfl Try.underlying9 Try.underlying25 Try.underlying5 H30_ ?_)
  intro b34_ cp35_ w36_ S38_ hc39_ H37_
  have S40_ := Same.trans S32_ S38_
  have H41_ : Holds w36_ (sl 5 1 (Value.slice (some ⟨b34_, 0, none⟩) k.size cp35_) k.size (bytesV (ints k)) :: cl b28_ 33 [(Value.string k), (Value.string x), (Value.int .i64 cr), (Value.int .i64 md), (Value.int .i64 vr), (Value.int .i64 ls)] :: ro R :: cl c15_ 106 [(Value.int .i32 r), (Value.int .i32 0), K17_, (Value.nilIface), E18_] :: cl b7_ 33 [(Value.string k), (Value.string x), (Value.int .i64 cr), (Value.int .i64 md), (Value.int .i64 vr), (Value.int .i64 ls)] :: cl b2_ 31 [(Value.int .i64 0), (Value.int .i64 r), (Value.string key), (Value.string en), (Value.int .i64 n), (Value.string val), (Value.bool true)] :: F) := cast2 (P := fun (c__ : List Value) (k__ : Nat) => Holds w36_ (sl 5 1 (Value.slice (some ⟨b34_, 0, none⟩) k.size cp35_) k__ c__ :: cl b28_ 33 [(Value.string k), (Value.string x), (Value.int .i64 cr), (Value.int .i64 md), (Value.int .i64 vr), (Value.int .i64 ls)] :: ro R :: cl c15_ 106 [(Value.int .i32 r), (Value.int .i32 0), K17_, (Value.nilIface), E18_] :: cl b7_ 33 [(Value.string k), (Value.string x), (Value.int .i64 cr), (Value.int .i64 md), (Value.int .i64 vr), (Value.int .i64 ls)] :: cl b2_ 31 [(Value.int .i64 0), (Value.int .i64 r), (Value.string key), (Value.string en), (Value.int .i64 n), (Value.string val), (Value.bool true)] :: F)) (byteCells_bytesV _ : byteCells k = bytesV (ints k)) (rfl : k.size = k.size) H37_
  refine S_list (T_val (v := (Value.pointer (some ⟨b28_, 1, none⟩))) (by kernel_rfl) ?_)
  refine S_list (T_val (v := (Value.string x)) (x_load1 rfl Try.underlying9 rfl ((Holds.rd H41_ 1 rfl) 1 (Value.string x) rfl)) ?_)
  refine S_list (T_s2b rfl Try.underlying9 Try.underlying25 Try.underlying5 H41_ ?_)
  intro b42_ cp43_ w44_ S46_ hc47_ H45_
  have S48_ := Same.trans S40_ S46_
  have H49_ : Holds w44_ (sl 5 1 (Value.slice (some ⟨b42_, 0, none⟩) x.size cp43_) x.size (bytesV (ints x)) :: sl 5 1 (Value.slice (some ⟨b34_, 0, none⟩) k.size cp35_) k.size (bytesV (ints k)) :: cl b28_ 33 [(Value.string k), (Value.string x), (Value.int .i64 cr), (Value.int .i64 md), (Value.int .i64 vr), (Value.int .i64 ls)] :: ro R :: cl c15_ 106 [(Value.int .i32 r), (Value.int .i32 0), K17_, (Value.nilIface), E18_] :: cl b7_ 33 [(Value.string k), (Value.string x), (Value.int .i64 cr), (Value.int .i64 md), (Value.int .i64 vr), (Value.int .i64 ls)] :: cl b2_ 31 [(Value.int .i64 0), (Value.int .i64 r), (Value.string key), (Value.string en), (Value.int .i64 n), (Value.string val), (Value.bool true)] :: F) := cast2 (P := fun (c__ : List Value) (k__ : Nat) => Holds w44_ (sl 5 1 (Value.slice (some ⟨b42_, 0, none⟩) x.size cp43_) k__ c__ :: sl 5 1 (Value.slice (some ⟨b34_, 0, none⟩) k.size cp35_) k.size (bytesV (ints k)) :: cl b28_ 33 [(Value.string k), (Value.string x), (Value.int .i64 cr), (Value.int .i64 md), (Value.int .i64 vr), (Value.int .i64 ls)] :: ro R :: cl c15_ 106 [(Value.int .i32 r), (Value.int .i32 0), K17_, (Value.nilIface), E18_] :: cl b7_ 33 [(Value.string k), (Value.string x), (Value.int .i64 cr), (Value.int .i64 md), (Value.int .i64 vr), (Value.int .i64 ls)] :: cl b2_ 31 [(Value.int .i64 0), (Value.int .i64 r), (Value.string key), (Value.string en), (Value.int .i64 n), (Value.string val), (Value.bool true)] :: F)) (byteCells_bytesV _ : byteCells x = bytesV (ints x)) (rfl : x.size = x.size) H45_
  refine S_list (T_val (v := (Value.pointer (some ⟨b28_, 2, none⟩))) (by kernel_rfl) ?_)
  refine S_list (T_val (v := (Value.int .i64 cr)) (x_load1 rfl Try.underlying2 rfl ((Holds.rd H49_ 2 rfl) 2 (Value.int .i64 cr) rfl)) ?_)
  refine S_list (T_val (v := (Value.pointer (some ⟨b28_, 3, none⟩))) (by kernel_rfl) ?_)
  refine S_list (T_val (v := (Value.int .i64 md)) (x_load1 rfl Try.underlying2 rfl ((Holds.rd H49_ 2 rfl) 3 (Value.int .i64 md) rfl)) ?_)
  refine S_list (T_val (v := (Value.pointer (some ⟨b28_, 4, none⟩))) (by kernel_rfl) ?_)
  refine S_list (T_val (v := (Value.int .i64 vr)) (x_load1 rfl Try.underlying2 rfl ((Holds.rd H49_ 2 rfl) 4 (Value.int .i64 vr) rfl)) ?_)
  refine S_list (T_val (v := (Value.pointer (some ⟨b28_, 5, none⟩))) (by kernel_rfl) ?_)
  refine S_list (T_val (v := (Value.int .i64 ls)) (x_load1 rfl Try.underlying2 rfl ((Holds.rd H49_ 2 rfl) 5 (Value.int .i64 ls) rfl)) ?_)
  refine S_list (T_val (v := (Value.agg #[(Value.slice (some ⟨b34_, 0, none⟩) k.size cp35_), (Value.int .i64 cr), (Value.int .i64 md), (Value.int .i64 vr), (Value.slice (some ⟨b42_, 0, none⟩) x.size cp43_), (Value.int .i64 ls)])) (by kernel_rfl) ?_)
  refine S_list (T_box (v := (Value.agg #[(Value.slice (some ⟨b34_, 0, none⟩) k.size cp35_), (Value.int .i64 cr), (Value.int .i64 md), (Value.int .i64 vr), (Value.slice (some ⟨b42_, 0, none⟩) x.size cp43_), (Value.int .i64 ls)])) rfl H49_ ?_)
  intro b50_ w51_ S53_ H52_
  replace H52_ : Holds w51_ (cl b50_ 123 [(Value.slice (some ⟨b34_, 0, none⟩) k.size cp35_), (Value.int .i64 cr), (Value.int .i64 md), (Value.int .i64 vr), (Value.slice (some ⟨b42_, 0, none⟩) x.size cp43_), (Value.int .i64 ls)] :: sl 5 1 (Value.slice (some ⟨b42_, 0, none⟩) x.size cp43_) x.size (bytesV (ints x)) :: sl 5 1 (Value.slice (some ⟨b34_, 0, none⟩) k.size cp35_) k.size (bytesV (ints k)) :: cl b28_ 33 [(Value.string k), (Value.string x), (Value.int .i64 cr), (Value.int .i64 md), (Value.int .i64 vr), (Value.int .i64 ls)] :: ro R :: cl c15_ 106 [(Value.int .i32 r), (Value.int .i32 0), K17_, (Value.nilIface), E18_] :: cl b7_ 33 [(Value.string k), (Value.string x), (Value.int .i64 cr), (Value.int .i64 md), (Value.int .i64 vr), (Value.int .i64 ls)] :: cl b2_ 31 [(Value.int .i64 0), (Value.int .i64 r), (Value.string key), (Value.string en), (Value.int .i64 n), (Value.string val), (Value.bool true)] :: F) := H52_
  have S54_ := Same.trans S48_ S53_
  refine S_list (T_val (v := (Value.pointer (some ⟨b50_, 0, none⟩))) (x_assign rfl) ?_)
  refine wpList_nil ?_
  refine (X_then (hK33_ _ _ ?_))
  clear hK33_
  refine C_ret ?_
  refine R_any (v := (Value.pointer (some ⟨b50_, 0, none⟩))) (run_results1 rfl rfl) ⟨_, rfl, ?_⟩
  refine ⟨⟨Holds.rd H52_ 7 rfl, Holds.rd H52_ 6 rfl, Holds.ro_at H52_ 4 rfl⟩, ?_⟩
  refine A_ready (i := 4) (rs := []) (by kernel_rfl) ?_
  refine AllR.cons ?_ AllR.nil
  refine A_op (ls' := #[true, true, true, true, true, false]) rfl (by kernel_rfl) (T_callW (al := [(Value.pointer (some ⟨c15_, 0, none⟩)), (Value.pointer (some ⟨b50_, 0, none⟩))]) rfl rfl cb35 (Calls.into (n := 8) (al := [(Value.pointer (some ⟨c15_, 0, none⟩)), (Value.pointer (some ⟨b50_, 0, none⟩))]) Try.func35 rfl Try.ntmps35 rfl rfl ?_))
  refine C_seq (fun K55_ hK55_ => ?_)
  refine C_reg ?_
  refine S_list (T_val (v := (Value.bool false)) (x_assign rfl) ?_)
  refine wpList_nil ?_
  refine (X_then (hK55_ _ _ ?_))
  clear hK55_
  refine C_seq (fun K56_ hK56_ => ?_)
  refine C_reg ?_
  refine S_list (T_val (v := (Value.pointer (some ⟨c15_, 0, none⟩))) (x_move rfl) ?_)
  refine S_list (T_val (v := (Value.pointer (some ⟨b50_, 0, none⟩))) (x_move rfl) ?_)
  have H57_ : Holds w51_ (ro R :: cl c15_ 106 [(Value.int .i32 r), (Value.int .i32 0), K17_, (Value.nilIface), E18_] :: cl b50_ 123 [(Value.slice (some ⟨b34_, 0, none⟩) k.size cp35_), (Value.int .i64 cr), (Value.int .i64 md), (Value.int .i64 vr), (Value.slice (some ⟨b42_, 0, none⟩) x.size cp43_), (Value.int .i64 ls)] :: sl 5 1 (Value.slice (some ⟨b42_, 0, none⟩) x.size cp43_) x.size (bytesV (ints x)) :: sl 5 1 (Value.slice (some ⟨b34_, 0, none⟩) k.size cp35_) k.size (bytesV (ints k)) :: cl b28_ 33 [(Value.string k), (Value.string x), (Value.int .i64 cr), (Value.int .i64 md), (Value.int .i64 vr), (Value.int .i64 ls)] :: cl b7_ 33 [(Value.string k), (Value.string x), (Value.int .i64 cr), (Value.int .i64 md), (Value.int .i64 vr), (Value.int .i64 ls)] :: cl b2_ 31 [(Value.int .i64 0), (Value.int .i64 r), (Value.string key), (Value.string en), (Value.int .i64 n), (Value.string val), (Value.bool true)] :: F) := (Holds.bring (Holds.bring (Holds.bring H52_ 0 rfl) 5 rfl) 5 rfl)
  refine S_list (T_call (al := [(Value.pointer (some ⟨c15_, 0, none⟩)), (Value.pointer (some ⟨b50_, 0, none⟩))]) (pre := [cl c15_ 106 [(Value.int .i32 r), (Value.int .i32 0), K17_, (Value.nilIface), E18_], cl b50_ 123 [(Value.slice (some ⟨b34_, 0, none⟩) k.size cp35_), (Value.int .i64 cr), (Value.int .i64 md), (Value.int .i64 vr), (Value.slice (some ⟨b42_, 0, none⟩) x.size cp43_), (Value.int .i64 ls)]]) (F := sl 5 1 (Value.slice (some ⟨b42_, 0, none⟩) x.size cp43_) x.size (bytesV (ints x)) :: sl 5 1 (Value.slice (some ⟨b34_, 0, none⟩) k.size cp35_) k.size (bytesV (ints k)) :: cl b28_ 33 [(Value.string k), (Value.string x), (Value.int .i64 cr), (Value.int .i64 md), (Value.int .i64 vr), (Value.int .i64 ls)] :: cl b7_ 33 [(Value.string k), (Value.string x), (Value.int .i64 cr), (Value.int .i64 md), (Value.int .i64 vr), (Value.int .i64 ls)] :: cl b2_ 31 [(Value.int .i64 0), (Value.int .i64 r), (Value.string key), (Value.string en), (Value.int .i64 n), (Value.string val), (Value.bool true)] :: F) rfl rfl cb60 (kvCmp0t R c15_ b50_ 0 r K17_ E18_ (Value.slice (some ⟨b34_, 0, none⟩) k.size cp35_) (Value.slice (some ⟨b42_, 0, none⟩) x.size cp43_) .nilIface cr md vr ls 0 ByteArray.empty ByteArray.empty (by omega) (by omega)) H57_ ?_)
  rintro v61_ p62_ w58_ ⟨rfl, rfl⟩ S60_ H59_
  replace H59_ : Holds w58_ (ro R :: sl 5 1 (Value.slice (some ⟨b42_, 0, none⟩) x.size cp43_) x.size (bytesV (ints x)) :: sl 5 1 (Value.slice (some ⟨b34_, 0, none⟩) k.size cp35_) k.size (bytesV (ints k)) :: cl b28_ 33 [(Value.string k), (Value.string x), (Value.int .i64 cr), (Value.int .i64 md), (Value.int .i64 vr), (Value.int .i64 ls)] :: cl b7_ 33 [(Value.string k), (Value.string x), (Value.int .i64 cr), (Value.int .i64 md), (Value.int .i64 vr), (Value.int .i64 ls)] :: cl b2_ 31 [(Value.int .i64 0), (Value.int .i64 r), (Value.string key), (Value.string en), (Value.int .i64 n), (Value.string val), (Value.bool true)] :: F) := H59_
  have S63_ := Same.trans S54_ S60_
  refine S_list (T_val (v := (Value.bool (resOk r (ordI vr 0)))) (x_assign rfl) ?_)
  refine wpList_nil ?_
  refine (X_then (hK56_ _ _ ?_))
  clear hK56_
  refine C_ret ?_
  refine R_any (v := (Value.bool (resOk r (ordI vr 0)))) (run_results1 rfl rfl) ⟨_, rfl, ?_⟩
  refine ⟨⟨Holds.rd H59_ 5 rfl, Holds.rd H59_ 4 rfl, Holds.ro_at H59_ 0 rfl⟩, ?_⟩
  refine A_take 5 (ls' := #[true, true, true, true, true, true]) (v := (Value.bool (resOk r (ordI vr 0)))) rfl (by kernel_rfl) (by kernel_rfl) (by kernel_rfl) (by kernel_rfl) (fun _ _ _ h => h) (fun w hS => x_assign rfl) ⟨Holds.rd H59_ 5 rfl, Holds.rd H59_ 4 rfl, Holds.ro_at H59_ 0 rfl⟩ ?_
  refine A_done (by kernel_rfl) ?_
  refine (X_then (hK12_ _ _ ?_))
  clear hK12_
  refine C_ret ?_
  refine R_any (v := (Value.bool (resOk r (ordI vr 0)))) (run_results1 rfl rfl) ?_
  have H64_ : Holds w58_ (ro R :: F) := (Holds.erase (Holds.erase (Holds.erase (Holds.erase (Holds.erase (Holds.bring H59_ 0 rfl) 1) 1) 1) 1) 1)
  exact ⟨_, [], rfl, ⟨rfl, rfl⟩, S63_, H64_⟩

set_option maxHeartbeats 400000 in
theorem cmpKV0f (R : HP) (r : Int) (key en : ByteArray) (n : Int) (val : ByteArray) (k x : ByteArray) (cr md vr ls : Int) (h0 : 0 ≤ r) (h1 : r ≤ 3) :
    Tri Try.prog 15 #[(Value.agg #[(Value.int .i64 0), (Value.int .i64 r), (Value.string key), (Value.string en), (Value.int .i64 n), (Value.string val), (Value.bool false)]), (Value.agg #[(Value.string k), (Value.string x), (Value.int .i64 cr), (Value.int .i64 md), (Value.int .i64 vr), (Value.int .i64 ls)])] R [] (fun v post => v = .bool (resOk r (ordI vr n)) ∧ post = []) := by
  refine Tri.into (n := 10) (al := [(Value.agg #[(Value.int .i64 0), (Value.int .i64 r), (Value.string key), (Value.string en), (Value.int .i64 n), (Value.string val), (Value.bool false)]), (Value.agg #[(Value.string k), (Value.string x), (Value.int .i64 cr), (Value.int .i64 md), (Value.int .i64 vr), (Value.int .i64 ls)])]) Try.func15 rfl Try.ntmps15 rfl rfl fun w F H => ?_
  replace H : Holds w (ro R :: F) := H
  refine C_seq (fun K1_ hK1_ => ?_)
  refine C_reg ?_
  refine S_list (T_box (v := (Value.agg #[(Value.int .i64 0), (Value.int .i64 r), (Value.string key), (Value.string en), (Value.int .i64 n), (Value.string val), (Value.bool false)])) rfl H ?_)
  intro b2_ w3_ S5_ H4_
  replace H4_ : Holds w3_ (cl b2_ 31 [(Value.int .i64 0), (Value.int .i64 r), (Value.string key), (Value.string en), (Value.int .i64 n), (Value.string val), (Value.bool false)] :: ro R :: F) := H4_
  have S6_ := Same.trans (Same.refl w) S5_
  refine S_list (T_box (v := (Value.agg #[(Value.string k), (Value.string x), (Value.int .i64 cr), (Value.int .i64 md), (Value.int .i64 vr), (Value.int .i64 ls)])) rfl H4_ ?_)
  intro b7_ w8_ S10_ H9_
  replace H9_ : Holds w8_ (cl b7_ 33 [(Value.string k), (Value.string x), (Value.int .i64 cr), (Value.int .i64 md), (Value.int .i64 vr), (Value.int .i64 ls)] :: cl b2_ 31 [(Value.int .i64 0), (Value.int .i64 r), (Value.string key), (Value.string en), (Value.int .i64 n), (Value.string val), (Value.bool false)] :: ro R :: F) := H9_
  have S11_ := Same.trans S6_ S10_
  refine S_list (T_val (v := (Value.bool false)) (x_assign rfl) ?_)
  refine wpList_nil ?_
  refine (X_then (hK1_ _ _ ?_))
  clear hK1_
  refine C_seq (fun K12_ hK12_ => ?_)
  refine A_start (S := fun w => Rd b2_ [(Value.int .i64 0), (Value.int .i64 r), (Value.string key), (Value.string en), (Value.int .i64 n), (Value.string val), (Value.bool false)] w ∧ Rd b7_ [(Value.string k), (Value.string x), (Value.int .i64 cr), (Value.int .i64 md), (Value.int .i64 vr), (Value.int .i64 ls)] w ∧ Sub R (hp w)) (N := 6) foll rfl rfl ?_
  have H14_ : Holds w8_.drew (cl b7_ 33 [(Value.string k), (Value.string x), (Value.int .i64 cr), (Value.int .i64 md), (Value.int .i64 vr), (Value.int .i64 ls)] :: cl b2_ 31 [(Value.int .i64 0), (Value.int .i64 r), (Value.string key), (Value.string en), (Value.int .i64 n), (Value.string val), (Value.bool false)] :: ro R :: F) := H9_
  refine A_take 0 (ls' := #[true, false, false, false, false, false]) (v := (Value.agg #[(Value.int .i64 0), (Value.int .i64 r), (Value.string key), (Value.string en), (Value.int .i64 n), (Value.string val), (Value.bool false)])) rfl (by kernel_rfl) (by kernel_rfl) (by kernel_rfl) (by kernel_rfl) (fun _ _ _ h => h) (fun w hS => x_loadN (vs := [(Value.int .i64 0), (Value.int .i64 r), (Value.string key), (Value.string en), (Value.int .i64 n), (Value.string val), (Value.bool false)]) rfl Try.underlying31 rfl z31 rfl (Rd.cells hS.1 0 rfl)) ⟨Holds.rd H14_ 1 rfl, Holds.rd H14_ 0 rfl, Holds.ro_at H14_ 2 rfl⟩ ?_
  refine A_take 2 (ls' := #[true, false, true, false, false, false]) (v := (Value.agg #[(Value.string k), (Value.string x), (Value.int .i64 cr), (Value.int .i64 md), (Value.int .i64 vr), (Value.int .i64 ls)])) rfl (by kernel_rfl) (by kernel_rfl) (by kernel_rfl) (by kernel_rfl) (fun _ _ _ h => h) (fun w hS => x_loadN (vs := [(Value.string k), (Value.string x), (Value.int .i64 cr), (Value.int .i64 md), (Value.int .i64 vr), (Value.int .i64 ls)]) rfl Try.underlying33 rfl z33 rfl (Rd.cells hS.2.1 0 rfl)) ⟨Holds.rd H14_ 1 rfl, Holds.rd H14_ 0 rfl, Holds.ro_at H14_ 2 rfl⟩ ?_
  refine A_ready (i := 1) (rs := []) (by kernel_rfl) ?_
  refine AllR.cons ?_ AllR.nil
  have H20_ : Holds w8_.drew (ro R :: cl b7_ 33 [(Value.string k), (Value.string x), (Value.int .i64 cr), (Value.int .i64 md), (Value.int .i64 vr), (Value.int .i64 ls)] :: cl b2_ 31 [(Value.int .i64 0), (Value.int .i64 r), (Value.string key), (Value.string en), (Value.int .i64 n), (Value.string val), (Value.bool false)] :: F) := (Holds.bring H14_ 2 rfl)
  refine A_op (ls' := #[true, true, true, false, false, false]) rfl (by kernel_rfl) (T_call (al := [(Value.agg #[(Value.int .i64 0), (Value.int .i64 r), (Value.string key), (Value.string en), (Value.int .i64 n), (Value.string val), (Value.bool false)])]) (pre := []) (F := cl b7_ 33 [(Value.string k), (Value.string x), (Value.int .i64 cr), (Value.int .i64 md), (Value.int .i64 vr), (Value.int .i64 ls)] :: cl b2_ 31 [(Value.int .i64 0), (Value.int .i64 r), (Value.string key), (Value.string en), (Value.int .i64 n), (Value.string val), (Value.bool false)] :: F) rfl rfl cb36 (cmpIn0f R r key en n val (by omega) (by omega)) H20_ ?_)
  rintro v24_ p25_ w21_ ⟨c15_, u16_, K17_, E18_, rfl, rfl⟩ S23_ H22_
  replace H22_ : Holds w21_ (ro R :: cl c15_ 106 [(Value.int .i32 r), (Value.int .i32 0), K17_, (Value.iface 107 (Value.pointer (some ⟨u16_, 0, none⟩))), E18_] :: cl u16_ 109 [(Value.int .i64 n)] :: cl b7_ 33 [(Value.string k), (Value.string x), (Value.int .i64 cr), (Value.int .i64 md), (Value.int .i64 vr), (Value.int .i64 ls)] :: cl b2_ 31 [(Value.int .i64 0), (Value.int .i64 r), (Value.string key), (Value.string en), (Value.int .i64 n), (Value.string val), (Value.bool false)] :: F) := H22_
  have S26_ := Same.trans (Same.trans S11_ (Same.drew _)) S23_
  refine ⟨⟨Holds.rd H22_ 4 rfl, Holds.rd H22_ 3 rfl, Holds.ro_at H22_ 0 rfl⟩, ?_⟩
  refine A_ready (i := 3) (rs := []) (by kernel_rfl) ?_
  refine AllR.cons ?_ AllR.nil
  refine A_op (ls' := #[true, true, true, true, false, false]) rfl (by kernel_rfl) (T_callW (al := [(Value.agg #[(Value.string k), (Value.string x), (Value.int .i64 cr), (Value.int .i64 md), (Value.int .i64 vr), (Value.int .i64 ls)])]) rfl rfl cb37 (Calls.into (n := 19) (al := [(Value.agg #[(Value.string k), (Value.string x), (Value.int .i64 cr), (Value.int .i64 md), (Value.int .i64 vr), (Value.int .i64 ls)])]) Try.func37 rfl Try.ntmps37 rfl rfl ?_))
  refine C_seq (fun K27_ hK27_ => ?_)
  refine C_reg ?_
  refine S_list (T_box (v := (Value.agg #[(Value.string k), (Value.string x), (Value.int .i64 cr), (Value.int .i64 md), (Value.int .i64 vr), (Value.int .i64 ls)])) rfl H22_ ?_)
  intro b28_ w29_ S31_ H30_
  replace H30_ : Holds w29_ (cl b28_ 33 [(Value.string k), (Value.string x), (Value.int .i64 cr), (Value.int .i64 md), (Value.int .i64 vr), (Value.int .i64 ls)] :: ro R :: cl c15_ 106 [(Value.int .i32 r), (Value.int .i32 0), K17_, (Value.iface 107 (Value.pointer (some ⟨u16_, 0, none⟩))), E18_] :: cl u16_ 109 [(Value.int .i64 n)] :: cl b7_ 33 [(Value.string k), (Value.string x), (Value.int .i64 cr), (Value.int .i64 md), (Value.int .i64 vr), (Value.int .i64 ls)] :: cl b2_ 31 [(Value.int .i64 0), (Value.int .i64 r), (Value.string key), (Value.string en), (Value.int .i64 n), (Value.string val), (Value.bool false)] :: F) := H30_
  have S32_ := Same.trans S26_ S31_
  refine S_list (T_val (v := (Value.pointer none)) (x_assign rfl) ?_)
  refine wpList_nil ?_
  refine (X_then (hK27_ _ _ ?_))
  clear hK27_
  refine C_seq (fun K33_ hK33_ => ?_)
  refine C_reg ?_
  refine S_list (T_val (v := (Value.pointer (some ⟨b28_, 0, none⟩))) (by kernel_rfl) ?_)
  refine S_list (T_val (v := (Value.string k)) (x_load1 rfl Try.underlying9 rfl ((Holds.rd H30_ 0 rfl) 0 (Value.string k) rfl)) ?_)
  refine S_list (T_s2b rfl Try.underlying9 Try.underlying25 Try.underlying5 H30_ ?_)
  intro b34_ cp35_ w36_ S38_ hc39_ H37_
  have S40_ := Same.trans S32_ S38_
  have H41_ : Holds w36_ (sl 5 1 (Value.slice (some ⟨b34_, 0, none⟩) k.size cp35_) k.size (bytesV (ints k)) :: cl b28_ 33 [(Value.string k), (Value.string x), (Value.int .i64 cr), (Value.int .i64 md), (Value.int .i64 vr), (Value.int .i64 ls)] :: ro R :: cl c15_ 106 [(Value.int .i32 r), (Value.int .i32 0), K17_, (Value.iface 107 (Value.pointer (some ⟨u16_, 0, none⟩))), E18_] :: cl u16_ 109 [(Value.int .i64 n)] :: cl b7_ 33 [(Value.string k), (Value.string x), (Value.int .i64 cr), (Value.int .i64 md), (Value.int .i64 vr), (Value.int .i64 ls)] :: cl b2_ 31 [(Value.int .i64 0), (Value.int .i64 r), (Value.string key), (Value.string en), (Value.int .i64 n), (Value.string val), (Value.bool false)] :: F) := cast2 (P := fun (c__ : List Value) (k__ : Nat) => Holds w36_ (sl 5 1 (Value.slice (some ⟨b34_, 0, none⟩) k.size cp35_) k__ c__ :: cl b28_ 33 [(Value.string k), (Value.string x), (Value.int .i64 cr), (Value.int .i64 md), (Value.int .i64 vr), (Value.int .i64 ls)] :: ro R :: cl c15_ 106 [(Value.int .i32 r), (Value.int .i32 0), K17_, (Value.iface 107 (Value.pointer (some ⟨u16_, 0, none⟩))), E18_] :: cl u16_ 109 [(Value.int .i64 n)] :: cl b7_ 33 [(Value.string k), (Value.string x), (Value.int .i64 cr), (Value.int .i64 md), (Value.int .i64 vr), (Value.int .i64 ls)] :: cl b2_ 31 [(Value.int .i64 0), (Value.int .i64 r), (Value.string key), (Value.string en), (Value.int .i64 n), (Value.string val), (Value.bool false)] :: F)) (byteCells_bytesV _ : byteCells k = bytesV (ints k)) (rfl : k.size = k.size) H37_
  refine S_list (T_val (v := (Value.pointer (some ⟨b28_, 1, none⟩))) (by kernel_rfl) ?_)
  refine S_list (T_val (v := (Value.string x)) (x_load1 rfl Try.underlying9 rfl ((Holds.rd H41_ 1 rfl) 1 (Value.string x) rfl)) ?_)
  refine S_list (T_s2b rfl Try.underlying9 Try.underlying25 Try.underlying5 H41_ ?_)
  intro b42_ cp43_ w44_ S46_ hc47_ H45_
  have S48_ := Same.trans S40_ S46_
  have H49_ : Holds w44_ (sl 5 1 (Value.slice (some ⟨b42_, 0, none⟩) x.size cp43_) x.size (bytesV (ints x)) :: sl 5 1 (Value.slice (some ⟨b34_, 0, none⟩) k.size cp35_) k.size (bytesV (ints k)) :: cl b28_ 33 [(Value.string k), (Value.string x), (Value.int .i64 cr), (Value.int .i64 md), (Value.int .i64 vr), (Value.int .i64 ls)] :: ro R :: cl c15_ 106 [(Value.int .i32 r), (Value.int .i32 0), K17_, (Value.iface 107 (Value.pointer (some ⟨u16_, 0, none⟩))), E18_] :: cl u16_ 109 [(Value.int .i64 n)] :: cl b7_ 33 [(Value.string k), (Value.string x), (Value.int .i64 cr), (Value.int .i64 md), (Value.int .i64 vr), (Value.int .i64 ls)] :: cl b2_ 31 [(Value.int .i64 0), (Value.int .i64 r), (Value.string key), (Value.string en), (Value.int .i64 n), (Value.string val), (Value.bool false)] :: F) := cast2 (P := fun (c__ : List Value) (k__ : Nat) => Holds w44_ (sl 5 1 (Value.slice (some ⟨b42_, 0, none⟩) x.size cp43_) k__ c__ :: sl 5 1 (Value.slice (some ⟨b34_, 0, none⟩) k.size cp35_) k.size (bytesV (ints k)) :: cl b28_ 33 [(Value.string k), (Value.string x), (Value.int .i64 cr), (Value.int .i64 md), (Value.int .i64 vr), (Value.int .i64 ls)] :: ro R :: cl c15_ 106 [(Value.int .i32 r), (Value.int .i32 0), K17_, (Value.iface 107 (Value.pointer (some ⟨u16_, 0, none⟩))), E18_] :: cl u16_ 109 [(Value.int .i64 n)] :: cl b7_ 33 [(Value.string k), (Value.string x), (Value.int .i64 cr), (Value.int .i64 md), (Value.int .i64 vr), (Value.int .i64 ls)] :: cl b2_ 31 [(Value.int .i64 0), (Value.int .i64 r), (Value.string key), (Value.string en), (Value.int .i64 n), (Value.string val), (Value.bool false)] :: F)) (byteCells_bytesV _ : byteCells x = bytesV (ints x)) (rfl : x.size = x.size) H45_
  refine S_list (T_val (v := (Value.pointer (some ⟨b28_, 2, none⟩))) (by kernel_rfl) ?_)
  refine S_list (T_val (v := (Value.int .i64 cr)) (x_load1 rfl Try.underlying2 rfl ((Holds.rd H49_ 2 rfl) 2 (Value.int .i64 cr) rfl)) ?_)
  refine S_list (T_val (v := (Value.pointer (some ⟨b28_, 3, none⟩))) (by kernel_rfl) ?_)
  refine S_list (T_val (v := (Value.int .i64 md)) (x_load1 rfl Try.underlying2 rfl ((Holds.rd H49_ 2 rfl) 3 (Value.int .i64 md) rfl)) ?_)
  refine S_list (T_val (v := (Value.pointer (some ⟨b28_, 4, none⟩))) (by kernel_rfl) ?_)
  refine S_list (T_val (v := (Value.int .i64 vr)) (x_load1 rfl Try.underlying2 rfl ((Holds.rd H49_ 2 rfl) 4 (Value.int .i64 vr) rfl)) ?_)
  refine S_list (T_val (v := (Value.pointer (some ⟨b28_, 5, none⟩))) (by kernel_rfl) ?_)
  refine S_list (T_val (v := (Value.int .i64 ls)) (x_load1 rfl Try.underlying2 rfl ((Holds.rd H49_ 2 rfl) 5 (Value.int .i64 ls) rfl)) ?_)
  refine S_list (T_val (v := (Value.agg #[(Value.slice (some ⟨b34_, 0, none⟩) k.size cp35_), (Value.int .i64 cr), (Value.int .i64 md), (Value.int .i64 vr), (Value.slice (some ⟨b42_, 0, none⟩) x.size cp43_), (Value.int .i64 ls)])) (by kernel_rfl) ?_)
  refine S_list (T_box (v := (Value.agg #[(Value.slice (some ⟨b34_, 0, none⟩) k.size cp35_), (Value.int .i64 cr), (Value.int .i64 md), (Value.int .i64 vr), (Value.slice (some ⟨b42_, 0, none⟩) x.size cp43_), (Value.int .i64 ls)])) rfl H49_ ?_)
  intro b50_ w51_ S53_ H52_
  replace H52_ : Holds w51_ (cl b50_ 123 [(Value.slice (some ⟨b34_, 0, none⟩) k.size cp35_), (Value.int .i64 cr), (Value.int .i64 md), (Value.int .i64 vr), (Value.slice (some ⟨b42_, 0, none⟩) x.size cp43_), (Value.int .i64 ls)] :: sl 5 1 (Value.slice (some ⟨b42_, 0, none⟩) x.size cp43_) x.size (bytesV (ints x)) :: sl 5 1 (Value.slice (some ⟨b34_, 0, none⟩) k.size cp35_) k.size (bytesV (ints k)) :: cl b28_ 33 [(Value.string k), (Value.string x), (Value.int .i64 cr), (Value.int .i64 md), (Value.int .i64 vr), (Value.int .i64 ls)] :: ro R :: cl c15_ 106 [(Value.int .i32 r), (Value.int .i32 0), K17_, (Value.iface 107 (Value.pointer (some ⟨u16_, 0, none⟩))), E18_] :: cl u16_ 109 [(Value.int .i64 n)] :: cl b7_ 33 [(Value.string k), (Value.string x), (Value.int .i64 cr), (Value.int .i64 md), (Value.int .i64 vr), (Value.int .i64 ls)] :: cl b2_ 31 [(Value.int .i64 0), (Value.int .i64 r), (Value.string key), (Value.string en), (Value.int .i64 n), (Value.string val), (Value.bool false)] :: F) := H52_
  have S54_ := Same.trans S48_ S53_
  refine S_list (T_val (v := (Value.pointer (some ⟨b50_, 0, none⟩))) (x_assign rfl) ?_)
  refine wpList_nil ?_
  refine (X_then (hK33_ _ _ ?_))
  clear hK33_
  refine C_ret ?_
  refine R_any (v := (Value.pointer (some ⟨b50_, 0, none⟩))) (run_results1 rfl rfl) ⟨_, rfl, ?_⟩
  refine ⟨⟨Holds.rd H52_ 8 rfl, Holds.rd H52_ 7 rfl, Holds.ro_at H52_ 4 rfl⟩, ?_⟩
  refine A_ready (i := 4) (rs := []) (by kernel_rfl) ?_
  refine AllR.cons ?_ AllR.nil
  refine A_op (ls' := #[true, true, true, true, true, false]) rfl (by kernel_rfl) (T_callW (al := [(Value.pointer (some ⟨c15_, 0, none⟩)), (Value.pointer (some ⟨b50_, 0, none⟩))]) rfl rfl cb35 (Calls.into (n := 8) (al := [(Value.pointer (some ⟨c15_, 0, none⟩)), (Value.pointer (some ⟨b50_, 0, none⟩))]) Try.func35 rfl Try.ntmps35 rfl rfl ?_))
  refine C_seq (fun K55_ hK55_ => ?_)
  refine C_reg ?_
  refine S_list (T_val (v := (Value.bool false)) (x_assign rfl) ?_)
  refine wpList_nil ?_
  refine (X_then (hK55_ _ _ ?_))
  clear hK55_
  refine C_seq (fun K56_ hK56_ => ?_)
  refine C_reg ?_
  refine S_list (T_val (v := (Value.pointer (some ⟨c15_, 0, none⟩))) (x_move rfl) ?_)
  refine S_list (T_val (v := (Value.pointer (some ⟨b50_, 0, none⟩))) (x_move rfl) ?_)
  have H57_ : Holds w51_ (ro R :: cl c15_ 106 [(Value.int .i32 r), (Value.int .i32 0), K17_, (Value.iface 107 (Value.pointer (some ⟨u16_, 0, none⟩))), E18_] :: cl b50_ 123 [(Value.slice (some ⟨b34_, 0, none⟩) k.size cp35_), (Value.int .i64 cr), (Value.int .i64 md), (Value.int .i64 vr), (Value.slice (some ⟨b42_, 0, none⟩) x.size cp43_), (Value.int .i64 ls)] :: cl u16_ 109 [(Value.int .i64 n)] :: sl 5 1 (Value.slice (some ⟨b42_, 0, none⟩) x.size cp43_) x.size (bytesV (ints x)) :: sl 5 1 (Value.slice (some ⟨b34_, 0, none⟩) k.size cp35_) k.size (bytesV (ints k)) :: cl b28_ 33 [(Value.string k), (Value.string x), (Value.int .i64 cr), (Value.int .i64 md), (Value.int .i64 vr), (Value.int .i64 ls)] :: cl b7_ 33 [(Value.string k), (Value.string x), (Value.int .i64 cr), (Value.int .i64 md), (Value.int .i64 vr), (Value.int .i64 ls)] :: cl b2_ 31 [(Value.int .i64 0), (Value.int .i64 r), (Value.string key), (Value.string en), (Value.int .i64 n), (Value.string val), (Value.bool false)] :: F) := (Holds.bring (Holds.bring (Holds.bring (Holds.bring H52_ 6 rfl) 1 rfl) 6 rfl) 6 rfl)
  refine S_list (T_call (al := [(Value.pointer (some ⟨c15_, 0, none⟩)), (Value.pointer (some ⟨b50_, 0, none⟩))]) (pre := [cl c15_ 106 [(Value.int .i32 r), (Value.int .i32 0), K17_, (Value.iface 107 (Value.pointer (some ⟨u16_, 0, none⟩))), E18_], cl b50_ 123 [(Value.slice (some ⟨b34_, 0, none⟩) k.size cp35_), (Value.int .i64 cr), (Value.int .i64 md), (Value.int .i64 vr), (Value.slice (some ⟨b42_, 0, none⟩) x.size cp43_), (Value.int .i64 ls)], cl u16_ 109 [(Value.int .i64 n)]]) (F := sl 5 1 (Value.slice (some ⟨b42_, 0, none⟩) x.size cp43_) x.size (bytesV (ints x)) :: sl 5 1 (Value.slice (some ⟨b34_, 0, none⟩) k.size cp35_) k.size (bytesV (ints k)) :: cl b28_ 33 [(Value.string k), (Value.string x), (Value.int .i64 cr), (Value.int .i64 md), (Value.int .i64 vr), (Value.int .i64 ls)] :: cl b7_ 33 [(Value.string k), (Value.string x), (Value.int .i64 cr), (Value.int .i64 md), (Value.int .i64 vr), (Value.int .i64 ls)] :: cl b2_ 31 [(Value.int .i64 0), (Value.int .i64 r), (Value.string key), (Value.string en), (Value.int .i64 n), (Value.string val), (Value.bool false)] :: F) rfl rfl cb60 (kvCmp0f R c15_ b50_ u16_ r K17_ E18_ (Value.slice (some ⟨b34_, 0, none⟩) k.size cp35_) (Value.slice (some ⟨b42_, 0, none⟩) x.size cp43_) .nilIface cr md vr ls n ByteArray.empty ByteArray.empty (by omega) (by omega)) H57_ ?_)
  rintro v61_ p62_ w58_ ⟨rfl, rfl⟩ S60_ H59_
  replace H59_ : Holds w58_ (ro R :: sl 5 1 (Value.slice (some ⟨b42_, 0, none⟩) x.size cp43_) x.size (bytesV (ints x)) :: sl 5 1 (Value.slice (some ⟨b34_, 0, none⟩) k.size cp35_) k.size (bytesV (ints k)) :: cl b28_ 33 [(Value.string k), (Value.string x), (Value.int .i64 cr), (Value.int .i64 md), (Value.int .i64 vr), (Value.int .i64 ls)] :: cl b7_ 33 [(Value.string k), (Value.string x), (Value.int .i64 cr), (Value.int .i64 md), (Value.int .i64 vr), (Value.int .i64 ls)] :: cl b2_ 31 [(Value.int .i64 0), (Value.int .i64 r), (Value.string key), (Value.string en), (Value.int .i64 n), (Value.string val), (Value.bool false)] :: F) := H59_
  have S63_ := Same.trans S54_ S60_
  refine S_list (T_val (v := (Value.bool (resOk r (ordI vr n)))) (x_assign rfl) ?_)
  refine wpList_nil ?_
  refine (X_then (hK56_ _ _ ?_))
  clear hK56_
  refine C_ret ?_
  refine R_any (v := (Value.bool (resOk r (ordI vr n)))) (run_results1 rfl rfl) ⟨_, rfl, ?_⟩
  refine ⟨⟨Holds.rd H59_ 5 rfl, Holds.rd H59_ 4 rfl, Holds.ro_at H59_ 0 rfl⟩, ?_⟩
  refine A_take 5 (ls' := #[true, true, true, true, true, true]) (v := (Value.bool (resOk r (ordI vr n)))) rfl (by kernel_rfl) (by kernel_rfl) (by kernel_rfl) (by kernel_rfl) (fun _ _ _ h => h) (fun w hS => x_assign rfl) ⟨Holds.rd H59_ 5 rfl, Holds.rd H59_ 4 rfl, Holds.ro_at H59_ 0 rfl⟩ ?_
  refine A_done (by kernel_rfl) ?_
  refine (X_then (hK12_ _ _ ?_))
  clear hK12_
  refine C_ret ?_
  refine R_any (v := (Value.bool (resOk r (ordI vr n)))) (run_results1 rfl rfl) ?_
  have H64_ : Holds w58_ (ro R :: F) := (Holds.erase (Holds.erase (Holds.erase (Holds.erase (Holds.erase (Holds.bring H59_ 0 rfl) 1) 1) 1) 1) 1)
  exact ⟨_, [], rfl, ⟨rfl, rfl⟩, S63_, H64_⟩

set_option maxHeartbeats 400000 in
theorem cmpKV1t (R : HP) (r : Int) (key en : ByteArray) (n : Int) (val : ByteArray) (k x : ByteArray) (cr md vr ls : Int) (h0 : 0 ≤ r) (h1 : r ≤ 3) :
    Tri Try.prog 15 #[(Value.agg #[(Value.int .i64 1), (Value.int .i64 r), (Value.string key), (Value.string en), (Value.int .i64 n), (Value.string val), (Value.bool true)]), (Value.agg #[(Value.string k), (Value.string x), (Value.int .i64 cr), (Value.int .i64 md), (Value.int .i64 vr), (Value.int .i64 ls)])] R [] (fun v post => v = .bool (resOk r (ordI cr 0)) ∧ post = []) := by
  refine Tri.into (n := 10) (al := [(Value.agg #[(Value.int .i64 1), (Value.int .i64 r), (Value.string key), (Value.string en), (Value.int .i64 n), (Value.string val), (Value.bool true)]), (Value.agg #[(Value.string k), (Value.string x), (Value.int .i64 cr), (Value.int .i64 md), (Value.int .i64 vr), (Value.int .i64 ls)])]) Try.func15 rfl Try.ntmps15 rfl rfl fun w F H => ?_
  replace H : Holds w (ro R :: F) := H
  refine C_seq (fun K1_ hK1_ => ?_)
  refine C_reg ?_
  refine S_list (T_box (v := (Value.agg #[(Value.int .i64 1), (Value.int .i64 r), (Value.string key), (Value.string en), (Value.int .i64 n), (Value.string val), (Value.bool true)])) rfl H ?_)
  intro b2_ w3_ S5_ H4_
  replace H4_ : Holds w3_ (cl b2_ 31 [(Value.int .i64 1), (Value.int .i64 r), (Value.string key), (Value.string en), (Value.int .i64 n), (Value.string val), (Value.bool true)] :: ro R :: F) := H4_
  have S6_ := Same.trans (Same.refl w) S5_
  refine S_list (T_box (v := (Value.agg #[(Value.string k), (Value.string x), (Value.int .i64 cr), (Value.int .i64 md), (Value.int .i64 vr), (Value.int .i64 ls)])) rfl H4_ ?_)
  intro b7_ w8_ S10_ H9_
  replace H9_ : Holds w8_ (cl b7_ 33 [(Value.string k), (Value.string x), (Value.int .i64 cr), (Value.int .i64 md), (Value.int .i64 vr), (Value.int .i64 ls)] :: cl b2_ 31 [(Value.int .i64 1), (Value.int .i64 r), (Value.string key), (Value.string en), (Value.int .i64 n), (Value.string val), (Value.bool true)] :: ro R :: F) := H9_
  have S11_ := Same.trans S6_ S10_
  refine S_list (T_val (v := (Value.bool false)) (x_assign rfl) ?_)
  refine wpList_nil ?_
  refine (X_then (hK1_ _ _ ?_))
  clear hK1_
  refine C_seq (fun K12_ hK12_ => ?_)
  refine A_start (S := fun w => Rd b2_ [(Value.int .i64 1), (Value.int .i64 r), (Value.string key), (Value.string en), (Value.int .i64 n), (Value.string val), (Value.bool true)] w ∧ Rd b7_ [(Value.string k), (Value.string x), (Value.int .i64 cr), (Value.int .i64 md), (Value.int .i64 vr), (Value.int .i64 ls)] w ∧ Sub R (hp w)) (N := 6) foll rfl rfl ?_
  have H14_ : Holds w8_.drew (cl b7_ 33 [(Value.string k), (Value.string x), (Value.int .i64 cr), (Value.int .i64 md), (Value.int .i64 vr), (Value.int .i64 ls)] :: cl b2_ 31 [(Value.int .i64 1), (Value.int .i64 r), (Value.string key), (Value.string en), (Value.int .i64 n), (Value.string val), (Value.bool true)] :: ro R :: F) := H9_
  refine A_take 0 (ls' := #[true, false, false, false, false, false]) (v := (Value.agg #[(Value.int .i64 1), (Value.int .i64 r), (Value.string key), (Value.string en), (Value.int .i64 n), (Value.string val), (Value.bool true)])) rfl (by kernel_rfl) (by kernel_rfl) (by kernel_rfl) (by kernel_rfl) (fun _ _ _ h => h) (fun w hS => x_loadN (vs := [(Value.int .i64 1), (Value.int .i64 r), (Value.string key), (Value.string en), (Value.int .i64 n), (Value.string val), (Value.bool true)]) rfl Try.underlying31 rfl z31 rfl (Rd.cells hS.1 0 rfl)) ⟨Holds.rd H14_ 1 rfl, Holds.rd H14_ 0 rfl, Holds.ro_at H14_ 2 rfl⟩ ?_
  refine A_take 2 (ls' := #[true, false, true, false, false, false]) (v := (Value.agg #[(Value.string k), (Value.string x), (Value.int .i64 cr), (Value.int .i64 md), (Value.int .i64 vr), (Value.int .i64 ls)])) rfl (by kernel_rfl) (by kernel_rfl) (by kernel_rfl) (by kernel_rfl) (fun _ _ _ h => h) (fun w hS => x_loadN (vs := [(Value.string k), (Value.string x), (Value.int .i64 cr), (Value.int .i64 md), (Value.int .i64 vr), (Value.int .i64 ls)]) rfl Try.underlying33 rfl z33 rfl (Rd.cells hS.2.1 0 rfl)) ⟨Holds.rd H14_ 1 rfl, Holds.rd H14_ 0 rfl, Holds.ro_at H14_ 2 rfl⟩ ?_
  refine A_ready (i := 1) (rs := []) (by kernel_rfl) ?_
  refine AllR.cons ?_ AllR.nil
  have H20_ : Holds w8_.drew (ro R :: cl b7_ 33 [(Value.string k), (Value.string x), (Value.int .i64 cr), (Value.int .i64 md), (Value.int .i64 vr), (Value.int .i64 ls)] :: cl b2_ 31 [(Value.int .i64 1), (Value.int .i64 r), (Value.string key), (Value.string en), (Value.int .i64 n), (Value.string val), (Value.bool true)] :: F) := (Holds.bring H14_ 2 rfl)
  refine A_op (ls' := #[true, true, true, false, false, false]) rfl (by kernel_rfl) (T_call (al := [(Value.agg #[(Value.int .i64 1), (Value.int .i64 r), (Value.string key), (Value.string en), (Value.int .i64 n), (Value.string val), (Value.bool true)])]) (pre := []) (F := cl b7_ 33 [(Value.string k), (Value.string x), (Value.int .i64 cr), (Value.int .i64 md), (Value.int .i64 vr), (Value.int .i64 ls)] :: cl b2_ 31 [(Value.int .i64 1), (Value.int .i64 r), (Value.string key), (Value.string en), (Value.int .i64 n), (Value.string val), (Value.bool true)] :: F) rfl rfl cb36 (cmpIn1t R r key en n val (by omega) (by omega)) H20_ ?_)
  rintro v24_ p25_ w21_ ⟨c15_, K17_, E18_, rfl, rfl⟩ S23_ H22_
  replace H22_ : Holds w21_ (ro R :: cl c15_ 106 [(Value.int .i32 r), (Value.int .i32 1), K17_, (Value.nilIface), E18_] :: cl b7_ 33 [(Value.string k), (Value.string x), (Value.int .i64 cr), (Value.int .i64 md), (Value.int .i64 vr), (Value.int .i64 ls)] :: cl b2_ 31 [(Value.int .i64 1), (Value.int .i64 r), (Value.string key), (Value.string en), (Value.int .i64 n), (Value.string val), (Value.bool true)] :: F) := H22_
  have S26_ := Same.trans (Same.trans S11_ (Same.drew _)) S23_
  refine ⟨⟨Holds.rd H22_ 3 rfl, Holds.rd H22_ 2 rfl, Holds.ro_at H22_ 0 rfl⟩, ?_⟩
  refine A_ready (i := 3) (rs := []) (by kernel_rfl) ?_
  refine AllR.cons ?_ AllR.nil
  refine A_op (ls' := #[true, true, true, true, false, false]) rfl (by kernel_rfl) (T_callW (al := [(Value.agg #[(Value.string k), (Value.string x), (Value.int .i64 cr), (Value.int .i64 md), (Value.int .i64 vr), (Value.int .i64 ls)])]) rfl rfl cb37 (Calls.into (n := 19) (al := [(Value.agg #[(Value.string k), (Value.string x), (Value.int .i64 cr), (Value.int .i64 md), (Value.int .i64 vr), (Value.int .i64 ls)])]) Try.func37 rfl Try.ntmps37 rfl rfl ?_))
  refine C_seq (fun K27_ hK27_ => ?_)
  refine C_reg ?_
  refine S_list (T_box (v := (Value.agg #[(Value.string k), (Value.string x), (Value.int .i64 cr), (Value.int .i64 md), (Value.int .i64 vr), (Value.int .i64 ls)])) rfl H22_ ?_)
  intro b28_ w29_ S31_ H30_
  replace H30_ : Holds w29_ (cl b28_ 33 [(Value.string k), (Value.string x), (Value.int .i64 cr), (Value.int .i64 md), (Value.int .i64 vr), (Value.int .i64 ls)] :: ro R :: cl c15_ 106 [(Value.int .i32 r), (Value.int .i32 1), K17_, (Value.nilIface), E18_] :: cl b7_ 33 [(Value.string k), (Value.string x), (Value.int .i64 cr), (Value.int .i64 md), (Value.int .i64 vr), (Value.int .i64 ls)] :: cl b2_ 31 [(Value.int .i64 1), (Value.int .i64 r), (Value.string key), (Value.string en), (Value.int .i64 n), (Value.string val), (Value.bool true)] :: F) := H30_
  have S32_ := Same.trans S26_ S31_
  refine S_list (T_val (v := (Value.pointer none)) (x_assign rfl) ?_)
  refine wpList_nil ?_
  refine (X_then (hK27_ _ _ ?_))
  clear hK27_
  refine C_seq (fun K33_ hK33_ => ?_)
  refine C_reg ?_
  refine S_list (T_val (v := (Value.pointer (some ⟨b28_, 0, none⟩))) (by kernel_rfl) ?_)
  refine S_list (T_val (v := (Value.string k)) (x_load1 rfl Try.underlying9 rfl ((Holds.rd H30_ 0 rfl) 0 (Value.string k) rfl)) ?_)
  refine S_list (T_s2b rfl Try.underlying9 Try.underlying25 Try.underlying5 H30_ ?_)
  intro b34_ cp35_ w36_ S38_ hc39_ H37_
  have S40_ := Same.trans S32_ S38_
  have H41_ : Holds w36_ (sl 5 1 (Value.slice (some ⟨b34_, 0, none⟩) k.size cp35_) k.size (bytesV (ints k)) :: cl b28_ 33 [(Value.string k), (Value.string x), (Value.int .i64 cr), (Value.int .i64 md), (Value.int .i64 vr), (Value.int .i64 ls)] :: ro R :: cl c15_ 106 [(Value.int .i32 r), (Value.int .i32 1), K17_, (Value.nilIface), E18_] :: cl b7_ 33 [(Value.string k), (Value.string x), (Value.int .i64 cr), (Value.int .i64 md), (Value.int .i64 vr), (Value.int .i64 ls)] :: cl b2_ 31 [(Value.int .i64 1), (Value.int .i64 r), (Value.string key), (Value.string en), (Value.int .i64 n), (Value.string val), (Value.bool true)] :: F) := cast2 (P := fun (c__ : List Value) (k__ : Nat) => Holds w36_ (sl 5 1 (Value.slice (some ⟨b34_, 0, none⟩) k.size cp35_) k__ c__ :: cl b28_ 33 [(Value.string k), (Value.string x), (Value.int .i64 cr), (Value.int .i64 md), (Value.int .i64 vr), (Value.int .i64 ls)] :: ro R :: cl c15_ 106 [(Value.int .i32 r), (Value.int .i32 1), K17_, (Value.nilIface), E18_] :: cl b7_ 33 [(Value.string k), (Value.string x), (Value.int .i64 cr), (Value.int .i64 md), (Value.int .i64 vr), (Value.int .i64 ls)] :: cl b2_ 31 [(Value.int .i64 1), (Value.int .i64 r), (Value.string key), (Value.string en), (Value.int .i64 n), (Value.string val), (Value.bool true)] :: F)) (byteCells_bytesV _ : byteCells k = bytesV (ints k)) (rfl : k.size = k.size) H37_
  refine S_list (T_val (v := (Value.pointer (some ⟨b28_, 1, none⟩))) (by kernel_rfl) ?_)
  refine S_list (T_val (v := (Value.string x)) (x_load1 rfl Try.underlying9 rfl ((Holds.rd H41_ 1 rfl) 1 (Value.string x) rfl)) ?_)
  refine S_list (T_s2b rfl Try.underlying9 Try.underlying25 Try.underlying5 H41_ ?_)
  intro b42_ cp43_ w44_ S46_ hc47_ H45_
  have S48_ := Same.trans S40_ S46_
  have H49_ : Holds w44_ (sl 5 1 (Value.slice (some ⟨b42_, 0, none⟩) x.size cp43_) x.size (bytesV (ints x)) :: sl 5 1 (Value.slice (some ⟨b34_, 0, none⟩) k.size cp35_) k.size (bytesV (ints k)) :: cl b28_ 33 [(Value.string k), (Value.string x), (Value.int .i64 cr), (Value.int .i64 md), (Value.int .i64 vr), (Value.int .i64 ls)] :: ro R :: cl c15_ 106 [(Value.int .i32 r), (Value.int .i32 1), K17_, (Value.nilIface), E18_] :: cl b7_ 33 [(Value.string k), (Value.string x), (Value.int .i64 cr), (Value.int .i64 md), (Value.int .i64 vr), (Value.int .i64 ls)] :: cl b2_ 31 [(Value.int .i64 1), (Value.int .i64 r), (Value.string key), (Value.string en), (Value.int .i64 n), (Value.string val), (Value.bool true)] :: F) := cast2 (P := fun (c__ : List Value) (k__ : Nat) => Holds w44_ (sl 5 1 (Value.slice (some ⟨b42_, 0, none⟩) x.size cp43_) k__ c__ :: sl 5 1 (Value.slice (some ⟨b34_, 0, none⟩) k.size cp35_) k.size (bytesV (ints k)) :: cl b28_ 33 [(Value.string k), (Value.string x), (Value.int .i64 cr), (Value.int .i64 md), (Value.int .i64 vr), (Value.int .i64 ls)] :: ro R :: cl c15_ 106 [(Value.int .i32 r), (Value.int .i32 1), K17_, (Value.nilIface), E18_] :: cl b7_ 33 [(Value.string k), (Value.string x), (Value.int .i64 cr), (Value.int .i64 md), (Value.int .i64 vr), (Value.int .i64 ls)] :: cl b2_ 31 [(Value.int .i64 1), (Value.int .i64 r), (Value.string key), (Value.string en), (Value.int .i64 n), (Value.string val), (Value.bool true)] :: F)) (byteCells_bytesV _ : byteCells x = bytesV (ints x)) (rfl : x.size = x.size) H45_
  refine S_list (T_val (v := (Value.pointer (some ⟨b28_, 2, none⟩))) (by kernel_rfl) ?_)
  refine S_list (T_val (v := (Value.int .i64 cr)) (x_load1 rfl Try.underlying2 rfl ((Holds.rd H49_ 2 rfl) 2 (Value.int .i64 cr) rfl)) ?_)
  refine S_list (T_val (v := (Value.pointer (some ⟨b28_, 3, none⟩))) (by kernel_rfl) ?_)
  refine S_list (T_val (v := (Value.int .i64 md)) (x_load1 rfl Try.underlying2 rfl ((Holds.rd H49_ 2 rfl) 3 (Value.int .i64 md) rfl)) ?_)
  refine S_list (T_val (v := (Value.pointer (some ⟨b28_, 4, none⟩))) (by kernel_rfl) ?_)
  refine S_list (T_val (v := (Value.int .i64 vr)) (x_load1 rfl Try.underlying2 rfl ((Holds.rd H49_ 2 rfl) 4 (Value.int .i64 vr) rfl)) ?_)
  refine S_list (T_val (v := (Value.pointer (some ⟨b28_, 5, none⟩))) (by kernel_rfl) ?_)
  refine S_list (T_val (v := (Value.int .i64 ls)) (x_load1 rfl Try.underlying2 rfl ((Holds.rd H49_ 2 rfl) 5 (Value.int .i64 ls) rfl)) ?_)
  refine S_list (T_val (v := (Value.agg #[(Value.slice (some ⟨b34_, 0, none⟩) k.size cp35_), (Value.int .i64 cr), (Value.int .i64 md), (Value.int .i64 vr), (Value.slice (some ⟨b42_, 0, none⟩) x.size cp43_), (Value.int .i64 ls)])) (by kernel_rfl) ?_)
  refine S_list (T_box (v := (Value.agg #[(Value.slice (some ⟨b34_, 0, none⟩) k.size cp35_), (Value.int .i64 cr), (Value.int .i64 md), (Value.int .i64 vr), (Value.slice (some ⟨b42_, 0, none⟩) x.size cp43_), (Value.int .i64 ls)])) rfl H49_ ?_)
  intro b50_ w51_ S53_ H52_
  replace H52_ : Holds w51_ (cl b50_ 123 [(Value.slice (some ⟨b34_, 0, none⟩) k.size cp35_), (Value.int .i64 cr), (Value.int .i64 md), (Value.int .i64 vr), (Value.slice (some ⟨b42_, 0, none⟩) x.size cp43_), (Value.int .i64 ls)] :: sl 5 1 (Value.slice (some ⟨b42_, 0, none⟩) x.size cp43_) x.size (bytesV (ints x)) :: sl 5 1 (Value.slice (some ⟨b34_, 0, none⟩) k.size cp35_) k.size (bytesV (ints k)) :: cl b28_ 33 [(Value.string k), (Value.string x), (Value.int .i64 cr), (Value.int .i64 md), (Value.int .i64 vr), (Value.int .i64 ls)] :: ro R :: cl c15_ 106 [(Value.int .i32 r), (Value.int .i32 1), K17_, (Value.nilIface), E18_] :: cl b7_ 33 [(Value.string k), (Value.string x), (Value.int .i64 cr), (Value.int .i64 md), (Value.int .i64 vr), (Value.int .i64 ls)] :: cl b2_ 31 [(Value.int .i64 1), (Value.int .i64 r), (Value.string key), (Value.string en), (Value.int .i64 n), (Value.string val), (Value.bool true)] :: F) := H52_
  have S54_ := Same.trans S48_ S53_
  refine S_list (T_val (v := (Value.pointer (some ⟨b50_, 0, none⟩))) (x_assign rfl) ?_)
  refine wpList_nil ?_
  refine (X_then (hK33_ _ _ ?_))
  clear hK33_
  refine C_ret ?_
  refine R_any (v := (Value.pointer (some ⟨b50_, 0, none⟩))) (run_results1 rfl rfl) ⟨_, rfl, ?_⟩
  refine ⟨⟨Holds.rd H52_ 7 rfl, Holds.rd H52_ 6 rfl, Holds.ro_at H52_ 4 rfl⟩, ?_⟩
  refine A_ready (i := 4) (rs := []) (by kernel_rfl) ?_
  refine AllR.cons ?_ AllR.nil
  refine A_op (ls' := #[true, true, true, true, true, false]) rfl (by kernel_rfl) (T_callW (al := [(Value.pointer (some ⟨c15_, 0, none⟩)), (Value.pointer (some ⟨b50_, 0, none⟩))]) rfl rfl cb35 (Calls.into (n := 8) (al := [(Value.pointer (some ⟨c15_, 0, none⟩)), (Value.pointer (some ⟨b50_, 0, none⟩))]) Try.func35 rfl Try.ntmps35 rfl rfl ?_))
  refine C_seq (fun K55_ hK55_ => ?_)
  refine C_reg ?_
  refine S_list (T_val (v := (Value.bool false)) (x_assign rfl) ?_)
  refine wpList_nil ?_
  refine (X_then (hK55_ _ _ ?_))
  clear hK55_
  refine C_seq (fun K56_ hK56_ => ?_)
  refine C_reg ?_
  refine S_list (T_val (v := (Value.pointer (some ⟨c15_, 0, none⟩))) (x_move rfl) ?_)
  refine S_list (T_val (v := (Value.pointer (some ⟨b50_, 0, none⟩))) (x_move rfl) ?_)
  have H57_ : Holds w51_ (ro R :: cl c15_ 106 [(Value.int .i32 r), (Value.int .i32 1), K17_, (Value.nilIface), E18_] :: cl b50_ 123 [(Value.slice (some ⟨b34_, 0, none⟩) k.size cp35_), (Value.int .i64 cr), (Value.int .i64 md), (Value.int .i64 vr), (Value.slice (some ⟨b42_, 0, none⟩) x.size cp43_), (Value.int .i64 ls)] :: sl 5 1 (Value.slice (some ⟨b42_, 0, none⟩) x.size cp43_) x.size (bytesV (ints x)) :: sl 5 1 (Value.slice (some ⟨b34_, 0, none⟩) k.size cp35_) k.size (bytesV (ints k)) :: cl b28_ 33 [(Value.string k), (Value.string x), (Value.int .i64 cr), (Value.int .i64 md), (Value.int .i64 vr), (Value.int .i64 ls)] :: cl b7_ 33 [(Value.string k), (Value.string x), (Value.int .i64 cr), (Value.int .i64 md), (Value.int .i64 vr), (Value.int .i64 ls)] :: cl b2_ 31 [(Value.int .i64 1), (Value.int .i64 r), (Value.string key), (Value.string en), (Value.int .i64 n), (Value.string val), (Value.bool true)] :: F) := (Holds.bring (Holds.bring (Holds.bring H52_ 0 rfl) 5 rfl) 5 rfl)
  refine S_list (T_call (al := [(Value.pointer (some ⟨c15_, 0, none⟩)), (Value.pointer (some ⟨b50_, 0, none⟩))]) (pre := [cl c15_ 106 [(Value.int .i32 r), (Value.int .i32 1), K17_, (Value.nilIface), E18_], cl b50_ 123 [(Value.slice (some ⟨b34_, 0, none⟩) k.size cp35_), (Value.int .i64 cr), (Value.int .i64 md), (Value.int .i64 vr), (Value.slice (some ⟨b42_, 0, none⟩) x.size cp43_), (Value.int .i64 ls)]]) (F := sl 5 1 (Value.slice (some ⟨b42_, 0, none⟩) x.size cp43_) x.size (bytesV (ints x)) :: sl 5 1 (Value.slice (some ⟨b34_, 0, none⟩) k.size cp35_) k.size (bytesV (ints k)) :: cl b28_ 33 [(Value.string k), (Value.string x), (Value.int .i64 cr), (Value.int .i64 md), (Value.int .i64 vr), (Value.int .i64 ls)] :: cl b7_ 33 [(Value.string k), (Value.string x), (Value.int .i64 cr), (Value.int .i64 md), (Value.int .i64 vr), (Value.int .i64 ls)] :: cl b2_ 31 [(Value.int .i64 1), (Value.int .i64 r), (Value.string key), (Value.string en), (Value.int .i64 n), (Value.string val), (Value.bool true)] :: F) rfl rfl cb60 (kvCmp1t R c15_ b50_ 0 r K17_ E18_ (Value.slice (some ⟨b34_, 0, none⟩) k.size cp35_) (Value.slice (some ⟨b42_, 0, none⟩) x.size cp43_) .nilIface cr md vr ls 0 ByteArray.empty ByteArray.empty (by omega) (by omega)) H57_ ?_)
  rintro v61_ p62_ w58_ ⟨rfl, rfl⟩ S60_ H59_
  replace H59_ : Holds w58_ (ro R :: sl 5 1 (Value.slice (some ⟨b42_, 0, none⟩) x.size cp43_) x.size (bytesV (ints x)) :: sl 5 1 (Value.slice (some ⟨b34_, 0, none⟩) k.size cp35_) k.size (bytesV (ints k)) :: cl b28_ 33 [(Value.string k), (Value.string x), (Value.int .i64 cr), (Value.int .i64 md), (Value.int .i64 vr), (Value.int .i64 ls)] :: cl b7_ 33 [(Value.string k), (Value.string x), (Value.int .i64 cr), (Value.int .i64 md), (Value.int .i64 vr), (Value.int .i64 ls)] :: cl b2_ 31 [(Value.int .i64 1), (Value.int .i64 r), (Value.string key), (Value.string en), (Value.int .i64 n), (Value.string val), (Value.bool true)] :: F) := H59_
  have S63_ := Same.trans S54_ S60_
  refine S_list (T_val (v := (Value.bool (resOk r (ordI cr 0)))) (x_assign rfl) ?_)
  refine wpList_nil ?_
  refine (X_then (hK56_ _ _ ?_))
  clear hK56_
  refine C_ret ?_
  refine R_any (v := (Value.bool (resOk r (ordI cr 0)))) (run_results1 rfl rfl) ⟨_, rfl, ?_⟩
  refine ⟨⟨Holds.rd H59_ 5 rfl, Holds.rd H59_ 4 rfl, Holds.ro_at H59_ 0 rfl⟩, ?_⟩
  refine A_take 5 (ls' := #[true, true, true, true, true, true]) (v := (Value.bool (resOk r (ordI cr 0)))) rfl (by kernel_rfl) (by kernel_rfl) (by kernel_rfl) (by kernel_rfl) (fun _ _ _ h => h) (fun w hS => x_assign rfl) ⟨Holds.rd H59_ 5 rfl, Holds.rd H59_ 4 rfl, Holds.ro_at H59_ 0 rfl⟩ ?_
  refine A_done (by kernel_rfl) ?_
  refine (X_then (hK12_ _ _ ?_))
  clear hK12_
  refine C_ret ?_
  refine R_any (v := (Value.bool (resOk r (ordI cr 0)))) (run_results1 rfl rfl) ?_
  have H64_ : Holds w58_ (ro R :: F) := (Holds.erase (Holds.erase (Holds.erase (Holds.erase (Holds.erase (Holds.bring H59_ 0 rfl) 1) 1) 1) 1) 1)
  exact ⟨_, [], rfl, ⟨rfl, rfl⟩, S63_, H64_⟩

set_option maxHeartbeats 400000 in
theorem cmpKV1f (R : HP) (r : Int) (key en : ByteArray) (n : Int) (val : ByteArray) (k x : ByteArray) (cr md vr ls : Int) (h0 : 0 ≤ r) (h1 : r ≤ 3) :
    Tri Try.prog 15 #[(Value.agg #[(Value.int .i64 1), (Value.int .i64 r), (Value.string key), (Value.string en), (Value.int .i64 n), (Value.string val), (Value.bool false)]), (Value.agg #[(Value.string k), (Value.string x), (Value.int .i64 cr), (Value.int .i64 md), (Value.int .i64 vr), (Value.int .i64 ls)])] R [] (fun v post => v = .bool (resOk r (ordI cr n)) ∧ post = []) := by
  refine Tri.into (n := 10) (al := [(Value.agg #[(Value.int .i64 1), (Value.int .i64 r), (Value.string key), (Value.string en), (Value.int .i64 n), (Value.string val), (Value.bool false)]), (Value.agg #[(Value.string k), (Value.string x), (Value.int .i64 cr), (Value.int .i64 md), (Value.int .i64 vr), (Value.int .i64 ls)])]) Try.func15 rfl Try.ntmps15 rfl rfl fun w F H => ?_
  replace H : Holds w (ro R :: F) := H
  refine C_seq (fun K1_ hK1_ => ?_)
  refine C_reg ?_
  refine S_list (T_box (v := (Value.agg #[(Value.int .i64 1), (Value.int .i64 r), (Value.string key), (Value.string en), (Value.int .i64 n), (Value.string val), (Value.bool false)])) rfl H ?_)
  intro b2_ w3_ S5_ H4_
  replace H4_ : Holds w3_ (cl b2_ 31 [(Value.int .i64 1), (Value.int .i64 r), (Value.string key), (Value.string en), (Value.int .i64 n), (Value.string val), (Value.bool false)] :: ro R :: F) := H4_
  have S6_ := Same.trans (Same.refl w) S5_
  refine S_list (T_box (v := (Value.agg #[(Value.string k), (Value.string x), (Value.int .i64 cr), (Value.int .i64 md), (Value.int .i64 vr), (Value.int .i64 ls)])) rfl H4_ ?_)
  intro b7_ w8_ S10_ H9_
  replace H9_ : Holds w8_ (cl b7_ 33 [(Value.string k), (Value.string x), (Value.int .i64 cr), (Value.int .i64 md), (Value.int .i64 vr), (Value.int .i64 ls)] :: cl b2_ 31 [(Value.int .i64 1), (Value.int .i64 r), (Value.string key), (Value.string en), (Value.int .i64 n), (Value.string val), (Value.bool false)] :: ro R :: F) := H9_
  have S11_ := Same.trans S6_ S10_
  refine S_list (T_val (v := (Value.bool false)) (x_assign rfl) ?_)
  refine wpList_nil ?_
  refine (X_then (hK1_ _ _ ?_))
  clear hK1_
  refine C_seq (fun K12_ hK12_ => ?_)
  refine A_start (S := fun w => Rd b2_ [(Value.int .i64 1), (Value.int .i64 r), (Value.string key), (Value.string en), (Value.int .i64 n), (Value.string val), (Value.bool false)] w ∧ Rd b7_ [(Value.string k), (Value.string x), (Value.int .i64 cr), (Value.int .i64 md), (Value.int .i64 vr), (Value.int .i64 ls)] w ∧ Sub R (hp w)) (N := 6) foll rfl rfl ?_
  have H14_ : Holds w8_.drew (cl b7_ 33 [(Value.string k), (Value.string x), (Value.int .i64 cr), (Value.int .i64 md), (Value.int .i64 vr), (Value.int .i64 ls)] :: cl b2_ 31 [(Value.int .i64 1), (Value.int .i64 r), (Value.string key), (Value.string en), (Value.int .i64 n), (Value.string val), (Value.bool false)] :: ro R :: F) := H9_
  refine A_take 0 (ls' := #[true, false, false, false, false, false]) (v := (Value.agg #[(Value.int .i64 1), (Value.int .i64 r), (Value.string key), (Value.string en), (Value.int .i64 n), (Value.string val), (Value.bool false)])) rfl (by kernel_rfl) (by kernel_rfl) (by kernel_rfl) (by kernel_rfl) (fun _ _ _ h => h) (fun w hS => x_loadN (vs := [(Value.int .i64 1), (Value.int .i64 r), (Value.string key), (Value.string en), (Value.int .i64 n), (Value.string val), (Value.bool false)]) rfl Try.underlying31 rfl z31 rfl (Rd.cells hS.1 0 rfl)) ⟨Holds.rd H14_ 1 rfl, Holds.rd H14_ 0 rfl, Holds.ro_at H14_ 2 rfl⟩ ?_
  refine A_take 2 (ls' := #[true, false, true, false, false, false]) (v := (Value.agg #[(Value.string k), (Value.string x), (Value.int .i64 cr), (Value.int .i64 md), (Value.int .i64 vr), (Value.int .i64 ls)])) rfl (by kernel_rfl) (by kernel_rfl) (by kernel_rfl) (by kernel_rfl) (fun _ _ _ h => h) (fun w hS => x_loadN (vs := [(Value.string k), (Value.string x), (Value.int .i64 cr), (Value.int .i64 md), (Value.int .i64 vr), (Value.int .i64 ls)]) rfl Try.underlying33 rfl z33 rfl (Rd.cells hS.2.1 0 rfl)) ⟨Holds.rd H14_ 1 rfl, Holds.rd H14_ 0 rfl, Holds.ro_at H14_ 2 rfl⟩ ?_
  refine A_ready (i := 1) (rs := []) (by kernel_rfl) ?_
  refine AllR.cons ?_ AllR.nil
  have H20_ : Holds w8_.drew (ro R :: cl b7_ 33 [(Value.string k), (Value.string x), (Value.int .i64 cr), (Value.int .i64 md), (Value.int .i64 vr), (Value.int .i64 ls)] :: cl b2_ 31 [(Value.int .i64 1), (Value.int .i64 r), (Value.string key), (Value.string en), (Value.int .i64 n), (Value.string val), (Value.bool false)] :: F) := (Holds.bring H14_ 2 rfl)
  refine A_op (ls' := #[true, true, true, false, false, false]) rfl (by kernel_rfl) (T_call (al := [(Value.agg #[(Value.int .i64 1), (Value.int .i64 r), (Value.string key), (Value.string en), (Value.int .i64 n), (Value.string val), (Value.bool false)])]) (pre := []) (F := cl b7_ 33 [(Value.string k), (Value.string x), (Value.int .i64 cr), (Value.int .i64 md), (Value.int .i64 vr), (Value.int .i64 ls)] :: cl b2_ 31 [(Value.int .i64 1), (Value.int .i64 r), (Value.string key), (Value.string en), (Value.int .i64 n), (Value.string val), (Value.bool false)] :: F) rfl rfl cb36 (cmpIn1f R r key en n val (by omega) (by omega)) H20_ ?_)
  rintro v24_ p25_ w21_ ⟨c15_, u16_, K17_, E18_, rfl, rfl⟩ S23_ H22_
  replace H22_ : Holds w21_ (ro R :: cl c15_ 106 [(Value.int .i32 r), (Value.int .i32 1), K17_, (Value.iface 110 (Value.pointer (some ⟨u16_, 0, none⟩))), E18_] :: cl u16_ 112 [(Value.int .i64 n)] :: cl b7_ 33 [(Value.string k), (Value.string x), (Value.int .i64 cr), (Value.int .i64 md), (Value.int .i64 vr), (Value.int .i64 ls)] :: cl b2_ 31 [(Value.int .i64 1), (Value.int .i64 r), (Value.string key), (Value.string en), (Value.int .i64 n), (Value.string val), (Value.bool false)] :: F) := H22_
  have S26_ := Same.trans (Same.trans S11_ (Same.drew _)) S23_
  refine ⟨⟨Holds.rd H22_ 4 rfl, Holds.rd H22_ 3 rfl, Holds.ro_at H22_ 0 rfl⟩, ?_⟩
  refine A_ready (i := 3) (rs := []) (by kernel_rfl) ?_
  refine AllR.cons ?_ AllR.nil
  refine A_op (ls' := #[true, true, true, true, false, false]) rfl (by kernel_rfl) (T_callW (al := [(Value.agg #[(Value.string k), (Value.string x), (Value.int .i64 cr), (Value.int .i64 md), (Value.int .i64 vr), (Value.int .i64 ls)])]) rfl rfl cb37 (Calls.into (n := 19) (al := [(Value.agg #[(Value.string k), (Value.string x), (Value.int .i64 cr), (Value.int .i64 md), (Value.int .i64 vr), (Value.int .i64 ls)])]) Try.func37 rfl Try.ntmps37 rfl rfl ?_))
  refine C_seq (fun K27_ hK27_ => ?_)
  refine C_reg ?_
  refine S_list (T_box (v := (Value.agg #[(Value.string k), (Value.string x), (Value.int .i64 cr), (Value.int .i64 md), (Value.int .i64 vr), (Value.int .i64 ls)])) rfl H22_ ?_)
  intro b28_ w29_ S31_ H30_
  replace H30_ : Holds w29_ (cl b28_ 33 [(Value.string k), (Value.string x), (Value.int .i64 cr), (Value.int .i64 md), (Value.int .i64 vr), (Value.int .i64 ls)] :: ro R :: cl c15_ 106 [(Value.int .i32 r), (Value.int .i32 1), K17_, (Value.iface 110 (Value.pointer (some ⟨u16_, 0, none⟩))), E18_] :: cl u16_ 112 [(Value.int .i64 n)] :: cl b7_ 33 [(Value.string k), (Value.string x), (Value.int .i64 cr), (Value.int .i64 md), (Value.int .i64 vr), (Value.int .i64 ls)] :: cl b2_ 31 [(Value.int .i64 1), (Value.int .i64 r), (Value.string key), (Value.string en), (Value.int .i64 n), (Value.string val), (Value.bool false)] :: F) := H30_
  have S32_ := Same.trans S26_ S31_
  refine S_list (T_val (v := (Value.pointer none)) (x_assign rfl) ?_)
  refine wpList_nil ?_
  refine (X_then (hK27_ _ _ ?_))
  clear hK27_
  refine C_seq (fun K33_ hK33_ => ?_)
  refine C_reg ?_
  refine S_list (T_val (v := (Value.pointer (some ⟨b28_, 0, none⟩))) (by kernel_rfl) ?_)
  refine S_list (T_val (v := (Value.string k)) (x_load1 rfl Try.underlying9 rfl ((Holds.rd H30_ 0 rfl) 0 (Value.string k) rfl)) ?_)
  refine S_list (T_s2b rfl Try.underlying9 Try.underlying25 Try.underlying5 H30_ ?_)
  intro b34_ cp35_ w36_ S38_ hc39_ H37_
  have S40_ := Same.trans S32_ S38_
  have H41_ : Holds w36_ (sl 5 1 (Value.slice (some ⟨b34_, 0, none⟩) k.size cp35_) k.size (bytesV (ints k)) :: cl b28_ 33 [(Value.string k), (Value.string x), (Value.int .i64 cr), (Value.int .i64 md), (Value.int .i64 vr), (Value.int .i64 ls)] :: ro R :: cl c15_ 106 [(Value.int .i32 r), (Value.int .i32 1), K17_, (Value.iface 110 (Value.pointer (some ⟨u16_, 0, none⟩))), E18_] :: cl u16_ 112 [(Value.int .i64 n)] :: cl b7_ 33 [(Value.string k), (Value.string x), (Value.int .i64 cr), (Value.int .i64 md), (Value.int .i64 vr), (Value.int .i64 ls)] :: cl b2_ 31 [(Value.int .i64 1), (Value.int .i64 r), (Value.string key), (Value.string en), (Value.int .i64 n), (Value.string val), (Value.bool false)] :: F) := cast2 (P := fun (c__ : List Value) (k__ : Nat) => Holds w36_ (sl 5 1 (Value.slice (some ⟨b34_, 0, none⟩) k.size cp35_) k__ c__ :: cl b28_ 33 [(Value.string k), (Value.string x), (Value.int .i64 cr), (Value.int .i64 md), (Value.int .i64 vr), (Value.int .i64 ls)] :: ro R :: cl c15_ 106 [(Value.int .i32 r), (Value.int .i32 1), K17_, (Value.iface 110 (Value.pointer (some ⟨u16_, 0, none⟩))), E18_] :: cl u16_ 112 [(Value.int .i64 n)] :: cl b7_ 33 [(Value.string k), (Value.string x), (Value.int .i64 cr), (Value.int .i64 md), (Value.int .i64 vr), (Value.int .i64 ls)] :: cl b2_ 31 [(Value.int .i64 1), (Value.int .i64 r), (Value.string key), (Value.string en), (Value.int .i64 n), (Value.string val), (Value.bool false)] :: F)) (byteCells_bytesV _ : byteCells k = bytesV (ints k)) (rfl : k.size = k.size) H37_
  refine S_list (T_val (v := (Value.pointer (some ⟨b28_, 1, none⟩))) (by kernel_rfl) ?_)
  refine S_list (T_val (v := (Value.string x)) (x_load1 rfl Try.underlying9 rfl ((Holds.rd H41_ 1 rfl) 1 (Value.string x) rfl)) ?_)
  refine S_list (T_s2b rfl Try.underlying9 Try.underlying25 Try.underlying5 H41_ ?_)
  intro b42_ cp43_ w44_ S46_ hc47_ H45_
  have S48_ := Same.trans S40_ S46_
  have H49_ : Holds w44_ (sl 5 1 (Value.slice (some ⟨b42_, 0, none⟩) x.size cp43_) x.size (bytesV (ints x)) :: sl 5 1 (Value.slice (some ⟨b34_, 0, none⟩) k.size cp35_) k.size (bytesV (ints k)) :: cl b28_ 33 [(Value.string k), (Value.string x), (Value.int .i64 cr), (Value.int .i64 md), (Value.int .i64 vr), (Value.int .i64 ls)] :: ro R :: cl c15_ 106 [(Value.int .i32 r), (Value.int .i32 1), K17_, (Value.iface 110 (Value.pointer (some ⟨u16_, 0, none⟩))), E18_] :: cl u16_ 112 [(Value.int .i64 n)] :: cl b7_ 33 [(Value.string k), (Value.string x), (Value.int .i64 cr), (Value.int .i64 md), (Value.int .i64 vr), (Value.int .i64 ls)] :: cl b2_ 31 [(Value.int .i64 1), (Value.int .i64 r), (Value.string key), (Value.string en), (Value.int .i64 n), (Value.string val), (Value.bool false)] :: F) := cast2 (P := fun (c__ : List Value) (k__ : Nat) => Holds w44_ (sl 5 1 (Value.slice (some ⟨b42_, 0, none⟩) x.size cp43_) k__ c__ :: sl 5 1 (Value.slice (some ⟨b34_, 0, none⟩) k.size cp35_) k.size (bytesV (ints k)) :: cl b28_ 33 [(Value.string k), (Value.string x), (Value.int .i64 cr), (Value.int .i64 md), (Value.int .i64 vr), (Value.int .i64 ls)] :: ro R :: cl c15_ 106 [(Value.int .i32 r), (Value.int .i32 1), K17_, (Value.iface 110 (Value.pointer (some ⟨u16_, 0, none⟩))), E18_] :: cl u16_ 112 [(Value.int .i64 n)] :: cl b7_ 33 [(Value.string k), (Value.string x), (Value.int .i64 cr), (Value.int .i64 md), (Value.int .i64 vr), (Value.int .i64 ls)] :: cl b2_ 31 [(Value.int .i64 1), (Value.int .i64 r), (Value.string key), (Value.string en), (Value.int .i64 n), (Value.string val), (Value.bool false)] :: F)) (byteCells_bytesV _ : byteCells x = bytesV (ints x)) (rfl : x.size = x.size) H45_
  refine S_list (T_val (v := (Value.pointer (some ⟨b28_, 2, none⟩))) (by kernel_rfl) ?_)
  refine S_list (T_val (v := (Value.int .i64 cr)) (x_load1 rfl Try.underlying2 rfl ((Holds.rd H49_ 2 rfl) 2 (Value.int .i64 cr) rfl)) ?_)
  refine S_list (T_val (v := (Value.pointer (some ⟨b28_, 3, none⟩))) (by kernel_rfl) ?_)
  refine S_list (T_val (v := (Value.int .i64 md)) (x_load1 rfl Try.underlying2 rfl ((Holds.rd H49_ 2 rfl) 3 (Value.int .i64 md) rfl)) ?_)
  refine S_list (T_val (v := (Value.pointer (some ⟨b28_, 4, none⟩))) (by kernel_rfl) ?_)
  refine S_list (T_val (v := (Value.int .i64 vr)) (x_load1 rfl Try.underlying2 rfl ((Holds.rd H49_ 2 rfl) 4 (Value.int .i64 vr) rfl)) ?_)
  refine S_list (T_val (v := (Value.pointer (some ⟨b28_, 5, none⟩))) (by kernel_rfl) ?_)
  refine S_list (T_val (v := (Value.int .i64 ls)) (x_load1 rfl Try.underlying2 rfl ((Holds.rd H49_ 2 rfl) 5 (Value.int .i64 ls) rfl)) ?_)
  refine S_list (T_val (v := (Value.agg #[(Value.slice (some ⟨b34_, 0, none⟩) k.size cp35_), (Value.int .i64 cr), (Value.int .i64 md), (Value.int .i64 vr), (Value.slice (some ⟨b42_, 0, none⟩) x.size cp43_), (Value.int .i64 ls)])) (by kernel_rfl) ?_)
  refine S_list (T_box (v := (Value.agg #[(Value.slice (some ⟨b34_, 0, none⟩) k.size cp35_), (Value.int .i64 cr), (Value.int .i64 md), (Value.int .i64 vr), (Value.slice (some ⟨b42_, 0, none⟩) x.size cp43_), (Value.int .i64 ls)])) rfl H49_ ?_)
  intro b50_ w51_ S53_ H52_
  replace H52_ : Holds w51_ (cl b50_ 123 [(Value.slice (some ⟨b34_, 0, none⟩) k.size cp35_), (Value.int .i64 cr), (Value.int .i64 md), (Value.int .i64 vr), (Value.slice (some ⟨b42_, 0, none⟩) x.size cp43_), (Value.int .i64 ls)] :: sl 5 1 (Value.slice (some ⟨b42_, 0, none⟩) x.size cp43_) x.size (bytesV (ints x)) :: sl 5 1 (Value.slice (some ⟨b34_, 0, none⟩) k.size cp35_) k.size (bytesV (ints k)) :: cl b28_ 33 [(Value.string k), (Value.string x), (Value.int .i64 cr), (Value.int .i64 md), (Value.int .i64 vr), (Value.int .i64 ls)] :: ro R :: cl c15_ 106 [(Value.int .i32 r), (Value.int .i32 1), K17_, (Value.iface 110 (Value.pointer (some ⟨u16_, 0, none⟩))), E18_] :: cl u16_ 112 [(Value.int .i64 n)] :: cl b7_ 33 [(Value.string k), (Value.string x), (Value.int .i64 cr), (Value.int .i64 md), (Value.int .i64 vr), (Value.int .i64 ls)] :: cl b2_ 31 [(Value.int .i64 1), (Value.int .i64 r), (Value.string key), (Value.string en), (Value.int .i64 n), (Value.string val), (Value.bool false)] :: F) := H52_
  have S54_ := Same.trans S48_ S53_
  refine S_list (T_val (v := (Value.pointer (some ⟨b50_, 0, none⟩))) (x_assign rfl) ?_)
  refine wpList_nil ?_
  refine (X_then (hK33_ _ _ ?_))
  clear hK33_
  refine C_ret ?_
  refine R_any (v := (Value.pointer (some ⟨b50_, 0, none⟩))) (run_results1 rfl rfl) ⟨_, rfl, ?_⟩
  refine ⟨⟨Holds.rd H52_ 8 rfl, Holds.rd H52_ 7 rfl, Holds.ro_at H52_ 4 rfl⟩, ?_⟩
  refine A_ready (i := 4) (rs := []) (by kernel_rfl) ?_
  refine AllR.cons ?_ AllR.nil
  refine A_op (ls' := #[true, true, true, true, true, false]) rfl (by kernel_rfl) (T_callW (al := [(Value.pointer (some ⟨c15_, 0, none⟩)), (Value.pointer (some ⟨b50_, 0, none⟩))]) rfl rfl cb35 (Calls.into (n := 8) (al := [(Value.pointer (some ⟨c15_, 0, none⟩)), (Value.pointer (some ⟨b50_, 0, none⟩))]) Try.func35 rfl Try.ntmps35 rfl rfl ?_))
  refine C_seq (fun K55_ hK55_ => ?_)
  refine C_reg ?_
  refine S_list (T_val (v := (Value.bool false)) (x_assign rfl) ?_)
  refine wpList_nil ?_
  refine (X_then (hK55_ _ _ ?_))
  clear hK55_
  refine C_seq (fun K56_ hK56_ => ?_)
  refine C_reg ?_
  refine S_list (T_val (v := (Value.pointer (some ⟨c15_, 0, none⟩))) (x_move rfl) ?_)
  refine S_list (T_val (v := (Value.pointer (some ⟨b50_, 0, none⟩))) (x_move rfl) ?_)
  have H57_ : Holds w51_ (ro R :: cl c15_ 106 [(Value.int .i32 r), (Value.int .i32 1), K17_, (Value.iface 110 (Value.pointer (some ⟨u16_, 0, none⟩))), E18_] :: cl b50_ 123 [(Value.slice (some ⟨b34_, 0, none⟩) k.size cp35_), (Value.int .i64 cr), (Value.int .i64 md), (Value.int .i64 vr), (Value.slice (some ⟨b42_, 0, none⟩) x.size cp43_), (Value.int .i64 ls)] :: cl u16_ 112 [(Value.int .i64 n)] :: sl 5 1 (Value.slice (some ⟨b42_, 0, none⟩) x.size cp43_) x.size (bytesV (ints x)) :: sl 5 1 (Value.slice (some ⟨b34_, 0, none⟩) k.size cp35_) k.size (bytesV (ints k)) :: cl b28_ 33 [(Value.string k), (Value.string x), (Value.int .i64 cr), (Value.int .i64 md), (Value.int .i64 vr), (Value.int .i64 ls)] :: cl b7_ 33 [(Value.string k), (Value.string x), (Value.int .i64 cr), (Value.int .i64 md), (Value.int .i64 vr), (Value.int .i64 ls)] :: cl b2_ 31 [(Value.int .i64 1), (Value.int .i64 r), (Value.string key), (Value.string en), (Value.int .i64 n), (Value.string val), (Value.bool false)] :: F) := (Holds.bring (Holds.bring (Holds.bring (Holds.bring H52_ 6 rfl) 1 rfl) 6 rfl) 6 rfl)
  refine S_list (T_call (al := [(Value.pointer (some ⟨c15_, 0, none⟩)), (Value.pointer (some ⟨b50_, 0, none⟩))]) (pre := [cl c15_ 106 [(Value.int .i32 r), (Value.int .i32 1), K17_, (Value.iface 110 (Value.pointer (some ⟨u16_, 0, none⟩))), E18_], cl b50_ 123 [(Value.slice (some ⟨b34_, 0, none⟩) k.size cp35_), (Value.int .i64 cr), (Value.int .i64 md), (Value.int .i64 vr), (Value.slice (some ⟨b42_, 0, none⟩) x.size cp43_), (Value.int .i64 ls)], cl u16_ 112 [(Value.int .i64 n)]]) (F := sl 5 1 (Value.slice (some ⟨b42_, 0, none⟩) x.size cp43_) x.size (bytesV (ints x)) :: sl 5 1 (Value.slice (some ⟨b34_, 0, none⟩) k.size cp35_) k.size (bytesV (ints k)) :: cl b28_ 33 [(Value.string k), (Value.string x), (Value.int .i64 cr), (Value.int .i64 md), (Value.int .i64 vr), (Value.int .i64 ls)] :: cl b7_ 33 [(Value.string k), (Value.string x), (Value.int .i64 cr), (Value.int .i64 md), (Value.int .i64 vr), (Value.int .i64 ls)] :: cl b2_ 31 [(Value.int .i64 1), (Value.int .i64 r), (Value.string key), (Value.string en), (Value.int .i64 n), (Value.string val), (Value.bool false)] :: F) rfl rfl cb60 (kvCmp1f R c15_ b50_ u16_ r K17_ E18_ (Value.slice (some ⟨b34_, 0, none⟩) k.size cp35_) (Value.slice (some ⟨b42_, 0, none⟩) x.size cp43_) .nilIface cr md vr ls n ByteArray.empty ByteArray.empty (by omega) (by omega)) H57_ ?_)
  rintro v61_ p62_ w58_ ⟨rfl, rfl⟩ S60_ H59_
  replace H59_ : Holds w58_ (ro R :: sl 5 1 (Value.slice (some ⟨b42_, 0, none⟩) x.size cp43_) x.size (bytesV (ints x)) :: sl 5 1 (Value.slice (some ⟨b34_, 0, none⟩) k.size cp35_) k.size (bytesV (ints k)) :: cl b28_ 33 [(Value.string k), (Value.string x), (Value.int .i64 cr), (Value.int .i64 md), (Value.int .i64 vr), (Value.int .i64 ls)] :: cl b7_ 33 [(Value.string k), (Value.string x), (Value.int .i64 cr), (Value.int .i64 md), (Value.int .i64 vr), (Value.int .i64 ls)] :: cl b2_ 31 [(Value.int .i64 1), (Value.int .i64 r), (Value.string key), (Value.string en), (Value.int .i64 n), (Value.string val), (Value.bool false)] :: F) := H59_
  have S63_ := Same.trans S54_ S60_
  refine S_list (T_val (v := (Value.bool (resOk r (ordI cr n)))) (x_assign rfl) ?_)
  refine wpList_nil ?_
  refine (X_then (hK56_ _ _ ?_))
  clear hK56_
  refine C_ret ?_
  refine R_any (v := (Value.bool (resOk r (ordI cr n)))) (run_results1 rfl rfl) ⟨_, rfl, ?_⟩
  refine ⟨⟨Holds.rd H59_ 5 rfl, Holds.rd H59_ 4 rfl, Holds.ro_at H59_ 0 rfl⟩, ?_⟩
  refine A_take 5 (ls' := #[true, true, true, true, true, true]) (v := (Value.bool (resOk r (ordI cr n)))) rfl (by kernel_rfl) (by kernel_rfl) (by kernel_rfl) (by kernel_rfl) (fun _ _ _ h => h) (fun w hS => x_assign rfl) ⟨Holds.rd H59_ 5 rfl, Holds.rd H59_ 4 rfl, Holds.ro_at H59_ 0 rfl⟩ ?_
  refine A_done (by kernel_rfl) ?_
  refine (X_then (hK12_ _ _ ?_))
  clear hK12_
  refine C_ret ?_
  refine R_any (v := (Value.bool (resOk r (ordI cr n)))) (run_results1 rfl rfl) ?_
  have H64_ : Holds w58_ (ro R :: F) := (Holds.erase (Holds.erase (Holds.erase (Holds.erase (Holds.erase (Holds.bring H59_ 0 rfl) 1) 1) 1) 1) 1)
  exact ⟨_, [], rfl, ⟨rfl, rfl⟩, S63_, H64_⟩

set_option maxHeartbeats 400000 in
theorem cmpKV2t (R : HP) (r : Int) (key en : ByteArray) (n : Int) (val : ByteArray) (k x : ByteArray) (cr md vr ls : Int) (h0 : 0 ≤ r) (h1 : r ≤ 3) :
    Tri Try.prog 15 #[(Value.agg #[(Value.int .i64 2), (Value.int .i64 r), (Value.string key), (Value.string en), (Value.int .i64 n), (Value.string val), (Value.bool true)]), (Value.agg #[(Value.string k), (Value.string x), (Value.int .i64 cr), (Value.int .i64 md), (Value.int .i64 vr), (Value.int .i64 ls)])] R [] (fun v post => v = .bool (resOk r (ordI md 0)) ∧ post = []) := by
  refine Tri.into (n := 10) (al := [(Value.agg #[(Value.int .i64 2), (Value.int .i64 r), (Value.string key), (Value.string en), (Value.int .i64 n), (Value.string val), (Value.bool true)]), (Value.agg #[(Value.string k), (Value.string x), (Value.int .i64 cr), (Value.int .i64 md), (Value.int .i64 vr), (Value.int .i64 ls)])]) Try.func15 rfl Try.ntmps15 rfl rfl fun w F H => ?_
  replace H : Holds w (ro R :: F) := H
  refine C_seq (fun K1_ hK1_ => ?_)
  refine C_reg ?_
  refine S_list (T_box (v := (Value.agg #[(Value.int .i64 2), (Value.int .i64 r), (Value.string key), (Value.string en), (Value.int .i64 n), (Value.string val), (Value.bool true)])) rfl H ?_)
  intro b2_ w3_ S5_ H4_
  replace H4_ : Holds w3_ (cl b2_ 31 [(Value.int .i64 2), (Value.int .i64 r), (Value.string key), (Value.string en), (Value.int .i64 n), (Value.string val), (Value.bool true)] :: ro R :: F) := H4_
  have S6_ := Same.trans (Same.refl w) S5_
  refine S_list (T_box (v := (Value.agg #[(Value.string k), (Value.string x), (Value.int .i64 cr), (Value.int .i64 md), (Value.int .i64 vr), (Value.int .i64 ls)])) rfl H4_ ?_)
  intro b7_ w8_ S10_ H9_
  replace H9_ : Holds w8_ (cl b7_ 33 [(Value.string k), (Value.string x), (Value.int .i64 cr), (Value.int .i64 md), (Value.int .i64 vr), (Value.int .i64 ls)] :: cl b2_ 31 [(Value.int .i64 2), (Value.int .i64 r), (Value.string key), (Value.string en), (Value.int .i64 n), (Value.string val), (Value.bool true)] :: ro R :: F) := H9_
  have S11_ := Same.trans S6_ S10_
  refine S_list (T_val (v := (Value.bool false)) (x_assign rfl) ?_)
  refine wpList_nil ?_
  refine (X_then (hK1_ _ _ ?_))
  clear hK1_
  refine C_seq (fun K12_ hK12_ => ?_)
  refine A_start (S := fun w => Rd b2_ [(Value.int .i64 2), (Value.int .i64 r), (Value.string key), (Value.string en), (Value.int .i64 n), (Value.string val), (Value.bool true)] w ∧ Rd b7_ [(Value.string k), (Value.string x), (Value.int .i64 cr), (Value.int .i64 md), (Value.int .i64 vr), (Value.int .i64 ls)] w ∧ Sub R (hp w)) (N := 6) foll rfl rfl ?_
  have H14_ : Holds w8_.drew (cl b7_ 33 [(Value.string k), (Value.string x), (Value.int .i64 cr), (Value.int .i64 md), (Value.int .i64 vr), (Value.int .i64 ls)] :: cl b2_ 31 [(Value.int .i64 2), (Value.int .i64 r), (Value.string key), (Value.string en), (Value.int .i64 n), (Value.string val), (Value.bool true)] :: ro R :: F) := H9_
  refine A_take 0 (ls' := #[true, false, false, false, false, false]) (v := (Value.agg #[(Value.int .i64 2), (Value.int .i64 r), (Value.string key), (Value.string en), (Value.int .i64 n), (Value.string val), (Value.bool true)])) rfl (by kernel_rfl) (by kernel_rfl) (by kernel_rfl) (by kernel_rfl) (fun _ _ _ h => h) (fun w hS => x_loadN (vs := [(Value.int .i64 2), (Value.int .i64 r), (Value.string key), (Value.string en), (Value.int .i64 n), (Value.string val), (Value.bool true)]) rfl Try.underlying31 rfl z31 rfl (Rd.cells hS.1 0 rfl)) ⟨Holds.rd H14_ 1 rfl, Holds.rd H14_ 0 rfl, Holds.ro_at H14_ 2 rfl⟩ ?_
  refine A_take 2 (ls' := #[true, false, true, false, false, false]) (v := (Value.agg #[(Value.string k), (Value.string x), (Value.int .i64 cr), (Value.int .i64 md), (Value.int .i64 vr), (Value.int .i64 ls)])) rfl (by kernel_rfl) (by kernel_rfl) (by kernel_rfl) (by kernel_rfl) (fun _ _ _ h => h) (fun w hS => x_loadN (vs := [(Value.string k), (Value.string x), (Value.int .i64 cr), (Value.int .i64 md), (Value.int .i64 vr), (Value.int .i64 ls)]) rfl Try.underlying33 rfl z33 rfl (Rd.cells hS.2.1 0 rfl)) ⟨Holds.rd H14_ 1 rfl, Holds.rd H14_ 0 rfl, Holds.ro_at H14_ 2 rfl⟩ ?_
  refine A_ready (i := 1) (rs := []) (by kernel_rfl) ?_
  refine AllR.cons ?_ AllR.nil
  have H20_ : Holds w8_.drew (ro R :: cl b7_ 33 [(Value.string k), (Value.string x), (Value.int .i64 cr), (Value.int .i64 md), (Value.int .i64 vr), (Value.int .i64 ls)] :: cl b2_ 31 [(Value.int .i64 2), (Value.int .i64 r), (Value.string key), (Value.string en), (Value.int .i64 n), (Value.string val), (Value.bool true)] :: F) := (Holds.bring H14_ 2 rfl)
  refine A_op (ls' := #[true, true, true, false, false, false]) rfl (by kernel_rfl) (T_call (al := [(Value.agg #[(Value.int .i64 2), (Value.int .i64 r), (Value.string key), (Value.string en), (Value.int .i64 n), (Value.string val), (Value.bool true)])]) (pre := []) (F := cl b7_ 33 [(Value.string k), (Value.string x), (Value.int .i64 cr), (Value.int .i64 md), (Value.int .i64 vr), (Value.int .i64 ls)] :: cl b2_ 31 [(Value.int .i64 2), (Value.int .i64 r), (Value.string key), (Value.string en), (Value.int .i64 n), (Value.string val), (Value.bool true)] :: F) rfl rfl cb36 (cmpIn2t R r key en n val (by omega) (by omega)) H20_ ?_)
  rintro v24_ p25_ w21_ ⟨c15_, K17_, E18_, rfl, rfl⟩ S23_ H22_
  replace H22_ : Holds w21_ (ro R :: cl c15_ 106 [(Value.int .i32 r), (Value.int .i32 2), K17_, (Value.nilIface), E18_] :: cl b7_ 33 [(Value.string k), (Value.string x), (Value.int .i64 cr), (Value.int .i64 md), (Value.int .i64 vr), (Value.int .i64 ls)] :: cl b2_ 31 [(Value.int .i64 2), (Value.int .i64 r), (Value.string key), (Value.string en), (Value.int .i64 n), (Value.string val), (Value.bool true)] :: F) := H22_
  have S26_ := Same.trans (Same.trans S11_ (Same.drew _)) S23_
  refine ⟨⟨Holds.rd H22_ 3 rfl, Holds.rd H22_ 2 rfl, Holds.ro_at H22_ 0 rfl⟩, ?_⟩
  refine A_ready (i := 3) (rs := []) (by kernel_rfl) ?_
  refine AllR.cons ?_ AllR.nil
  refine A_op (ls' := #[true, true, true, true, false, false]) rfl (by kernel_rfl) (T_callW (al := [(Value.agg #[(Value.string k), (Value.string x), (Value.int .i64 cr), (Value.int .i64 md), (Value.int .i64 vr), (Value.int .i64 ls)])]) rfl rfl cb37 (Calls.into (n := 19) (al := [(Value.agg #[(Value.string k), (Value.string x), (Value.int .i64 cr), (Value.int .i64 md), (Value.int .i64 vr), (Value.int .i64 ls)])]) Try.func37 rfl Try.ntmps37 rfl rfl ?_))
  refine C_seq (fun K27_ hK27_ => ?_)
  refine C_reg ?_
  refine S_list (T_box (v := (Value.agg #[(Value.string k), (Value.string x), (Value.int .i64 cr), (Value.int .i64 md), (Value.int .i64 vr), (Value.int .i64 ls)])) rfl H22_ ?_)
  intro b28_ w29_ S31_ H30_
  replace H30_ : Holds w29_ (cl b28_ 33 [(Value.string k), (Value.string x), (Value.int .i64 cr), (Value.int .i64 md), (Value.int .i64 vr), (Value.int .i64 ls)] :: ro R :: cl c15_ 106 [(Value.int .i32 r), (Value.int .i32 2), K17_, (Value.nilIface), E18_] :: cl b7_ 33 [(Value.string k), (Value.string x), (Value.int .i64 cr), (Value.int .i64 md), (Value.int .i64 vr), (Value.int .i64 ls)] :: cl b2_ 31 [(Value.int .i64 2), (Value.int .i64 r), (Value.string key), (Value.string en), (Value.int .i64 n), (Value.string val), (Value.bool true)] :: F) := H30_
  have S32_ := Same.trans S26_ S31_
  refine S_list (T_val (v := (Value.pointer none)) (x_assign rfl) ?_)
  refine wpList_nil ?_
  refine (X_then (hK27_ _ _ ?_))
  clear hK27_
  refine C_seq (fun K33_ hK33_ => ?_)
  refine C_reg ?_
  refine S_list (T_val (v := (Value.pointer (some ⟨b28_, 0, none⟩))) (by kernel_rfl) ?_)
  refine S_list (T_val (v := (Value.string k)) (x_load1 rfl Try.underlying9 rfl ((Holds.rd H30_ 0 rfl) 0 (Value.string k) rfl)) ?_)
  refine S_list (T_s2b rfl Try.underlying9 Try.underlying25 Try.underlying5 H30_ ?_)
  intro b34_ cp35_ w36_ S38_ hc39_ H37_
  have S40_ := Same.trans S32_ S38_
  have H41_ : Holds w36_ (sl 5 1 (Value.slice (some ⟨b34_, 0, none⟩) k.size cp35_) k.size (bytesV (ints k)) :: cl b28_ 33 [(Value.string k), (Value.string x), (Value.int .i64 cr), (Value.int .i64 md), (Value.int .i64 vr), (Value.int .i64 ls)] :: ro R :: cl c15_ 106 [(Value.int .i32 r), (Value.int .i32 2), K17_, (Value.nilIface), E18_] :: cl b7_ 33 [(Value.string k), (Value.string x), (Value.int .i64 cr), (Value.int .i64 md), (Value.int .i64 vr), (Value.int .i64 ls)] :: cl b2_ 31 [(Value.int .i64 2), (Value.int .i64 r), (Value.string key), (Value.string en), (Value.int .i64 n), (Value.string val), (Value.bool true)] :: F) := cast2 (P := fun (c__ : List Value) (k__ : Nat) => Holds w36_ (sl 5 1 (Value.slice (some ⟨b34_, 0, none⟩) k.size cp35_) k__ c__ :: cl b28_ 33 [(Value.string k), (Value.string x), (Value.int .i64 cr), (Value.int .i64 md), (Value.int .i64 vr), (Value.int .i64 ls)] :: ro R :: cl c15_ 106 [(Value.int .i32 r), (Value.int .i32 2), K17_, (Value.nilIface), E18_] :: cl b7_ 33 [(Value.string k), (Value.string x), (Value.int .i64 cr), (Value.int .i64 md), (Value.int .i64 vr), (Value.int .i64 ls)] :: cl b2_ 31 [(Value.int .i64 2), (Value.int .i64 r), (Value.string key), (Value.string en), (Value.int .i64 n), (Value.string val), (Value.bool true)] :: F)) (byteCells_bytesV _ : byteCells k = bytesV (ints k)) (rfl : k.size = k.size) H37_
  refine S_list (T_val (v := (Value.pointer (some ⟨b28_, 1, none⟩))) (by kernel_rfl) ?_)
  refine S_list (T_val (v := (Value.string x)) (x_load1 rfl Try.underlying9 rfl ((Holds.rd H41_ 1 rfl) 1 (Value.string x) rfl)) ?_)
  refine S_list (T_s2b rfl Try.underlying9 Try.underlying25 Try.underlying5 H41_ ?_)
  intro b42_ cp43_ w44_ S46_ hc47_ H45_
  have S48_ := Same.trans S40_ S46_
  have H49_ : Holds w44_ (sl 5 1 (Value.slice (some ⟨b42_, 0, none⟩) x.size cp43_) x.size (bytesV (ints x)) :: sl 5 1 (Value.slice (some ⟨b34_, 0, none⟩) k.size cp35_) k.size (bytesV (ints k)) :: cl b28_ 33 [(Value.string k), (Value.string x), (Value.int .i64 cr), (Value.int .i64 md), (Value.int .i64 vr), (Value.int .i64 ls)] :: ro R :: cl c15_ 106 [(Value.int .i32 r), (Value.int .i32 2), K17_, (Value.nilIface), E18_] :: cl b7_ 33 [(Value.string k), (Value.string x), (Value.int .i64 cr), (Value.int .i64 md), (Value.int .i64 vr), (Value.int .i64 ls)] :: cl b2_ 31 [(Value.int .i64 2), (Value.int .i64 r), (Value.string key), (Value.string en), (Value.int .i64 n), (Value.string val), (Value.bool true)] :: F) := cast2 (P := fun (c__ : List Value) (k__ : Nat) => Holds w44_ (sl 5 1 (Value.slice (some ⟨b42_, 0, none⟩) x.size cp43_) k__ c__ :: sl 5 1 (Value.slice (some ⟨b34_, 0, none⟩) k.size cp35_) k.size (bytesV (ints k)) :: cl b28_ 33 [(Value.string k), (Value.string x), (Value.int .i64 cr), (Value.int .i64 md), (Value.int .i64 vr), (Value.int .i64 ls)] :: ro R :: cl c15_ 106 [(Value.int .i32 r), (Value.int .i32 2), K17_, (Value.nilIface), E18_] :: cl b7_ 33 [(Value.string k), (Value.string x), (Value.int .i64 cr), (Value.int .i64 md), (Value.int .i64 vr), (Value.int .i64 ls)] :: cl b2_ 31 [(Value.int .i64 2), (Value.int .i64 r), (Value.string key), (Value.string en), (Value.int .i64 n), (Value.string val), (Value.bool true)] :: F)) (byteCells_bytesV _ : byteCells x = bytesV (ints x)) (rfl : x.size = x.size) H45_
  refine S_list (T_val (v := (Value.pointer (some ⟨b28_, 2, none⟩))) (by kernel_rfl) ?_)
  refine S_list (T_val (v := (Value.int .i64 cr)) (x_load1 rfl Try.underlying2 rfl ((Holds.rd H49_ 2 rfl) 2 (Value.int .i64 cr) rfl)) ?_)
  refine S_list (T_val (v := (Value.pointer (some ⟨b28_, 3, none⟩))) (by kernel_rfl) ?_)
  refine S_list (T_val (v := (Value.int .i64 md)) (x_load1 rfl Try.underlying2 rfl ((Holds.rd H49_ 2 rfl) 3 (Value.int .i64 md) rfl)) ?_)
  refine S_list (T_val (v := (Value.pointer (some ⟨b28_, 4, none⟩))) (by kernel_rfl) ?_)
  refine S_list (T_val (v := (Value.int .i64 vr)) (x_load1 rfl Try.underlying2 rfl ((Holds.rd H49_ 2 rfl) 4 (Value.int .i64 vr) rfl)) ?_)
  refine S_list (T_val (v := (Value.pointer (some ⟨b28_, 5, none⟩))) (by kernel_rfl) ?_)
  refine S_list (T_val (v := (Value.int .i64 ls)) (x_load1 rfl Try.underlying2 rfl ((Holds.rd H49_ 2 rfl) 5 (Value.int .i64 ls) rfl)) ?_)
  refine S_list (T_val (v := (Value.agg #[(Value.slice (some ⟨b34_, 0, none⟩) k.size cp35_), (Value.int .i64 cr), (Value.int .i64 md), (Value.int .i64 vr), (Value.slice (some ⟨b42_, 0, none⟩) x.size cp43_), (Value.int .i64 ls)])) (by kernel_rfl) ?_)
  refine S_list (T_box (v := (Value.agg #[(Value.slice (some ⟨b34_, 0, none⟩) k.size cp35_), (Value.int .i64 cr), (Value.int .i64 md), (Value.int .i64 vr), (Value.slice (some ⟨b42_, 0, none⟩) x.size cp43_), (Value.int .i64 ls)])) rfl H49_ ?_)
  intro b50_ w51_ S53_ H52_
  replace H52_ : Holds w51_ (cl b50_ 123 [(Value.slice (some ⟨b34_, 0, none⟩) k.size cp35_), (Value.int .i64 cr), (Value.int .i64 md), (Value.int .i64 vr), (Value.slice (some ⟨b42_, 0, none⟩) x.size cp43_), (Value.int .i64 ls)] :: sl 5 1 (Value.slice (some ⟨b42_, 0, none⟩) x.size cp43_) x.size (bytesV (ints x)) :: sl 5 1 (Value.slice (some ⟨b34_, 0, none⟩) k.size cp35_) k.size (bytesV (ints k)) :: cl b28_ 33 [(Value.string k), (Value.string x), (Value.int .i64 cr), (Value.int .i64 md), (Value.int .i64 vr), (Value.int .i64 ls)] :: ro R :: cl c15_ 106 [(Value.int .i32 r), (Value.int .i32 2), K17_, (Value.nilIface), E18_] :: cl b7_ 33 [(Value.string k), (Value.string x), (Value.int .i64 cr), (Value.int .i64 md), (Value.int .i64 vr), (Value.int .i64 ls)] :: cl b2_ 31 [(Value.int .i64 2), (Value.int .i64 r), (Value.string key), (Value.string en), (Value.int .i64 n), (Value.string val), (Value.bool true)] :: F) := H52_
  have S54_ := Same.trans S48_ S53_
  refine S_list (T_val (v := (Value.pointer (some ⟨b50_, 0, none⟩))) (x_assign rfl) ?_)
  refine wpList_nil ?_
  refine (X_then (hK33_ _ _ ?_))
  clear hK33_
  refine C_ret ?_
  refine R_any (v := (Value.pointer (some ⟨b50_, 0, none⟩))) (run_results1 rfl rfl) ⟨_, rfl, ?_⟩
  refine ⟨⟨Holds.rd H52_ 7 rfl, Holds.rd H52_ 6 rfl, Holds.ro_at H52_ 4 rfl⟩, ?_⟩
  refine A_ready (i := 4) (rs := []) (by kernel_rfl) ?_
  refine AllR.cons ?_ AllR.nil
  refine A_op (ls' := #[true, true, true, true, true, false]) rfl (by kernel_rfl) (T_callW (al := [(Value.pointer (some ⟨c15_, 0, none⟩)), (Value.pointer (some ⟨b50_, 0, none⟩))]) rfl rfl cb35 (Calls.into (n := 8) (al := [(Value.pointer (some ⟨c15_, 0, none⟩)), (Value.pointer (some ⟨b50_, 0, none⟩))]) Try.func35 rfl Try.ntmps35 rfl rfl ?_))
  refine C_seq (fun K55_ hK55_ => ?_)
  refine C_reg ?_
  refine S_list (T_val (v := (Value.bool false)) (x_assign rfl) ?_)
  refine wpList_nil ?_
  refine (X_then (hK55_ _ _ ?_))
  clear hK55_
  refine C_seq (fun K56_ hK56_ => ?_)
  refine C_reg ?_
  refine S_list (T_val (v := (Value.pointer (some ⟨c15_, 0, none⟩))) (x_move rfl) ?_)
  refine S_list (T_val (v := (Value.pointer (some ⟨b50_, 0, none⟩))) (x_move rfl) ?_)
  have H57_ : Holds w51_ (ro R :: cl c15_ 106 [(Value.int .i32 r), (Value.int .i32 2), K17_, (Value.nilIface), E18_] :: cl b50_ 123 [(Value.slice (some ⟨b34_, 0, none⟩) k.size cp35_), (Value.int .i64 cr), (Value.int .i64 md), (Value.int .i64 vr), (Value.slice (some ⟨b42_, 0, none⟩) x.size cp43_), (Value.int .i64 ls)] :: sl 5 1 (Value.slice (some ⟨b42_, 0, none⟩) x.size cp43_) x.size (bytesV (ints x)) :: sl 5 1 (Value.slice (some ⟨b34_, 0, none⟩) k.size cp35_) k.size (bytesV (ints k)) :: cl b28_ 33 [(Value.string k), (Value.string x), (Value.int .i64 cr), (Value.int .i64 md), (Value.int .i64 vr), (Value.int .i64 ls)] :: cl b7_ 33 [(Value.string k), (Value.string x), (Value.int .i64 cr), (Value.int .i64 md), (Value.int .i64 vr), (Value.int .i64 ls)] :: cl b2_ 31 [(Value.int .i64 2), (Value.int .i64 r), (Value.string key), (Value.string en), (Value.int .i64 n), (Value.string val), (Value.bool true)] :: F) := (Holds.bring (Holds.bring (Holds.bring H52_ 0 rfl) 5 rfl) 5 rfl)
  refine S_list (T_call (al := [(Value.pointer (some ⟨c15_, 0, none⟩)), (Value.pointer (some ⟨b50_, 0, none⟩))]) (pre := [cl c15_ 106 [(Value.int .i32 r), (Value.int .i32 2), K17_, (Value.nilIface), E18_], cl b50_ 123 [(Value.slice (some ⟨b34_, 0, none⟩) k.size cp35_), (Value.int .i64 cr), (Value.int .i64 md), (Value.int .i64 vr), (Value.slice (some ⟨b42_, 0, none⟩) x.size cp43_), (Value.int .i64 ls)]]) (F := sl 5 1 (Value.slice (some ⟨b42_, 0, none⟩) x.size cp43_) x.size (bytesV (ints x)) :: sl 5 1 (Value.slice (some ⟨b34_, 0, none⟩) k.size cp35_) k.size (bytesV (ints k)) :: cl b28_ 33 [(Value.string k), (Value.string x), (Value.int .i64 cr), (Value.int .i64 md), (Value.int .i64 vr), (Value.int .i64 ls)] :: cl b7_ 33 [(Value.string k), (Value.string x), (Value.int .i64 cr), (Value.int .i64 md), (Value.int .i64 vr), (Value.int .i64 ls)] :: cl b2_ 31 [(Value.int .i64 2), (Value.int .i64 r), (Value.string key), (Value.string en), (Value.int .i64 n), (Value.string val), (Value.bool true)] :: F) rfl rfl cb60 (kvCmp2t R c15_ b50_ 0 r K17_ E18_ (Value.slice (some ⟨b34_, 0, none⟩) k.size cp35_) (Value.slice (some ⟨b42_, 0, none⟩) x.size cp43_) .nilIface cr md vr ls 0 ByteArray.empty ByteArray.empty (by omega) (by omega)) H57_ ?_)
  rintro v61_ p62_ w58_ ⟨rfl, rfl⟩ S60_ H59_
  replace H59_ : Holds w58_ (ro R :: sl 5 1 (Value.slice (some ⟨b42_, 0, none⟩) x.size cp43_) x.size (bytesV (ints x)) :: sl 5 1 (Value.slice (some ⟨b34_, 0, none⟩) k.size cp35_) k.size (bytesV (ints k)) :: cl b28_ 33 [(Value.string k), (Value.string x), (Value.int .i64 cr), (Value.int .i64 md), (Value.int .i64 vr), (Value.int .i64 ls)] :: cl b7_ 33 [(Value.string k), (Value.string x), (Value.int .i64 cr), (Value.int .i64 md), (Value.int .i64 vr), (Value.int .i64 ls)] :: cl b2_ 31 [(Value.int .i64 2), (Value.int .i64 r), (Value.string key), (Value.string en), (Value.int .i64 n), (Value.string val), (Value.bool true)] :: F) := H59_
  have S63_ := Same.trans S54_ S60_
  refine S_list (T_val (v := (Value.bool (resOk r (ordI md 0)))) (x_assign rfl) ?_)
  refine wpList_nil ?_
  refine (X_then (hK56_ _ _ ?_))
  clear hK56_
  refine C_ret ?_
  refine R_any (v := (Value.bool (resOk r (ordI md 0)))) (run_results1 rfl rfl) ⟨_, rfl, ?_⟩
  refine ⟨⟨Holds.rd H59_ 5 rfl, Holds.rd H59_ 4 rfl, Holds.ro_at H59_ 0 rfl⟩, ?_⟩
  refine A_take 5 (ls' := #[true, true, true, true, true, true]) (v := (Value.bool (resOk r (ordI md 0)))) rfl (by kernel_rfl) (by kernel_rfl) (by kernel_rfl) (by kernel_rfl) (fun _ _ _ h => h) (fun w hS => x_assign rfl) ⟨Holds.rd H59_ 5 rfl, Holds.rd H59_ 4 rfl, Holds.ro_at H59_ 0 rfl⟩ ?_
  refine A_done (by kernel_rfl) ?_
  refine (X_then (hK12_ _ _ ?_))
  clear hK12_
  refine C_ret ?_
  refine R_any (v := (Value.bool (resOk r (ordI md 0)))) (run_results1 rfl rfl) ?_
  have H64_ : Holds w58_ (ro R :: F) := (Holds.erase (Holds.erase (Holds.erase (Holds.erase (Holds.erase (Holds.bring H59_ 0 rfl) 1) 1) 1) 1) 1)
  exact ⟨_, [], rfl, ⟨rfl, rfl⟩, S63_, H64_⟩

set_option maxHeartbeats 400000 in
theorem cmpKV2f (R : HP) (r : Int) (key en : ByteArray) (n : Int) (val : ByteArray) (k x : ByteArray) (cr md vr ls : Int) (h0 : 0 ≤ r) (h1 : r ≤ 3) :
    Tri Try.prog 15 #[(Value.agg #[(Value.int .i64 2), (Value.int .i64 r), (Value.string key), (Value.string en), (Value.int .i64 n), (Value.string val), (Value.bool false)]), (Value.agg #[(Value.string k), (Value.string x), (Value.int .i64 cr), (Value.int .i64 md), (Value.int .i64 vr), (Value.int .i64 ls)])] R [] (fun v post => v = .bool (resOk r (ordI md n)) ∧ post = []) := by
  refine Tri.into (n := 10) (al := [(Value.agg #[(Value.int .i64 2), (Value.int .i64 r), (Value.string key), (Value.string en), (Value.int .i64 n), (Value.string val), (Value.bool false)]), (Value.agg #[(Value.string k), (Value.string x), (Value.int .i64 cr), (Value.int .i64 md), (Value.int .i64 vr), (Value.int .i64 ls)])]) Try.func15 rfl Try.ntmps15 rfl rfl fun w F H => ?_
  replace H : Holds w (ro R :: F) := H
  refine C_seq (fun K1_ hK1_ => ?_)
  refine C_reg ?_
  refine S_list (T_box (v := (Value.agg #[(Value.int .i64 2), (Value.int .i64 r), (Value.string key), (Value.string en), (Value.int .i64 n), (Value.string val), (Value.bool false)])) rfl H ?_)
  intro b2_ w3_ S5_ H4_
  replace H4_ : Holds w3_ (cl b2_ 31 [(Value.int .i64 2), (Value.int .i64 r), (Value.string key), (Value.string en), (Value.int .i64 n), (Value.string val), (Value.bool false)] :: ro R :: F) := H4_
  have S6_ := Same.trans (Same.refl w) S5_
  refine S_list (T_box (v := (Value.agg #[(Value.string k), (Value.string x), (Value.int .i64 cr), (Value.int .i64 md), (Value.int .i64 vr), (Value.int .i64 ls)])) rfl H4_ ?_)
  intro b7_ w8_ S10_ H9_
  replace H9_ : Holds w8_ (cl b7_ 33 [(Value.string k), (Value.string x), (Value.int .i64 cr), (Value.int .i64 md), (Value.int .i64 vr), (Value.int .i64 ls)] :: cl b2_ 31 [(Value.int .i64 2), (Value.int .i64 r), (Value.string key), (Value.string en), (Value.int .i64 n), (Value.string val), (Value.bool false)] :: ro R :: F) := H9_
  have S11_ := Same.trans S6_ S10_
  refine S_list (T_val (v := (Value.bool false)) (x_assign rfl) ?_)
  refine wpList_nil ?_
  refine (X_then (hK1_ _ _ ?_))
  clear hK1_
  refine C_seq (fun K12_ hK12_ => ?_)
  refine A_start (S := fun w => Rd b2_ [(Value.int .i64 2), (Value.int .i64 r), (Value.string key), (Value.string en), (Value.int .i64 n), (Value.string val), (Value.bool false)] w ∧ Rd b7_ [(Value.string k), (Value.string x), (Value.int .i64 cr), (Value.int .i64 md), (Value.int .i64 vr), (Value.int .i64 ls)] w ∧ Sub R (hp w)) (N := 6) foll rfl rfl ?_
  have H14_ : Holds w8_.drew (cl b7_ 33 [(Value.string k), (Value.string x), (Value.int .i64 cr), (Value.int .i64 md), (Value.int .i64 vr), (Value.int .i64 ls)] :: cl b2_ 31 [(Value.int .i64 2), (Value.int .i64 r), (Value.string key), (Value.string en), (Value.int .i64 n), (Value.string val), (Value.bool false)] :: ro R :: F) := H9_
  refine A_take 0 (ls' := #[true, false, false, false, false, false]) (v := (Value.agg #[(Value.int .i64 2), (Value.int .i64 r), (Value.string key), (Value.string en), (Value.int .i64 n), (Value.string val), (Value.bool false)])) rfl (by kernel_rfl) (by kernel_rfl) (by kernel_rfl) (by kernel_rfl) (fun _ _ _ h => h) (fun w hS => x_loadN (vs := [(Value.int .i64 2), (Value.int .i64 r), (Value.string key), (Value.string en), (Value.int .i64 n), (Value.string val), (Value.bool false)]) rfl Try.underlying31 rfl z31 rfl (Rd.cells hS.1 0 rfl)) ⟨Holds.rd H14_ 1 rfl, Holds.rd H14_ 0 rfl, Holds.ro_at H14_ 2 rfl⟩ ?_
  refine A_take 2 (ls' := #[true, false, true, false, false, false]) (v := (Value.agg #[(Value.string k), (Value.string x), (Value.int .i64 cr), (Value.int .i64 md), (Value.int .i64 vr), (Value.int .i64 ls)])) rfl (by kernel_rfl) (by kernel_rfl) (by kernel_rfl) (by kernel_rfl) (fun _ _ _ h => h) (fun w hS => x_loadN (vs := [(Value.string k), (Value.string x), (Value.int .i64 cr), (Value.int .i64 md), (Value.int .i64 vr), (Value.int .i64 ls)]) rfl Try.underlying33 rfl z33 rfl (Rd.cells hS.2.1 0 rfl)) ⟨Holds.rd H14_ 1 rfl, Holds.rd H14_ 0 rfl, Holds.ro_at H14_ 2 rfl⟩ ?_
  refine A_ready (i := 1) (rs := []) (by kernel_rfl) ?_
  refine AllR.cons ?_ AllR.nil
  have H20_ : Holds w8_.drew (ro R :: cl b7_ 33 [(Value.string k), (Value.string x), (Value.int .i64 cr), (Value.int .i64 md), (Value.int .i64 vr), (Value.int .i64 ls)] :: cl b2_ 31 [(Value.int .i64 2), (Value.int .i64 r), (Value.string key), (Value.string en), (Value.int .i64 n), (Value.string val), (Value.bool false)] :: F) := (Holds.bring H14_ 2 rfl)
  refine A_op (ls' := #[true, true, true, false, false, false]) rfl (by kernel_rfl) (T_call (al := [(Value.agg #[(Value.int .i64 2), (Value.int .i64 r), (Value.string key), (Value.string en), (Value.int .i64 n), (Value.string val), (Value.bool false)])]) (pre := []) (F := cl b7_ 33 [(Value.string k), (Value.string x), (Value.int .i64 cr), (Value.int .i64 md), (Value.int .i64 vr), (Value.int .i64 ls)] :: cl b2_ 31 [(Value.int .i64 2), (Value.int .i64 r), (Value.string key), (Value.string en), (Value.int .i64 n), (Value.string val), (Value.bool false)] :: F) rfl rfl cb36 (cmpIn2f R r key en n val (by omega) (by omega)) H20_ ?_)
  rintro v24_ p25_ w21_ ⟨c15_, u16_, K17_, E18_, rfl, rfl⟩ S23_ H22_
  replace H22_ : Holds w21_ (ro R :: cl c15_ 106 [(Value.int .i32 r), (Value.int .i32 2), K17_, (Value.iface 113 (Value.pointer (some ⟨u16_, 0, none⟩))), E18_] :: cl u16_ 115 [(Value.int .i64 n)] :: cl b7_ 33 [(Value.string k), (Value.string x), (Value.int .i64 cr), (Value.int .i64 md), (Value.int .i64 vr), (Value.int .i64 ls)] :: cl b2_ 31 [(Value.int .i64 2), (Value.int .i64 r), (Value.string key), (Value.string en), (Value.int .i64 n), (Value.string val), (Value.bool false)] :: F) := H22_
  have S26_ := Same.trans (Same.trans S11_ (Same.drew _)) S23_
  refine ⟨⟨Holds.rd H22_ 4 rfl, Holds.rd H22_ 3 rfl, Holds.ro_at H22_ 0 rfl⟩, ?_⟩
  refine A_ready (i := 3) (rs := []) (by kernel_rfl) ?_
  refine AllR.cons ?_ AllR.nil
  refine A_op (ls' := #[true, true, true, true, false, false]) rfl (by kernel_rfl) (T_callW (al := [(Value.agg #[(Value.string k), (Value.string x), (Value.int .i64 cr), (Value.int .i64 md), (Value.int .i64 vr), (Value.int .i64 ls)])]) rfl rfl cb37 (Calls.into (n := 19) (al := [(Value.agg #[(Value.string k), (Value.string x), (Value.int .i64 cr), (Value.int .i64 md), (Value.int .i64 vr), (Value.int .i64 ls)])]) Try.func37 rfl Try.ntmps37 rfl rfl ?_))
  refine C_seq (fun K27_ hK27_ => ?_)
  refine C_reg ?_
  refine S_list (T_box (v := (Value.agg #[(Value.string k), (Value.string x), (Value.int .i64 cr), (Value.int .i64 md), (Value.int .i64 vr), (Value.int .i64 ls)])) rfl H22_ ?_)
  intro b28_ w29_ S31_ H30_
  replace H30_ : Holds w29_ (cl b28_ 33 [(Value.string k), (Value.string x), (Value.int .i64 cr), (Value.int .i64 md), (Value.int .i64 vr), (Value.int .i64 ls)] :: ro R :: cl c15_ 106 [(Value.int .i32 r), (Value.int .i32 2), K17_, (Value.iface 113 (Value.pointer (some ⟨u16_, 0, none⟩))), E18_] :: cl u16_ 115 [(Value.int .i64 n)] :: cl b7_ 33 [(Value.string k), (Value.string x), (Value.int .i64 cr), (Value.int .i64 md), (Value.int .i64 vr), (Value.int .i64 ls)] :: cl b2_ 31 [(Value.int .i64 2), (Value.int .i64 r), (Value.string key), (Value.string en), (Value.int .i64 n), (Value.string val), (Value.bool false)] :: F) := H30_
  have S32_ := Same.trans S26_ S31_
  refine S_list (T_val (v := (Value.pointer none)) (x_assign rfl) ?_)
  refine wpList_nil ?_
  refine (X_then (hK27_ _ _ ?_))
  clear hK27_
  refine C_seq (fun K33_ hK33_ => ?_)
  refine C_reg ?_
  refine S_list (T_val (v := (Value.pointer (some ⟨b28_, 0, none⟩))) (by kernel_rfl) ?_)
  refine S_list (T_val (v := (Value.string k)) (x_load1 rfl Try.underlying9 rfl ((Holds.rd H30_ 0 rfl) 0 (Value.string k) rfl)) ?_)
  refine S_list (T_s2b rfl Try.underlying9 Try.underlying25 Try.underlying5 H30_ ?_)
  intro b34_ cp35_ w36_ S38_ hc39_ H37_
  have S40_ := Same.trans S32_ S38_
  have H41_ : Holds w36_ (sl 5 1 (Value.slice (some ⟨b34_, 0, none⟩) k.size cp35_) k.size (bytesV (ints k)) :: cl b28_ 33 [(Value.string k), (Value.string x), (Value.int .i64 cr), (Value.int .i64 md), (Value.int .i64 vr), (Value.int .i64 ls)] :: ro R :: cl c15_ 106 [(Value.int .i32 r), (Value.int .i32 2), K17_, (Value.iface 113 (Value.pointer (some ⟨u16_, 0, none⟩))), E18_] :: cl u16_ 115 [(Value.int .i64 n)] :: cl b7_ 33 [(Value.string k), (Value.string x), (Value.int .i64 cr), (Value.int .i64 md), (Value.int .i64 vr), (Value.int .i64 ls)] :: cl b2_ 31 [(Value.int .i64 2), (Value.int .i64 r), (Value.string key), (Value.string en), (Value.int .i64 n), (Value.string val), (Value.bool false)] :: F) := cast2 (P := fun (c__ : List Value) (k__ : Nat) => Holds w36_ (sl 5 1 (Value.slice (some ⟨b34_, 0, none⟩) k.size cp35_) k__ c__ :: cl b28_ 33 [(Value.string k), (Value.string x), (Value.int .i64 cr), (Value.int .i64 md), (Value.int .i64 vr), (Value.int .i64 ls)] :: ro R :: cl c15_ 106 [(Value.int .i32 r), (Value.int .i32 2), K17_, (Value.iface 113 (Value.pointer (some ⟨u16_, 0, none⟩))), E18_] :: cl u16_ 115 [(Value.int .i64 n)] :: cl b7_ 33 [(Value.string k), (Value.string x), (Value.int .i64 cr), (Value.int .i64 md), (Value.int .i64 vr), (Value.int .i64 ls)] :: cl b2_ 31 [(Value.int .i64 2), (Value.int .i64 r), (Value.string key), (Value.string en), (Value.int .i64 n), (Value.string val), (Value.bool false)] :: F)) (byteCells_bytesV _ : byteCells k = bytesV (ints k)) (rfl : k.size = k.size) H37_
  refine S_list (T_val (v := (Value.pointer (some ⟨b28_, 1, none⟩))) (by kernel_rfl) ?_)
  refine S_list (T_val (v := (Value.string x)) (x_load1 rfl Try.underlying9 rfl ((Holds.rd H41_ 1 rfl) 1 (Value.string x) rfl)) ?_)
  refine S_list (T_s2b rfl Try.underlying9 Try.underlying25 Try.underlying5 H41_ ?_)
  intro b42_ cp43_ w44_ S46_ hc47_ H45_
  have S48_ := Same.trans S40_ S46_
  have H49_ : Holds w44_ (sl 5 1 (Value.slice (some ⟨b42_, 0, none⟩) x.size cp43_) x.size (bytesV (ints x)) :: sl 5 1 (Value.slice (some ⟨b34_, 0, none⟩) k.size cp35_) k.size (bytesV (ints k)) :: cl b28_ 33 [(Value.string k), (Value.string x), (Value.int .i64 cr), (Value.int .i64 md), (Value.int .i64 vr), (Value.int .i64 ls)] :: ro R :: cl c15_ 106 [(Value.int .i32 r), (Value.int .i32 2), K17_, (Value.iface 113 (Value.pointer (some ⟨u16_, 0, none⟩))), E18_] :: cl u16_ 115 [(Value.int .i64 n)] :: cl b7_ 33 [(Value.string k), (Value.string x), (Value.int .i64 cr), (Value.int .i64 md), (Value.int .i64 vr), (Value.int .i64 ls)] :: cl b2_ 31 [(Value.int .i64 2), (Value.int .i64 r), (Value.string key), (Value.string en), (Value.int .i64 n), (Value.string val), (Value.bool false)] :: F) := cast2 (P := fun (c__ : List Value) (k__ : Nat) => Holds w44_ (sl 5 1 (Value.slice (some ⟨b42_, 0, none⟩) x.size cp43_) k__ c__ :: sl 5 1 (Value.slice (some ⟨b34_, 0, none⟩) k.size cp35_) k.size (bytesV (ints k)) :: cl b28_ 33 [(Value.string k), (Value.string x), (Value.int .i64 cr), (Value.int .i64 md), (Value.int .i64 vr), (Value.int .i64 ls)] :: ro R :: cl c15_ 106 [(Value.int .i32 r), (Value.int .i32 2), K17_, (Value.iface 113 (Value.pointer (some ⟨u16_, 0, none⟩))), E18_] :: cl u16_ 115 [(Value.int .i64 n)] :: cl b7_ 33 [(Value.string k), (Value.string x), (Value.int .i64 cr), (Value.int .i64 md), (Value.int .i64 vr), (Value.int .i64 ls)] :: cl b2_ 31 [(Value.int .i64 2), (Value.int .i64 r), (Value.string key), (Value.string en), (Value.int .i64 n), (Value.string val), (Value.bool false)] :: F)) (byteCells_bytesV _ : byteCells x = bytesV (ints x)) (rfl : x.size = x.size) H45_
  refine S_list (T_val (v := (Value.pointer (some ⟨b28_, 2, none⟩))) (by kernel_rfl) ?_)
  refine S_list (T_val (v := (Value.int .i64 cr)) (x_load1 rfl Try.underlying2 rfl ((Holds.rd H49_ 2 rfl) 2 (Value.int .i64 cr) rfl)) ?_)
  refine S_list (T_val (v := (Value.pointer (some ⟨b28_, 3, none⟩))) (by kernel_rfl) ?_)
  refine S_list (T_val (v := (Value.int .i64 md)) (x_load1 rfl Try.underlying2 rfl ((Holds.rd H49_ 2 rfl) 3 (Value.int .i64 md) rfl)) ?_)
  refine S_list (T_val (v := (Value.pointer (some ⟨b28_, 4, none⟩))) (by kernel_rfl) ?_)
  refine S_list (T_val (v := (Value.int .i64 vr)) (x_load1 rfl Try.underlying2 rfl ((Holds.rd H49_ 2 rfl) 4 (Value.int .i64 vr) rfl)) ?_)
  refine S_list (T_val (v := (Value.pointer (some ⟨b28_, 5, none⟩))) (by kernel_rfl) ?_)
  refine S_list (T_val (v := (Value.int .i64 ls)) (x_load1 rfl Try.underlying2 rfl ((Holds.rd H49_ 2 rfl) 5 (Value.int .i64 ls) rfl)) ?_)
  refine S_list (T_val (v := (Value.agg #[(Value.slice (some ⟨b34_, 0, none⟩) k.size cp35_), (Value.int .i64 cr), (Value.int .i64 md), (Value.int .i64 vr), (Value.slice (some ⟨b42_, 0, none⟩) x.size cp43_), (Value.int .i64 ls)])) (by kernel_rfl) ?_)
  refine S_list (T_box (v := (Value.agg #[(Value.slice (some ⟨b34_, 0, none⟩) k.size cp35_), (Value.int .i64 cr), (Value.int .i64 md), (Value.int .i64 vr), (Value.slice (some ⟨b42_, 0, none⟩) x.size cp43_), (Value.int .i64 ls)])) rfl H49_ ?_)
  intro b50_ w51_ S53_ H52_
  replace H52_ : Holds w51_ (cl b50_ 123 [(Value.slice (some ⟨b34_, 0, none⟩) k.size cp35_), (Value.int .i64 cr), (Value.int .i64 md), (Value.int .i64 vr), (Value.slice (some ⟨b42_, 0, none⟩) x.size cp43_), (Value.int .i64 ls)] :: sl 5 1 (Value.slice (some ⟨b42_, 0, none⟩) x.size cp43_) x.size (bytesV (ints x)) :: sl 5 1 (Value.slice (some ⟨b34_, 0, none⟩) k.size cp35_) k.size (bytesV (ints k)) :: cl b28_ 33 [(Value.string k), (Value.string x), (Value.int .i64 cr), (Value.int .i64 md), (Value.int .i64 vr), (Value.int .i64 ls)] :: ro R :: cl c15_ 106 [(Value.int .i32 r), (Value.int .i32 2), K17_, (Value.iface 113 (Value.pointer (some ⟨u16_, 0, none⟩))), E18_] :: cl u16_ 115 [(Value.int .i64 n)] :: cl b7_ 33 [(Value.string k), (Value.string x), (Value.int .i64 cr), (Value.int .i64 md), (Value.int .i64 vr), (Value.int .i64 ls)] :: cl b2_ 31 [(Value.int .i64 2), (Value.int .i64 r), (Value.string key), (Value.string en), (Value.int .i64 n), (Value.string val), (Value.bool false)] :: F) := H52_
  have S54_ := Same.trans S48_ S53_
  refine S_list (T_val (v := (Value.pointer (some ⟨b50_, 0, none⟩))) (x_assign rfl) ?_)
  refine wpList_nil ?_
  refine (X_then (hK33_ _ _ ?_))
  clear hK33_
  refine C_ret ?_
  refine R_any (v := (Value.pointer (some ⟨b50_, 0, none⟩))) (run_results1 rfl rfl) ⟨_, rfl, ?_⟩
  refine ⟨⟨Holds.rd H52_ 8 rfl, Holds.rd H52_ 7 rfl, Holds.ro_at H52_ 4 rfl⟩, ?_⟩
  refine A_ready (i := 4) (rs := []) (by kernel_rfl) ?_
  refine AllR.cons ?_ AllR.nil
  refine A_op (ls' := #[true, true, true, true, true, false]) rfl (by kernel_rfl) (T_callW (al := [(Value.pointer (some ⟨c15_, 0, none⟩)), (Value.pointer (some ⟨b50_, 0, none⟩))]) rfl rfl cb35 (Calls.into (n := 8) (al := [(Value.pointer (some ⟨c15_, 0, none⟩)), (Value.pointer (some ⟨b50_, 0, none⟩))]) Try.func35 rfl Try.ntmps35 rfl rfl ?_))
  refine C_seq (fun K55_ hK55_ => ?_)
  refine C_reg ?_
  refine S_list (T_val (v := (Value.bool false)) (x_assign rfl) ?_)
  refine wpList_nil ?_
  refine (X_then (hK55_ _ _ ?_))
  clear hK55_
  refine C_seq (fun K56_ hK56_ => ?_)
  refine C_reg ?_
  refine S_list (T_val (v := (Value.pointer (some ⟨c15_, 0, none⟩))) (x_move rfl) ?_)
  refine S_list (T_val (v := (Value.pointer (some ⟨b50_, 0, none⟩))) (x_move rfl) ?_)
  have H57_ : Holds w51_ (ro R :: cl c15_ 106 [(Value.int .i32 r), (Value.int .i32 2), K17_, (Value.iface 113 (Value.pointer (some ⟨u16_, 0, none⟩))), E18_] :: cl b50_ 123 [(Value.slice (some ⟨b34_, 0, none⟩) k.size cp35_), (Value.int .i64 cr), (Value.int .i64 md), (Value.int .i64 vr), (Value.slice (some ⟨b42_, 0, none⟩) x.size cp43_), (Value.int .i64 ls)] :: cl u16_ 115 [(Value.int .i64 n)] :: sl 5 1 (Value.slice (some ⟨b42_, 0, none⟩) x.size cp43_) x.size (bytesV (ints x)) :: sl 5 1 (Value.slice (some ⟨b34_, 0, none⟩) k.size cp35_) k.size (bytesV (ints k)) :: cl b28_ 33 [(Value.string k), (Value.string x), (Value.int .i64 cr), (Value.int .i64 md), (Value.int .i64 vr), (Value.int .i64 ls)] :: cl b7_ 33 [(Value.string k), (Value.string x), (Value.int .i64 cr), (Value.int .i64 md), (Value.int .i64 vr), (Value.int .i64 ls)] :: cl b2_ 31 [(Value.int .i64 2), (Value.int .i64 r), (Value.string key), (Value.string en), (Value.int .i64 n), (Value.string val), (Value.bool false)] :: F) := (Holds.bring (Holds.bring (Holds.bring (Holds.bring H52_ 6 rfl) 1 rfl) 6 rfl) 6 rfl)
  refine S_list (T_call (al := [(Value.pointer (some ⟨c15_, 0, none⟩)), (Value.pointer (some ⟨b50_, 0, none⟩))]) (pre := [cl c15_ 106 [(Value.int .i32 r), (Value.int .i32 2), K17_, (Value.iface 113 (Value.pointer (some ⟨u16_, 0, none⟩))), E18_], cl b50_ 123 [(Value.slice (some ⟨b34_, 0, none⟩) k.size cp35_), (Value.int .i64 cr), (Value.int .i64 md), (Value.int .i64 vr), (Value.slice (some ⟨b42_, 0, none⟩) x.size cp43_), (Value.int .i64 ls)], cl u16_ 115 [(Value.int .i64 n)]]) (F := sl 5 1 (Value.slice (some ⟨b42_, 0, none⟩) x.size cp43_) x.size (bytesV (ints x)) :: sl 5 1 (Value.slice (some ⟨b34_, 0, none⟩) k.size cp35_) k.size (bytesV (ints k)) :: cl b28_ 33 [(Value.string k), (Value.string x), (Value.int .i64 cr), (Value.int .i64 md), (Value.int .i64 vr), (Value.int .i64 ls)] :: cl b7_ 33 [(Value.string k), (Value.string x), (Value.int .i64 cr), (Value.int .i64 md), (Value.int .i64 vr), (Value.int .i64 ls)] :: cl b2_ 31 [(Value.int .i64 2), (Value.int .i64 r), (Value.string key), (Value.string en), (Value.int .i64 n), (Value.string val), (Value.bool false)] :: F) rfl rfl cb60 (kvCmp2f R c15_ b50_ u16_ r K17_ E18_ (Value.slice (some ⟨b34_, 0, none⟩) k.size cp35_) (Value.slice (some ⟨b42_, 0, none⟩) x.size cp43_) .nilIface cr md vr ls n ByteArray.empty ByteArray.empty (by omega) (by omega)) H57_ ?_)
  rintro v61_ p62_ w58_ ⟨rfl, rfl⟩ S60_ H59_
  replace H59_ : Holds w58_ (ro R :: sl 5 1 (Value.slice (some ⟨b42_, 0, none⟩) x.size cp43_) x.size (bytesV (ints x)) :: sl 5 1 (Value.slice (some ⟨b34_, 0, none⟩) k.size cp35_) k.size (bytesV (ints k)) :: cl b28_ 33 [(Value.string k), (Value.string x), (Value.int .i64 cr), (Value.int .i64 md), (Value.int .i64 vr), (Value.int .i64 ls)] :: cl b7_ 33 [(Value.string k), (Value.string x), (Value.int .i64 cr), (Value.int .i64 md), (Value.int .i64 vr), (Value.int .i64 ls)] :: cl b2_ 31 [(Value.int .i64 2), (Value.int .i64 r), (Value.string key), (Value.string en), (Value.int .i64 n), (Value.string val), (Value.bool false)] :: F) := H59_
  have S63_ := Same.trans S54_ S60_
  refine S_list (T_val (v := (Value.bool (resOk r (ordI md n)))) (x_assign rfl) ?_)
  refine wpList_nil ?_
  refine (X_then (hK56_ _ _ ?_))
  clear hK56_
  refine C_ret ?_
  refine R_any (v := (Value.bool (resOk r (ordI md n)))) (run_results1 rfl rfl) ⟨_, rfl, ?_⟩
  refine ⟨⟨Holds.rd H59_ 5 rfl, Holds.rd H59_ 4 rfl, Holds.ro_at H59_ 0 rfl⟩, ?_⟩
  refine A_take 5 (ls' := #[true, true, true, true, true, true]) (v := (Value.bool (resOk r (ordI md n)))) rfl (by kernel_rfl) (by kernel_rfl) (by kernel_rfl) (by kernel_rfl) (fun _ _ _ h => h) (fun w hS => x_assign rfl) ⟨Holds.rd H59_ 5 rfl, Holds.rd H59_ 4 rfl, Holds.ro_at H59_ 0 rfl⟩ ?_
  refine A_done (by kernel_rfl) ?_
  refine (X_then (hK12_ _ _ ?_))
  clear hK12_
  refine C_ret ?_
  refine R_any (v := (Value.bool (resOk r (ordI md n)))) (run_results1 rfl rfl) ?_
  have H64_ : Holds w58_ (ro R :: F) := (Holds.erase (Holds.erase (Holds.erase (Holds.erase (Holds.erase (Holds.bring H59_ 0 rfl) 1) 1) 1) 1) 1)
  exact ⟨_, [], rfl, ⟨rfl, rfl⟩, S63_, H64_⟩

set_option maxHeartbeats 400000 in
theorem cmpKV3t (R : HP) (r : Int) (key en : ByteArray) (n : Int) (val : ByteArray) (k x : ByteArray) (cr md vr ls : Int) (h0 : 0 ≤ r) (h1 : r ≤ 3) :
    Tri Try.prog 15 #[(Value.agg #[(Value.int .i64 3), (Value.int .i64 r), (Value.string key), (Value.string en), (Value.int .i64 n), (Value.string val), (Value.bool true)]), (Value.agg #[(Value.string k), (Value.string x), (Value.int .i64 cr), (Value.int .i64 md), (Value.int .i64 vr), (Value.int .i64 ls)])] R [] (fun v post => v = .bool (resOk r (Lib.compareBytes (u8s (ints x)) (u8s []))) ∧ post = []) := by
  refine Tri.into (n := 10) (al := [(Value.agg #[(Value.int .i64 3), (Value.int .i64 r), (Value.string key), (Value.string en), (Value.int .i64 n), (Value.string val), (Value.bool true)]), (Value.agg #[(Value.string k), (Value.string x), (Value.int .i64 cr), (Value.int .i64 md), (Value.int .i64 vr), (Value.int .i64 ls)])]) Try.func15 rfl Try.ntmps15 rfl rfl fun w F H => ?_
  replace H : Holds w (ro R :: F) := H
  refine C_seq (fun K1_ hK1_ => ?_)
  refine C_reg ?_
  refine S_list (T_box (v := (Value.agg #[(Value.int .i64 3), (Value.int .i64 r), (Value.string key), (Value.string en), (Value.int .i64 n), (Value.string val), (Value.bool true)])) rfl H ?_)
  intro b2_ w3_ S5_ H4_
  replace H4_ : Holds w3_ (cl b2_ 31 [(Value.int .i64 3), (Value.int .i64 r), (Value.string key), (Value.string en), (Value.int .i64 n), (Value.string val), (Value.bool true)] :: ro R :: F) := H4_
  have S6_ := Same.trans (Same.refl w) S5_
  refine S_list (T_box (v := (Value.agg #[(Value.string k), (Value.string x), (Value.int .i64 cr), (Value.int .i64 md), (Value.int .i64 vr), (Value.int .i64 ls)])) rfl H4_ ?_)
  intro b7_ w8_ S10_ H9_
  replace H9_ : Holds w8_ (cl b7_ 33 [(Value.string k), (Value.string x), (Value.int .i64 cr), (Value.int .i64 md), (Value.int .i64 vr), (Value.int .i64 ls)] :: cl b2_ 31 [(Value.int .i64 3), (Value.int .i64 r), (Value.string key), (Value.string en), (Value.int .i64 n), (Value.string val), (Value.bool true)] :: ro R :: F) := H9_
  have S11_ := Same.trans S6_ S10_
  refine S_list (T_val (v := (Value.bool false)) (x_assign rfl) ?_)
  refine wpList_nil ?_
  refine (X_then (hK1_ _ _ ?_))
  clear hK1_
  refine C_seq (fun K12_ hK12_ => ?_)
  refine A_start (S := fun w => Rd b2_ [(Value.int .i64 3), (Value.int .i64 r), (Value.string key), (Value.string en), (Value.int .i64 n), (Value.string val), (Value.bool true)] w ∧ Rd b7_ [(Value.string k), (Value.string x), (Value.int .i64 cr), (Value.int .i64 md), (Value.int .i64 vr), (Value.int .i64 ls)] w ∧ Sub R (hp w)) (N := 6) foll rfl rfl ?_
  have H14_ : Holds w8_.drew (cl b7_ 33 [(Value.string k), (Value.string x), (Value.int .i64 cr), (Value.int .i64 md), (Value.int .i64 vr), (Value.int .i64 ls)] :: cl b2_ 31 [(Value.int .i64 3), (Value.int .i64 r), (Value.string key), (Value.string en), (Value.int .i64 n), (Value.string val), (Value.bool true)] :: ro R :: F) := H9_
  refine A_take 0 (ls' := #[true, false, false, false, false, false]) (v := (Value.agg #[(Value.int .i64 3), (Value.int .i64 r), (Value.string key), (Value.string en), (Value.int .i64 n), (Value.string val), (Value.bool true)])) rfl (by kernel_rfl) (by kernel_rfl) (by kernel_rfl) (by kernel_rfl) (fun _ _ _ h => h) (fun w hS => x_loadN (vs := [(Value.int .i64 3), (Value.int .i64 r), (Value.string key), (Value.string en), (Value.int .i64 n), (Value.string val), (Value.bool true)]) rfl Try.underlying31 rfl z31 rfl (Rd.cells hS.1 0 rfl)) ⟨Holds.rd H14_ 1 rfl, Holds.rd H14_ 0 rfl, Holds.ro_at H14_ 2 rfl⟩ ?_
  refine A_take 2 (ls' := #[true, false, true, false, false, false]) (v := (Value.agg #[(Value.string k), (Value.string x), (Value.int .i64 cr), (Value.int .i64 md), (Value.int .i64 vr), (Value.int .i64 ls)])) rfl (by kernel_rfl) (by kernel_rfl) (by kernel_rfl) (by kernel_rfl) (fun _ _ _ h => h) (fun w hS => x_loadN (vs := [(Value.string k), (Value.string x), (Value.int .i64 cr), (Value.int .i64 md), (Value.int .i64 vr), (Value.int .i64 ls)]) rfl Try.underlying33 rfl z33 rfl (Rd.cells hS.2.1 0 rfl)) ⟨Holds.rd H14_ 1 rfl, Holds.rd H14_ 0 rfl, Holds.ro_at H14_ 2 rfl⟩ ?_
  refine A_ready (i := 1) (rs := []) (by kernel_rfl) ?_
  refine AllR.cons ?_ AllR.nil
  have H20_ : Holds w8_.drew (ro R :: cl b7_ 33 [(Value.string k), (Value.string x), (Value.int .i64 cr), (Value.int .i64 md), (Value.int .i64 vr), (Value.int .i64 ls)] :: cl b2_ 31 [(Value.int .i64 3), (Value.int .i64 r), (Value.string key), (Value.string en), (Value.int .i64 n), (Value.string val), (Value.bool true)] :: F) := (Holds.bring H14_ 2 rfl)
  refine A_op (ls' := #[true, true, true, false, false, false]) rfl (by kernel_rfl) (T_call (al := [(Value.agg #[(Value.int .i64 3), (Value.int .i64 r), (Value.string key), (Value.string en), (Value.int .i64 n), (Value.string val), (Value.bool true)])]) (pre := []) (F := cl b7_ 33 [(Value.string k), (Value.string x), (Value.int .i64 cr), (Value.int .i64 md), (Value.int .i64 vr), (Value.int .i64 ls)] :: cl b2_ 31 [(Value.int .i64 3), (Value.int .i64 r), (Value.string key), (Value.string en), (Value.int .i64 n), (Value.string val), (Value.bool true)] :: F) rfl rfl cb36 (cmpIn3t R r key en n val (by omega) (by omega)) H20_ ?_)
  rintro v24_ p25_ w21_ ⟨c15_, K17_, E18_, rfl, rfl⟩ S23_ H22_
  replace H22_ : Holds w21_ (ro R :: cl c15_ 106 [(Value.int .i32 r), (Value.int .i32 3), K17_, (Value.nilIface), E18_] :: cl b7_ 33 [(Value.string k), (Value.string x), (Value.int .i64 cr), (Value.int .i64 md), (Value.int .i64 vr), (Value.int .i64 ls)] :: cl b2_ 31 [(Value.int .i64 3), (Value.int .i64 r), (Value.string key), (Value.string en), (Value.int .i64 n), (Value.string val), (Value.bool true)] :: F) := H22_
  have S26_ := Same.trans (Same.trans S11_ (Same.drew _)) S23_
  refine ⟨⟨Holds.rd H22_ 3 rfl, Holds.rd H22_ 2 rfl, Holds.ro_at H22_ 0 rfl⟩, ?_⟩
  refine A_ready (i := 3) (rs := []) (by kernel_rfl) ?_
  refine AllR.cons ?_ AllR.nil
  refine A_op (ls' := #[true, true, true, true, false, false]) rfl (by kernel_rfl) (T_callW (al := [(Value.agg #[(Value.string k), (Value.string x), (Value.int .i64 cr), (Value.int .i64 md), (Value.int .i64 vr), (Value.int .i64 ls)])]) rfl rfl cb37 (Calls.into (n := 19) (al := [(Value.agg #[(Value.string k), (Value.string x), (Value.int .i64 cr), (Value.int .i64 md), (Value.int .i64 vr), (Value.int .i64 ls)])]) Try.func37 rfl Try.ntmps37 rfl rfl ?_))
  refine C_seq (fun K27_ hK27_ => ?_)
  refine C_reg ?_
  refine S_list (T_box (v := (Value.agg #[(Value.string k), (Value.string x), (Value.int .i64 cr), (Value.int .i64 md), (Value.int .i64 vr), (Value.int .i64 ls)])) rfl H22_ ?_)
  intro b28_ w29_ S31_ H30_
  replace H30_ : Holds w29_ (cl b28_ 33 [(Value.string k), (Value.string x), (Value.int .i64 cr), (Value.int .i64 md), (Value.int .i64 vr), (Value.int .i64 ls)] :: ro R :: cl c15_ 106 [(Value.int .i32 r), (Value.int .i32 3), K17_, (Value.nilIface), E18_] :: cl b7_ 33 [(Value.string k), (Value.string x), (Value.int .i64 cr), (Value.int .i64 md), (Value.int .i64 vr), (Value.int .i64 ls)] :: cl b2_ 31 [(Value.int .i64 3), (Value.int .i64 r), (Value.string key), (Value.string en), (Value.int .i64 n), (Value.string val), (Value.bool true)] :: F) := H30_
  have S32_ := Same.trans S26_ S31_
  refine S_list (T_val (v := (Value.pointer none)) (x_assign rfl) ?_)
  refine wpList_nil ?_
  refine (X_then (hK27_ _ _ ?_))
  clear hK27_
  refine C_seq (fun K33_ hK33_ => ?_)
  refine C_reg ?_
  refine S_list (T_val (v := (Value.pointer (some ⟨b28_, 0, none⟩))) (by kernel_rfl) ?_)
  refine S_list (T_val (v := (Value.string k)) (x_load1 rfl Try.underlying9 rfl ((Holds.rd H30_ 0 rfl) 0 (Value.string k) rfl)) ?_)
  refine S_list (T_s2b rfl Try.underlying9 Try.underlying25 Try.underlying5 H30_ ?_)
  intro b34_ cp35_ w36_ S38_ hc39_ H37_
  have S40_ := Same.trans S32_ S38_
  have H41_ : Holds w36_ (sl 5 1 (Value.slice (some ⟨b34_, 0, none⟩) k.size cp35_) k.size (bytesV (ints k)) :: cl b28_ 33 [(Value.string k), (Value.string x), (Value.int .i64 cr), (Value.int .i64 md), (Value.int .i64 vr), (Value.int .i64 ls)] :: ro R :: cl c15_ 106 [(Value.int .i32 r), (Value.int .i32 3), K17_, (Value.nilIface), E18_] :: cl b7_ 33 [(Value.string k), (Value.string x), (Value.int .i64 cr), (Value.int .i64 md), (Value.int .i64 vr), (Value.int .i64 ls)] :: cl b2_ 31 [(Value.int .i64 3), (Value.int .i64 r), (Value.string key), (Value.string en), (Value.int .i64 n), (Value.string val), (Value.bool true)] :: F) := cast2 (P := fun (c__ : List Value) (k__ : Nat) => Holds w36_ (sl 5 1 (Value.slice (some ⟨b34_, 0, none⟩) k.size cp35_) k__ c__ :: cl b28_ 33 [(Value.string k), (Value.string x), (Value.int .i64 cr), (Value.int .i64 md), (Value.int .i64 vr), (Value.int .i64 ls)] :: ro R :: cl c15_ 106 [(Value.int .i32 r), (Value.int .i32 3), K17_, (Value.nilIface), E18_] :: cl b7_ 33 [(Value.string k), (Value.string x), (Value.int .i64 cr), (Value.int .i64 md), (Value.int .i64 vr), (Value.int .i64 ls)] :: cl b2_ 31 [(Value.int .i64 3), (Value.int .i64 r), (Value.string key), (Value.string en), (Value.int .i64 n), (Value.string val), (Value.bool true)] :: F)) (byteCells_bytesV _ : byteCells k = bytesV (ints k)) (rfl : k.size = k.size) H37_
  refine S_list (T_val (v := (Value.pointer (some ⟨b28_, 1, none⟩))) (by kernel_rfl) ?_)
  refine S_list (T_val (v := (Value.string x)) (x_load1 rfl Try.underlying9 rfl ((Holds.rd H41_ 1 rfl) 1 (Value.string x) rfl)) ?_)
  refine S_list (T_s2b rfl Try.underlying9 Try.underlying25 Try.underlying5 H41_ ?_)
  intro b42_ cp43_ w44_ S46_ hc47_ H45_
  have S48_ := Same.trans S40_ S46_
  have H49_ : Holds w44_ (sl 5 1 (Value.slice (some ⟨b42_, 0, none⟩) x.size cp43_) x.size (bytesV (ints x)) :: sl 5 1 (Value.slice (some ⟨b34_, 0, none⟩) k.size cp35_) k.size (bytesV (ints k)) :: cl b28_ 33 [(Value.string k), (Value.string x), (Value.int .i64 cr), (Value.int .i64 md), (Value.int .i64 vr), (Value.int .i64 ls)] :: ro R :: cl c15_ 106 [(Value.int .i32 r), (Value.int .i32 3), K17_, (Value.nilIface), E18_] :: cl b7_ 33 [(Value.string k), (Value.string x), (Value.int .i64 cr), (Value.int .i64 md), (Value.int .i64 vr), (Value.int .i64 ls)] :: cl b2_ 31 [(Value.int .i64 3), (Value.int .i64 r), (Value.string key), (Value.string en), (Value.int .i64 n), (Value.string val), (Value.bool true)] :: F) := cast2 (P := fun (c__ : List Value) (k__ : Nat) => Holds w44_ (sl 5 1 (Value.slice (some ⟨b42_, 0, none⟩) x.size cp43_) k__ c__ :: sl 5 1 (Value.slice (some ⟨b34_, 0, none⟩) k.size cp35_) k.size (bytesV (ints k)) :: cl b28_ 33 [(Value.string k), (Value.string x), (Value.int .i64 cr), (Value.int .i64 md), (Value.int .i64 vr), (Value.int .i64 ls)] :: ro R :: cl c15_ 106 [(Value.int .i32 r), (Value.int .i32 3), K17_, (Value.nilIface), E18_] :: cl b7_ 33 [(Value.string k), (Value.string x), (Value.int .i64 cr), (Value.int .i64 md), (Value.int .i64 vr), (Value.int .i64 ls)] :: cl b2_ 31 [(Value.int .i64 3), (Value.int .i64 r), (Value.string key), (Value.string en), (Value.int .i64 n), (Value.string val), (Value.bool true)] :: F)) (byteCells_bytesV _ : byteCells x = bytesV (ints x)) (rfl : x.size = x.size) H45_
  refine S_list (T_val (v := (Value.pointer (some ⟨b28_, 2, none⟩))) (by kernel_rfl) ?_)
  refine S_list (T_val (v := (Value.int .i64 cr)) (x_load1 rfl Try.underlying2 rfl ((Holds.rd H49_ 2 rfl) 2 (Value.int .i64 cr) rfl)) ?_)
  refine S_list (T_val (v := (Value.pointer (some ⟨b28_, 3, none⟩))) (by kernel_rfl) ?_)
  refine S_list (T_val (v := (Value.int .i64 md)) (x_load1 rfl Try.underlying2 rfl ((Holds.rd H49_ 2 rfl) 3 (Value.int .i64 md) rfl)) ?_)
  refine S_list (T_val (v := (Value.pointer (some ⟨b28_, 4, none⟩))) (by kernel_rfl) ?_)
  refine S_list (T_val (v := (Value.int .i64 vr)) (x_load1 rfl Try.underlying2 rfl ((Holds.rd H49_ 2 rfl) 4 (Value.int .i64 vr) rfl)) ?_)
  refine S_list (T_val (v := (Value.pointer (some ⟨b28_, 5, none⟩))) (by kernel_rfl) ?_)
  refine S_list (T_val (v := (Value.int .i64 ls)) (x_load1 rfl Try.underlying2 rfl ((Holds.rd H49_ 2 rfl) 5 (Value.int .i64 ls) rfl)) ?_)
  refine S_list (T_val (v := (Value.agg #[(Value.slice (some ⟨b34_, 0, none⟩) k.size cp35_), (Value.int .i64 cr), (Value.int .i64 md), (Value.int .i64 vr), (Value.slice (some ⟨b42_, 0, none⟩) x.size cp43_), (Value.int .i64 ls)])) (by kernel_rfl) ?_)
  refine S_list (T_box (v := (Value.agg #[(Value.slice (some ⟨b34_, 0, none⟩) k.size cp35_), (Value.int .i64 cr), (Value.int .i64 md), (Value.int .i64 vr), (Value.slice (some ⟨b42_, 0, none⟩) x.size cp43_), (Value.int .i64 ls)])) rfl H49_ ?_)
  intro b50_ w51_ S53_ H52_
  replace H52_ : Holds w51_ (cl b50_ 123 [(Value.slice (some ⟨b34_, 0, none⟩) k.size cp35_), (Value.int .i64 cr), (Value.int .i64 md), (Value.int .i64 vr), (Value.slice (some ⟨b42_, 0, none⟩) x.size cp43_), (Value.int .i64 ls)] :: sl 5 1 (Value.slice (some ⟨b42_, 0, none⟩) x.size cp43_) x.size (bytesV (ints x)) :: sl 5 1 (Value.slice (some ⟨b34_, 0, none⟩) k.size cp35_) k.size (bytesV (ints k)) :: cl b28_ 33 [(Value.string k), (Value.string x), (Value.int .i64 cr), (Value.int .i64 md), (Value.int .i64 vr), (Value.int .i64 ls)] :: ro R :: cl c15_ 106 [(Value.int .i32 r), (Value.int .i32 3), K17_, (Value.nilIface), E18_] :: cl b7_ 33 [(Value.string k), (Value.string x), (Value.int .i64 cr), (Value.int .i64 md), (Value.int .i64 vr), (Value.int .i64 ls)] :: cl b2_ 31 [(Value.int .i64 3), (Value.int .i64 r), (Value.string key), (Value.string en), (Value.int .i64 n), (Value.string val), (Value.bool true)] :: F) := H52_
  have S54_ := Same.trans S48_ S53_
  refine S_list (T_val (v := (Value.pointer (some ⟨b50_, 0, none⟩))) (x_assign rfl) ?_)
  refine wpList_nil ?_
  refine (X_then (hK33_ _ _ ?_))
  clear hK33_
  refine C_ret ?_
  refine R_any (v := (Value.pointer (some ⟨b50_, 0, none⟩))) (run_results1 rfl rfl) ⟨_, rfl, ?_⟩
  refine ⟨⟨Holds.rd H52_ 7 rfl, Holds.rd H52_ 6 rfl, Holds.ro_at H52_ 4 rfl⟩, ?_⟩
  refine A_ready (i := 4) (rs := []) (by kernel_rfl) ?_
  refine AllR.cons ?_ AllR.nil
  refine A_op (ls' := #[true, true, true, true, true, false]) rfl (by kernel_rfl) (T_callW (al := [(Value.pointer (some ⟨c15_, 0, none⟩)), (Value.pointer (some ⟨b50_, 0, none⟩))]) rfl rfl cb35 (Calls.into (n := 8) (al := [(Value.pointer (some ⟨c15_, 0, none⟩)), (Value.pointer (some ⟨b50_, 0, none⟩))]) Try.func35 rfl Try.ntmps35 rfl rfl ?_))
  refine C_seq (fun K55_ hK55_ => ?_)
  refine C_reg ?_
  refine S_list (T_val (v := (Value.bool false)) (x_assign rfl) ?_)
  refine wpList_nil ?_
  refine (X_then (hK55_ _ _ ?_))
  clear hK55_
  refine C_seq (fun K56_ hK56_ => ?_)
  refine C_reg ?_
  refine S_list (T_val (v := (Value.pointer (some ⟨c15_, 0, none⟩))) (x_move rfl) ?_)
  refine S_list (T_val (v := (Value.pointer (some ⟨b50_, 0, none⟩))) (x_move rfl) ?_)
  have H57_ : Holds w51_ (ro R :: cl c15_ 106 [(Value.int .i32 r), (Value.int .i32 3), K17_, (Value.nilIface), E18_] :: cl b50_ 123 [(Value.slice (some ⟨b34_, 0, none⟩) k.size cp35_), (Value.int .i64 cr), (Value.int .i64 md), (Value.int .i64 vr), (Value.slice (some ⟨b42_, 0, none⟩) x.size cp43_), (Value.int .i64 ls)] :: sl 5 1 (Value.slice (some ⟨b42_, 0, none⟩) x.size cp43_) x.size (bytesV (ints x)) :: sl 5 1 (Value.slice (some ⟨b34_, 0, none⟩) k.size cp35_) k.size (bytesV (ints k)) :: cl b28_ 33 [(Value.string k), (Value.string x), (Value.int .i64 cr), (Value.int .i64 md), (Value.int .i64 vr), (Value.int .i64 ls)] :: cl b7_ 33 [(Value.string k), (Value.string x), (Value.int .i64 cr), (Value.int .i64 md), (Value.int .i64 vr), (Value.int .i64 ls)] :: cl b2_ 31 [(Value.int .i64 3), (Value.int .i64 r), (Value.string key), (Value.string en), (Value.int .i64 n), (Value.string val), (Value.bool true)] :: F) := (Holds.bring (Holds.bring (Holds.bring (Holds.bring H52_ 1 rfl) 1 rfl) 5 rfl) 5 rfl)
  refine S_list (T_call (al := [(Value.pointer (some ⟨c15_, 0, none⟩)), (Value.pointer (some ⟨b50_, 0, none⟩))]) (pre := [cl c15_ 106 [(Value.int .i32 r), (Value.int .i32 3), K17_, (Value.nilIface), E18_], cl b50_ 123 [(Value.slice (some ⟨b34_, 0, none⟩) k.size cp35_), (Value.int .i64 cr), (Value.int .i64 md), (Value.int .i64 vr), (Value.slice (some ⟨b42_, 0, none⟩) x.size cp43_), (Value.int .i64 ls)], sl 5 1 (Value.slice (some ⟨b42_, 0, none⟩) x.size cp43_) x.size (bytesV (ints x))]) (F := sl 5 1 (Value.slice (some ⟨b34_, 0, none⟩) k.size cp35_) k.size (bytesV (ints k)) :: cl b28_ 33 [(Value.string k), (Value.string x), (Value.int .i64 cr), (Value.int .i64 md), (Value.int .i64 vr), (Value.int .i64 ls)] :: cl b7_ 33 [(Value.string k), (Value.string x), (Value.int .i64 cr), (Value.int .i64 md), (Value.int .i64 vr), (Value.int .i64 ls)] :: cl b2_ 31 [(Value.int .i64 3), (Value.int .i64 r), (Value.string key), (Value.string en), (Value.int .i64 n), (Value.string val), (Value.bool true)] :: F) rfl rfl cb60 (kvCmp3t R c15_ b50_ 0 r K17_ E18_ (Value.slice (some ⟨b34_, 0, none⟩) k.size cp35_) (Value.slice (some ⟨b42_, 0, none⟩) x.size cp43_) .nilIface cr md vr ls 0 x ByteArray.empty (by omega) (by omega)) H57_ ?_)
  rintro v61_ p62_ w58_ ⟨rfl, rfl⟩ S60_ H59_
  replace H59_ : Holds w58_ (ro R :: sl 5 1 (Value.slice (some ⟨b34_, 0, none⟩) k.size cp35_) k.size (bytesV (ints k)) :: cl b28_ 33 [(Value.string k), (Value.string x), (Value.int .i64 cr), (Value.int .i64 md), (Value.int .i64 vr), (Value.int .i64 ls)] :: cl b7_ 33 [(Value.string k), (Value.string x), (Value.int .i64 cr), (Value.int .i64 md), (Value.int .i64 vr), (Value.int .i64 ls)] :: cl b2_ 31 [(Value.int .i64 3), (Value.int .i64 r), (Value.string key), (Value.string en), (Value.int .i64 n), (Value.string val), (Value.bool true)] :: F) := H59_
  have S63_ := Same.trans S54_ S60_
  refine S_list (T_val (v := (Value.bool (resOk r (Lib.compareBytes (u8s (ints x)) (u8s []))))) (x_assign rfl) ?_)
  refine wpList_nil ?_
  refine (X_then (hK56_ _ _ ?_))
  clear hK56_
  refine C_ret ?_
  refine R_any (v := (Value.bool (resOk r (Lib.compareBytes (u8s (ints x)) (u8s []))))) (run_results1 rfl rfl) ⟨_, rfl, ?_⟩
  refine ⟨⟨Holds.rd H59_ 4 rfl, Holds.rd H59_ 3 rfl, Holds.ro_at H59_ 0 rfl⟩, ?_⟩
  refine A_take 5 (ls' := #[true, true, true, true, true, true]) (v := (Value.bool (resOk r (Lib.compareBytes (u8s (ints x)) (u8s []))))) rfl (by kernel_rfl) (by kernel_rfl) (by kernel_rfl) (by kernel_rfl) (fun _ _ _ h => h) (fun w hS => x_assign rfl) ⟨Holds.rd H59_ 4 rfl, Holds.rd H59_ 3 rfl, Holds.ro_at H59_ 0 rfl⟩ ?_
  refine A_done (by kernel_rfl) ?_
  refine (X_then (hK12_ _ _ ?_))
  clear hK12_
  refine C_ret ?_
  refine R_any (v := (Value.bool (resOk r (Lib.compareBytes (u8s (ints x)) (u8s []))))) (run_results1 rfl rfl) ?_
  have H64_ : Holds w58_ (ro R :: F) := (Holds.erase (Holds.erase (Holds.erase (Holds.erase (Holds.bring H59_ 0 rfl) 1) 1) 1) 1)
  exact ⟨_, [], rfl, ⟨rfl, rfl⟩, S63_, H64_⟩

set_option maxHeartbeats 400000 in
theorem cmpKV3f (R : HP) (r : Int) (key en : ByteArray) (n : Int) (val : ByteArray) (k x : ByteArray) (cr md vr ls : Int) (h0 : 0 ≤ r) (h1 : r ≤ 3) :
    Tri Try.prog 15 #[(Value.agg #[(Value.int .i64 3), (Value.int .i64 r), (Value.string key), (Value.string en), (Value.int .i64 n), (Value.string val), (Value.bool false)]), (Value.agg #[(Value.string k), (Value.string x), (Value.int .i64 cr), (Value.int .i64 md), (Value.int .i64 vr), (Value.int .i64 ls)])] R [] (fun v post => v = .bool (resOk r (Lib.compareBytes (u8s (ints x)) (u8s (ints val)))) ∧ post = []) := by
  refine Tri.into (n := 10) (al := [(Value.agg #[(Value.int .i64 3), (Value.int .i64 r), (Value.string key), (Value.string en), (Value.int .i64 n), (Value.string val), (Value.bool false)]), (Value.agg #[(Value.string k), (Value.string x), (Value.int .i64 cr), (Value.int .i64 md), (Value.int .i64 vr), (Value.int .i64 ls)])]) Try.func15 rfl Try.ntmps15 rfl rfl fun w F H => ?_
  replace H : Holds w (ro R :: F) := H
  refine C_seq (fun K1_ hK1_ => ?_)
  refine C_reg ?_
  refine S_list (T_box (v := (Value.agg #[(Value.int .i64 3), (Value.int .i64 r), (Value.string key), (Value.string en), (Value.int .i64 n), (Value.string val), (Value.bool false)])) rfl H ?_)
  intro b2_ w3_ S5_ H4_
  replace H4_ : Holds w3_ (cl b2_ 31 [(Value.int .i64 3), (Value.int .i64 r), (Value.string key), (Value.string en), (Value.int .i64 n), (Value.string val), (Value.bool false)] :: ro R :: F) := H4_
  have S6_ := Same.trans (Same.refl w) S5_
  refine S_list (T_box (v := (Value.agg #[(Value.string k), (Value.string x), (Value.int .i64 cr), (Value.int .i64 md), (Value.int .i64 vr), (Value.int .i64 ls)])) rfl H4_ ?_)
  intro b7_ w8_ S10_ H9_
  replace H9_ : Holds w8_ (cl b7_ 33 [(Value.string k), (Value.string x), (Value.int .i64 cr), (Value.int .i64 md), (Value.int .i64 vr), (Value.int .i64 ls)] :: cl b2_ 31 [(Value.int .i64 3), (Value.int .i64 r), (Value.string key), (Value.string en), (Value.int .i64 n), (Value.string val), (Value.bool false)] :: ro R :: F) := H9_
  have S11_ := Same.trans S6_ S10_
  refine S_list (T_val (v := (Value.bool false)) (x_assign rfl) ?_)
  refine wpList_nil ?_
  refine (X_then (hK1_ _ _ ?_))
  clear hK1_
  refine C_seq (fun K12_ hK12_ => ?_)
  refine A_start (S := fun w => Rd b2_ [(Value.int .i64 3), (Value.int .i64 r), (Value.string key), (Value.string en), (Value.int .i64 n), (Value.string val), (Value.bool false)] w ∧ Rd b7_ [(Value.string k), (Value.string x), (Value.int .i64 cr), (Value.int .i64 md), (Value.int .i64 vr), (Value.int .i64 ls)] w ∧ Sub R (hp w)) (N := 6) foll rfl rfl ?_
  have H14_ : Holds w8_.drew (cl b7_ 33 [(Value.string k), (Value.string x), (Value.int .i64 cr), (Value.int .i64 md), (Value.int .i64 vr), (Value.int .i64 ls)] :: cl b2_ 31 [(Value.int .i64 3), (Value.int .i64 r), (Value.string key), (Value.string en), (Value.int .i64 n), (Value.string val), (Value.bool false)] :: ro R :: F) := H9_
  refine A_take 0 (ls' := #[true, false, false, false, false, false]) (v := (Value.agg #[(Value.int .i64 3), (Value.int .i64 r), (Value.string key), (Value.string en), (Value.int .i64 n), (Value.string val), (Value.bool false)])) rfl (by kernel_rfl) (by kernel_rfl) (by kernel_rfl) (by kernel_rfl) (fun _ _ _ h => h) (fun w hS => x_loadN (vs := [(Value.int .i64 3), (Value.int .i64 r), (Value.string key), (Value.string en), (Value.int .i64 n), (Value.string val), (Value.bool false)]) rfl Try.underlying31 rfl z31 rfl (Rd.cells hS.1 0 rfl)) ⟨Holds.rd H14_ 1 rfl, Holds.rd H14_ 0 rfl, Holds.ro_at H14_ 2 rfl⟩ ?_
  refine A_take 2 (ls' := #[true, false, true, false, false, false]) (v := (Value.agg #[(Value.string k), (Value.string x), (Value.int .i64 cr), (Value.int .i64 md), (Value.int .i64 vr), (Value.int .i64 ls)])) rfl (by kernel_rfl) (by kernel_rfl) (by kernel_rfl) (by kernel_rfl) (fun _ _ _ h => h) (fun w hS => x_loadN (vs := [(Value.string k), (Value.string x), (Value.int .i64 cr), (Value.int .i64 md), (Value.int .i64 vr), (Value.int .i64 ls)]) rfl Try.underlying33 rfl z33 rfl (Rd.cells hS.2.1 0 rfl)) ⟨Holds.rd H14_ 1 rfl, Holds.rd H14_ 0 rfl, Holds.ro_at H14_ 2 rfl⟩ ?_
  refine A_ready (i := 1) (rs := []) (by kernel_rfl) ?_
  refine AllR.cons ?_ AllR.nil
  have H20_ : Holds w8_.drew (ro R :: cl b7_ 33 [(Value.string k), (Value.string x), (Value.int .i64 cr), (Value.int .i64 md), (Value.int .i64 vr), (Value.int .i64 ls)] :: cl b2_ 31 [(Value.int .i64 3), (Value.int .i64 r), (Value.string key), (Value.string en), (Value.int .i64 n), (Value.string val), (Value.bool false)] :: F) := (Holds.bring H14_ 2 rfl)
  refine A_op (ls' := #[true, true, true, false, false, false]) rfl (by kernel_rfl) (T_call (al := [(Value.agg #[(Value.int .i64 3), (Value.int .i64 r), (Value.string key), (Value.string en), (Value.int .i64 n), (Value.string val), (Value.bool false)])]) (pre := []) (F := cl b7_ 33 [(Value.string k), (Value.string x), (Value.int .i64 cr), (Value.int .i64 md), (Value.int .i64 vr), (Value.int .i64 ls)] :: cl b2_ 31 [(Value.int .i64 3), (Value.int .i64 r), (Value.string key), (Value.string en), (Value.int .i64 n), (Value.string val), (Value.bool false)] :: F) rfl rfl cb36 (cmpIn3f R r key en n val (by omega) (by omega)) H20_ ?_)
  rintro v24_ p25_ w21_ ⟨c15_, u16_, K17_, E18_, V19_, rfl, rfl⟩ S23_ H22_
  replace H22_ : Holds w21_ (ro R :: cl c15_ 106 [(Value.int .i32 r), (Value.int .i32 3), K17_, (Value.iface 116 (Value.pointer (some ⟨u16_, 0, none⟩))), E18_] :: cl u16_ 118 [V19_] :: sl 5 1 V19_ val.size (bytesV (ints val)) :: cl b7_ 33 [(Value.string k), (Value.string x), (Value.int .i64 cr), (Value.int .i64 md), (Value.int .i64 vr), (Value.int .i64 ls)] :: cl b2_ 31 [(Value.int .i64 3), (Value.int .i64 r), (Value.string key), (Value.string en), (Value.int .i64 n), (Value.string val), (Value.bool false)] :: F) := H22_
  have S26_ := Same.trans (Same.trans S11_ (Same.drew _)) S23_
  refine ⟨⟨Holds.rd H22_ 5 rfl, Holds.rd H22_ 4 rfl, Holds.ro_at H22_ 0 rfl⟩, ?_⟩
  refine A_ready (i := 3) (rs := []) (by kernel_rfl) ?_
  refine AllR.cons ?_ AllR.nil
  refine A_op (ls' := #[true, true, true, true, false, false]) rfl (by kernel_rfl) (T_callW (al := [(Value.agg #[(Value.string k), (Value.string x), (Value.int .i64 cr), (Value.int .i64 md), (Value.int .i64 vr), (Value.int .i64 ls)])]) rfl rfl cb37 (Calls.into (n := 19) (al := [(Value.agg #[(Value.string k), (Value.string x), (Value.int .i64 cr), (Value.int .i64 md), (Value.int .i64 vr), (Value.int .i64 ls)])]) Try.func37 rfl Try.ntmps37 rfl rfl ?_))
  refine C_seq (fun K27_ hK27_ => ?_)
  refine C_reg ?_
  refine S_list (T_box (v := (Value.agg #[(Value.string k), (Value.string x), (Value.int .i64 cr), (Value.int .i64 md), (Value.int .i64 vr), (Value.int .i64 ls)])) rfl H22_ ?_)
  intro b28_ w29_ S31_ H30_
  replace H30_ : Holds w29_ (cl b28_ 33 [(Value.string k), (Value.string x), (Value.int .i64 cr), (Value.int .i64 md), (Value.int .i64 vr), (Value.int .i64 ls)] :: ro R :: cl c15_ 106 [(Value.int .i32 r), (Value.int .i32 3), K17_, (Value.iface 116 (Value.pointer (some ⟨u16_, 0, none⟩))), E18_] :: cl u16_ 118 [V19_] :: sl 5 1 V19_ val.size (bytesV (ints val)) :: cl b7_ 33 [(Value.string k), (Value.string x), (Value.int .i64 cr), (Value.int .i64 md), (Value.int .i64 vr), (Value.int .i64 ls)] :: cl b2_ 31 [(Value.int .i64 3), (Value.int .i64 r), (Value.string key), (Value.string en), (Value.int .i64 n), (Value.string val), (Value.bool false)] :: F) := H30_
  have S32_ := Same.trans S26_ S31_
  refine S_list (T_val (v := (Value.pointer none)) (x_assign rfl) ?_)
  refine wpList_nil ?_
  refine (X_then (hK27_ _ _ ?_))
  clear hK27_
  refine C_seq (fun K33_ hK33_ => ?_)
  refine C_reg ?_
  refine S_list (T_val (v := (Value.pointer (some ⟨b28_, 0, none⟩))) (by kernel_rfl) ?_)
  refine S_list (T_val (v := (Value.string k)) (x_load1 rfl Try.underlying9 rfl ((Holds.rd H30_ 0 rfl) 0 (Value.string k) rfl)) ?_)
  refine S_list (T_s2b rfl Try.underlying9 Try.underlying25 Try.underlying5 H30_ ?_)
  intro b34_ cp35_ w36_ S38_ hc39_ H37_
  have S40_ := Same.trans S32_ S38_
  have H41_ : Holds w36_ (sl 5 1 (Value.slice (some ⟨b34_, 0, none⟩) k.size cp35_) k.size (bytesV (ints k)) :: cl b28_ 33 [(Value.string k), (Value.string x), (Value.int .i64 cr), (Value.int .i64 md), (Value.int .i64 vr), (Value.int .i64 ls)] :: ro R :: cl c15_ 106 [(Value.int .i32 r), (Value.int .i32 3), K17_, (Value.iface 116 (Value.pointer (some ⟨u16_, 0, none⟩))), E18_] :: cl u16_ 118 [V19_] :: sl 5 1 V19_ val.size (bytesV (ints val)) :: cl b7_ 33 [(Value.string k), (Value.string x), (Value.int .i64 cr), (Value.int .i64 md), (Value.int .i64 vr), (Value.int .i64 ls)] :: cl b2_ 31 [(Value.int .i64 3), (Value.int .i64 r), (Value.string key), (Value.string en), (Value.int .i64 n), (Value.string val), (Value.bool false)] :: F) := cast2 (P := fun (c__ : List Value) (k__ : Nat) => Holds w36_ (sl 5 1 (Value.slice (some ⟨b34_, 0, none⟩) k.size cp35_) k__ c__ :: cl b28_ 33 [(Value.string k), (Value.string x), (Value.int .i64 cr), (Value.int .i64 md), (Value.int .i64 vr), (Value.int .i64 ls)] :: ro R :: cl c15_ 106 [(Value.int .i32 r), (Value.int .i32 3), K17_, (Value.iface 116 (Value.pointer (some ⟨u16_, 0, none⟩))), E18_] :: cl u16_ 118 [V19_] :: sl 5 1 V19_ val.size (bytesV (ints val)) :: cl b7_ 33 [(Value.string k), (Value.string x), (Value.int .i64 cr), (Value.int .i64 md), (Value.int .i64 vr), (Value.int .i64 ls)] :: cl b2_ 31 [(Value.int .i64 3), (Value.int .i64 r), (Value.string key), (Value.string en), (Value.int .i64 n), (Value.string val), (Value.bool false)] :: F)) (byteCells_bytesV _ : byteCells k = bytesV (ints k)) (rfl : k.size = k.size) H37_
  refine S_list (T_val (v := (Value.pointer (some ⟨b28_, 1, none⟩))) (by kernel_rfl) ?_)
  refine S_list (T_val (v := (Value.string x)) (x_load1 rfl Try.underlying9 rfl ((Holds.rd H41_ 1 rfl) 1 (Value.string x) rfl)) ?_)
  refine S_list (T_s2b rfl Try.underlying9 Try.underlying25 Try.underlying5 H41_ ?_)
  intro b42_ cp43_ w44_ S46_ hc47_ H45_
  have S48_ := Same.trans S40_ S46_
  have H49_ : Holds w44_ (sl 5 1 (Value.slice (some ⟨b42_, 0, none⟩) x.size cp43_) x.size (bytesV (ints x)) :: sl 5 1 (Value.slice (some ⟨b34_, 0, none⟩) k.size cp35_) k.size (bytesV (ints k)) :: cl b28_ 33 [(Value.string k), (Value.string x), (Value.int .i64 cr), (Value.int .i64 md), (Value.int .i64 vr), (Value.int .i64 ls)] :: ro R :: cl c15_ 106 [(Value.int .i32 r), (Value.int .i32 3), K17_, (Value.iface 116 (Value.pointer (some ⟨u16_, 0, none⟩))), E18_] :: cl u16_ 118 [V19_] :: sl 5 1 V19_ val.size (bytesV (ints val)) :: cl b7_ 33 [(Value.string k), (Value.string x), (Value.int .i64 cr), (Value.int .i64 md), (Value.int .i64 vr), (Value.int .i64 ls)] :: cl b2_ 31 [(Value.int .i64 3), (Value.int .i64 r), (Value.string key), (Value.string en), (Value.int .i64 n), (Value.string val), (Value.bool false)] :: F) := cast2 (P := fun (c__ : List Value) (k__ : Nat) => Holds w44_ (sl 5 1 (Value.slice (some ⟨b42_, 0, none⟩) x.size cp43_) k__ c__ :: sl 5 1 (Value.slice (some ⟨b34_, 0, none⟩) k.size cp35_) k.size (bytesV (ints k)) :: cl b28_ 33 [(Value.string k), (Value.string x), (Value.int .i64 cr), (Value.int .i64 md), (Value.int .i64 vr), (Value.int .i64 ls)] :: ro R :: cl c15_ 106 [(Value.int .i32 r), (Value.int .i32 3), K17_, (Value.iface 116 (Value.pointer (some ⟨u16_, 0, none⟩))), E18_] :: cl u16_ 118 [V19_] :: sl 5 1 V19_ val.size (bytesV (ints val)) :: cl b7_ 33 [(Value.string k), (Value.string x), (Value.int .i64 cr), (Value.int .i64 md), (Value.int .i64 vr), (Value.int .i64 ls)] :: cl b2_ 31 [(Value.int .i64 3), (Value.int .i64 r), (Value.string key), (Value.string en), (Value.int .i64 n), (Value.string val), (Value.bool false)] :: F)) (byteCells_bytesV _ : byteCells x = bytesV (ints x)) (rfl : x.size = x.size) H45_
  refine S_list (T_val (v := (Value.pointer (some ⟨b28_, 2, none⟩))) (by kernel_rfl) ?_)
  refine S_list (T_val (v := (Value.int .i64 cr)) (x_load1 rfl Try.underlying2 rfl ((Holds.rd H49_ 2 rfl) 2 (Value.int .i64 cr) rfl)) ?_)
  refine S_list (T_val (v := (Value.pointer (some ⟨b28_, 3, none⟩))) (by kernel_rfl) ?_)
  refine S_list (T_val (v := (Value.int .i64 md)) (x_load1 rfl Try.underlying2 rfl ((Holds.rd H49_ 2 rfl) 3 (Value.int .i64 md) rfl)) ?_)
  refine S_list (T_val (v := (Value.pointer (some ⟨b28_, 4, none⟩))) (by kernel_rfl) ?_)
  refine S_list (T_val (v := (Value.int .i64 vr)) (x_load1 rfl Try.underlying2 rfl ((Holds.rd H49_ 2 rfl) 4 (Value.int .i64 vr) rfl)) ?_)
  refine S_list (T_val (v := (Value.pointer (some ⟨b28_, 5, none⟩))) (by kernel_rfl) ?_)
  refine S_list (T_val (v := (Value.int .i64 ls)) (x_load1 rfl Try.underlying2 rfl ((Holds.rd H49_ 2 rfl) 5 (Value.int .i64 ls) rfl)) ?_)
  refine S_list (T_val (v := (Value.agg #[(Value.slice (some ⟨b34_, 0, none⟩) k.size cp35_), (Value.int .i64 cr), (Value.int .i64 md), (Value.int .i64 vr), (Value.slice (some ⟨b42_, 0, none⟩) x.size cp43_), (Value.int .i64 ls)])) (by kernel_rfl) ?_)
  refine S_list (T_box (v := (Value.agg #[(Value.slice (some ⟨b34_, 0, none⟩) k.size cp35_), (Value.int .i64 cr), (Value.int .i64 md), (Value.int .i64 vr), (Value.slice (some ⟨b42_, 0, none⟩) x.size cp43_), (Value.int .i64 ls)])) rfl H49_ ?_)
  intro b50_ w51_ S53_ H52_
  replace H52_ : Holds w51_ (cl b50_ 123 [(Value.slice (some ⟨b34_, 0, none⟩) k.size cp35_), (Value.int .i64 cr), (Value.int .i64 md), (Value.int .i64 vr), (Value.slice (some ⟨b42_, 0, none⟩) x.size cp43_), (Value.int .i64 ls)] :: sl 5 1 (Value.slice (some ⟨b42_, 0, none⟩) x.size cp43_) x.size (bytesV (ints x)) :: sl 5 1 (Value.slice (some ⟨b34_, 0, none⟩) k.size cp35_) k.size (bytesV (ints k)) :: cl b28_ 33 [(Value.string k), (Value.string x), (Value.int .i64 cr), (Value.int .i64 md), (Value.int .i64 vr), (Value.int .i64 ls)] :: ro R :: cl c15_ 106 [(Value.int .i32 r), (Value.int .i32 3), K17_, (Value.iface 116 (Value.pointer (some ⟨u16_, 0, none⟩))), E18_] :: cl u16_ 118 [V19_] :: sl 5 1 V19_ val.size (bytesV (ints val)) :: cl b7_ 33 [(Value.string k), (Value.string x), (Value.int .i64 cr), (Value.int .i64 md), (Value.int .i64 vr), (Value.int .i64 ls)] :: cl b2_ 31 [(Value.int .i64 3), (Value.int .i64 r), (Value.string key), (Value.string en), (Value.int .i64 n), (Value.string val), (Value.bool false)] :: F) := H52_
  have S54_ := Same.trans S48_ S53_
  refine S_list (T_val (v := (Value.pointer (some ⟨b50_, 0, none⟩))) (x_assign rfl) ?_)
  refine wpList_nil ?_
  refine (X_then (hK33_ _ _ ?_))
  clear hK33_
  refine C_ret ?_
  refine R_any (v := (Value.pointer (some ⟨b50_, 0, none⟩))) (run_results1 rfl rfl) ⟨_, rfl, ?_⟩
  refine ⟨⟨Holds.rd H52_ 9 rfl, Holds.rd H52_ 8 rfl, Holds.ro_at H52_ 4 rfl⟩, ?_⟩
  refine A_ready (i := 4) (rs := []) (by kernel_rfl) ?_
  refine AllR.cons ?_ AllR.nil
  refine A_op (ls' := #[true, true, true, true, true, false]) rfl (by kernel_rfl) (T_callW (al := [(Value.pointer (some ⟨c15_, 0, none⟩)), (Value.pointer (some ⟨b50_, 0, none⟩))]) rfl rfl cb35 (Calls.into (n := 8) (al := [(Value.pointer (some ⟨c15_, 0, none⟩)), (Value.pointer (some ⟨b50_, 0, none⟩))]) Try.func35 rfl Try.ntmps35 rfl rfl ?_))
  refine C_seq (fun K55_ hK55_ => ?_)
  refine C_reg ?_
  refine S_list (T_val (v := (Value.bool false)) (x_assign rfl) ?_)
  refine wpList_nil ?_
  refine (X_then (hK55_ _ _ ?_))
  clear hK55_
  refine C_seq (fun K56_ hK56_ => ?_)
  refine C_reg ?_
  refine S_list (T_val (v := (Value.pointer (some ⟨c15_, 0, none⟩))) (x_move rfl) ?_)
  refine S_list (T_val (v := (Value.pointer (some ⟨b50_, 0, none⟩))) (x_move rfl) ?_)
  have H57_ : Holds w51_ (ro R :: cl c15_ 106 [(Value.int .i32 r), (Value.int .i32 3), K17_, (Value.iface 116 (Value.pointer (some ⟨u16_, 0, none⟩))), E18_] :: cl b50_ 123 [(Value.slice (some ⟨b34_, 0, none⟩) k.size cp35_), (Value.int .i64 cr), (Value.int .i64 md), (Value.int .i64 vr), (Value.slice (some ⟨b42_, 0, none⟩) x.size cp43_), (Value.int .i64 ls)] :: sl 5 1 (Value.slice (some ⟨b42_, 0, none⟩) x.size cp43_) x.size (bytesV (ints x)) :: cl u16_ 118 [V19_] :: sl 5 1 V19_ val.size (bytesV (ints val)) :: sl 5 1 (Value.slice (some ⟨b34_, 0, none⟩) k.size cp35_) k.size (bytesV (ints k)) :: cl b28_ 33 [(Value.string k), (Value.string x), (Value.int .i64 cr), (Value.int .i64 md), (Value.int .i64 vr), (Value.int .i64 ls)] :: cl b7_ 33 [(Value.string k), (Value.string x), (Value.int .i64 cr), (Value.int .i64 md), (Value.int .i64 vr), (Value.int .i64 ls)] :: cl b2_ 31 [(Value.int .i64 3), (Value.int .i64 r), (Value.string key), (Value.string en), (Value.int .i64 n), (Value.string val), (Value.bool false)] :: F) := (Holds.bring (Holds.bring (Holds.bring (Holds.bring (Holds.bring (Holds.bring H52_ 7 rfl) 7 rfl) 3 rfl) 3 rfl) 7 rfl) 7 rfl)
  refine S_list (T_call (al := [(Value.pointer (some ⟨c15_, 0, none⟩)), (Value.pointer (some ⟨b50_, 0, none⟩))]) (pre := [cl c15_ 106 [(Value.int .i32 r), (Value.int .i32 3), K17_, (Value.iface 116 (Value.pointer (some ⟨u16_, 0, none⟩))), E18_], cl b50_ 123 [(Value.slice (some ⟨b34_, 0, none⟩) k.size cp35_), (Value.int .i64 cr), (Value.int .i64 md), (Value.int .i64 vr), (Value.slice (some ⟨b42_, 0, none⟩) x.size cp43_), (Value.int .i64 ls)], sl 5 1 (Value.slice (some ⟨b42_, 0, none⟩) x.size cp43_) x.size (bytesV (ints x)), cl u16_ 118 [V19_], sl 5 1 V19_ val.size (bytesV (ints val))]) (F := sl 5 1 (Value.slice (some ⟨b34_, 0, none⟩) k.size cp35_) k.size (bytesV (ints k)) :: cl b28_ 33 [(Value.string k), (Value.string x), (Value.int .i64 cr), (Value.int .i64 md), (Value.int .i64 vr), (Value.int .i64 ls)] :: cl b7_ 33 [(Value.string k), (Value.string x), (Value.int .i64 cr), (Value.int .i64 md), (Value.int .i64 vr), (Value.int .i64 ls)] :: cl b2_ 31 [(Value.int .i64 3), (Value.int .i64 r), (Value.string key), (Value.string en), (Value.int .i64 n), (Value.string val), (Value.bool false)] :: F) rfl rfl cb60 (kvCmp3f R c15_ b50_ u16_ r K17_ E18_ (Value.slice (some ⟨b34_, 0, none⟩) k.size cp35_) (Value.slice (some ⟨b42_, 0, none⟩) x.size cp43_) V19_ cr md vr ls 0 x val (by omega) (by omega)) H57_ ?_)
  rintro v61_ p62_ w58_ ⟨rfl, rfl⟩ S60_ H59_
  replace H59_ : Holds w58_ (ro R :: sl 5 1 (Value.slice (some ⟨b34_, 0, none⟩) k.size cp35_) k.size (bytesV (ints k)) :: cl b28_ 33 [(Value.string k), (Value.string x), (Value.int .i64 cr), (Value.int .i64 md), (Value.int .i64 vr), (Value.int .i64 ls)] :: cl b7_ 33 [(Value.string k), (Value.string x), (Value.int .i64 cr), (Value.int .i64 md), (Value.int .i64 vr), (Value.int .i64 ls)] :: cl b2_ 31 [(Value.int .i64 3), (Value.int .i64 r), (Value.string key), (Value.string en), (Value.int .i64 n), (Value.string val), (Value.bool false)] :: F) := H59_
  have S63_ := Same.trans S54_ S60_
  refine S_list (T_val (v := (Value.bool (resOk r (Lib.compareBytes (u8s (ints x)) (u8s (ints val)))))) (x_assign rfl) ?_)
  refine wpList_nil ?_
  refine (X_then (hK56_ _ _ ?_))
  clear hK56_
  refine C_ret ?_
  refine R_any (v := (Value.bool (resOk r (Lib.compareBytes (u8s (ints x)) (u8s (ints val)))))) (run_results1 rfl rfl) ⟨_, rfl, ?_⟩
  refine ⟨⟨Holds.rd H59_ 4 rfl, Holds.rd H59_ 3 rfl, Holds.ro_at H59_ 0 rfl⟩, ?_⟩
  refine A_take 5 (ls' := #[true, true, true, true, true, true]) (v := (Value.bool (resOk r (Lib.compareBytes (u8s (ints x)) (u8s (ints val)))))) rfl (by kernel_rfl) (by kernel_rfl) (by kernel_rfl) (by kernel_rfl) (fun _ _ _ h => h) (fun w hS => x_assign rfl) ⟨Holds.rd H59_ 4 rfl, Holds.rd H59_ 3 rfl, Holds.ro_at H59_ 0 rfl⟩ ?_
  refine A_done (by kernel_rfl) ?_
  refine (X_then (hK12_ _ _ ?_))
  clear hK12_
  refine C_ret ?_
  refine R_any (v := (Value.bool (resOk r (Lib.compareBytes (u8s (ints x)) (u8s (ints val)))))) (run_results1 rfl rfl) ?_
  have H64_ : Holds w58_ (ro R :: F) := (Holds.erase (Holds.erase (Holds.erase (Holds.erase (Holds.bring H59_ 0 rfl) 1) 1) 1) 1)
  exact ⟨_, [], rfl, ⟨rfl, rfl⟩, S63_, H64_⟩

set_option maxHeartbeats 400000 in
theorem cmpKV4t (R : HP) (r : Int) (key en : ByteArray) (n : Int) (val : ByteArray) (k x : ByteArray) (cr md vr ls : Int) (h0 : 0 ≤ r) (h1 : r ≤ 3) :
    Tri Try.prog 15 #[(Value.agg #[(Value.int .i64 4), (Value.int .i64 r), (Value.string key), (Value.string en), (Value.int .i64 n), (Value.string val), (Value.bool true)]), (Value.agg #[(Value.string k), (Value.string x), (Value.int .i64 cr), (Value.int .i64 md), (Value.int .i64 vr), (Value.int .i64 ls)])] R [] (fun v post => v = .bool (resOk r (ordI ls 0)) ∧ post = []) := by
  refine Tri.into (n := 10) (al := [(Value.agg #[(Value.int .i64 4), (Value.int .i64 r), (Value.string key), (Value.string en), (Value.int .i64 n), (Value.string val), (Value.bool true)]), (Value.agg #[(Value.string k), (Value.string x), (Value.int .i64 cr), (Value.int .i64 md), (Value.int .i64 vr), (Value.int .i64 ls)])]) Try.func15 rfl Try.ntmps15 rfl rfl fun w F H => ?_
  replace H : Holds w (ro R :: F) := H
  refine C_seq (fun K1_ hK1_ => ?_)
  refine C_reg ?_
  refine S_list (T_box (v := (Value.agg #[(Value.int .i64 4), (Value.int .i64 r), (Value.string key), (Value.string en), (Value.int .i64 n), (Value.string val), (Value.bool true)])) rfl H ?_)
  intro b2_ w3_ S5_ H4_
  replace H4_ : Holds w3_ (cl b2_ 31 [(Value.int .i64 4), (Value.int .i64 r), (Value.string key), (Value.string en), (Value.int .i64 n), (Value.string val), (Value.bool true)] :: ro R :: F) := H4_
  have S6_ := Same.trans (Same.refl w) S5_
  refine S_list (T_box (v := (Value.agg #[(Value.string k), (Value.string x), (Value.int .i64 cr), (Value.int .i64 md), (Value.int .i64 vr), (Value.int .i64 ls)])) rfl H4_ ?_)
  intro b7_ w8_ S10_ H9_
  replace H9_ : Holds w8_ (cl b7_ 33 [(Value.string k), (Value.string x), (Value.int .i64 cr), (Value.int .i64 md), (Value.int .i64 vr), (Value.int .i64 ls)] :: cl b2_ 31 [(Value.int .i64 4), (Value.int .i64 r), (Value.string key), (Value.string en), (Value.int .i64 n), (Value.string val), (Value.bool true)] :: ro R :: F) := H9_
  have S11_ := Same.trans S6_ S10_
  refine S_list (T_val (v := (Value.bool false)) (x_assign rfl) ?_)
  refine wpList_nil ?_
  refine (X_then (hK1_ _ _ ?_))
  clear hK1_
  refine C_seq (fun K12_ hK12_ => ?_)
  refine A_start (S := fun w => Rd b2_ [(Value.int .i64 4), (Value.int .i64 r), (Value.string key), (Value.string en), (Value.int .i64 n), (Value.string val), (Value.bool true)] w ∧ Rd b7_ [(Value.string k), (Value.string x), (Value.int .i64 cr), (Value.int .i64 md), (Value.int .i64 vr), (Value.int .i64 ls)] w ∧ Sub R (hp w)) (N := 6) foll rfl rfl ?_
  have H14_ : Holds w8_.drew (cl b7_ 33 [(Value.string k), (Value.string x), (Value.int .i64 cr), (Value.int .i64 md), (Value.int .i64 vr), (Value.int .i64 ls)] :: cl b2_ 31 [(Value.int .i64 4), (Value.int .i64 r), (Value.string key), (Value.string en), (Value.int .i64 n), (Value.string val), (Value.bool true)] :: ro R :: F) := H9_
  refine A_take 0 (ls' := #[true, false, false, false, false, false]) (v := (Value.agg #[(Value.int .i64 4), (Value.int .i64 r), (Value.string key), (Value.string en), (Value.int .i64 n), (Value.string val), (Value.bool true)])) rfl (by kernel_rfl) (by kernel_rfl) (by kernel_rfl) (by kernel_rfl) (fun _ _ _ h => h) (fun w hS => x_loadN (vs := [(Value.int .i64 4), (Value.int .i64 r), (Value.string key), (Value.string en), (Value.int .i64 n), (Value.string val), (Value.bool true)]) rfl Try.underlying31 rfl z31 rfl (Rd.cells hS.1 0 rfl)) ⟨Holds.rd H14_ 1 rfl, Holds.rd H14_ 0 rfl, Holds.ro_at H14_ 2 rfl⟩ ?_
  refine A_take 2 (ls' := #[true, false, true, false, false, false]) (v := (Value.agg #[(Value.string k), (Value.string x), (Value.int .i64 cr), (Value.int .i64 md), (Value.int .i64 vr), (Value.int .i64 ls)])) rfl (by kernel_rfl) (by kernel_rfl) (by kernel_rfl) (by kernel_rfl) (fun _ _ _ h => h) (fun w hS => x_loadN (vs := [(Value.string k), (Value.string x), (Value.int .i64 cr), (Value.int .i64 md), (Value.int .i64 vr), (Value.int .i64 ls)]) rfl Try.underlying33 rfl z33 rfl (Rd.cells hS.2.1 0 rfl)) ⟨Holds.rd H14_ 1 rfl, Holds.rd H14_ 0 rfl, Holds.ro_at H14_ 2 rfl⟩ ?_
  refine A_ready (i := 1) (rs := []) (by kernel_rfl) ?_
  refine AllR.cons ?_ AllR.nil
  have H20_ : Holds w8_.drew (ro R :: cl b7_ 33 [(Value.string k), (Value.string x), (Value.int .i64 cr), (Value.int .i64 md), (Value.int .i64 vr), (Value.int .i64 ls)] :: cl b2_ 31 [(Value.int .i64 4), (Value.int .i64 r), (Value.string key), (Value.string en), (Value.int .i64 n), (Value.string val), (Value.bool true)] :: F) := (Holds.bring H14_ 2 rfl)
  refine A_op (ls' := #[true, true, true, false, false, false]) rfl (by kernel_rfl) (T_call (al := [(Value.agg #[(Value.int .i64 4), (Value.int .i64 r), (Value.string key), (Value.string en), (Value.int .i64 n), (Value.string val), (Value.bool true)])]) (pre := []) (F := cl b7_ 33 [(Value.string k), (Value.string x), (Value.int .i64 cr), (Value.int .i64 md), (Value.int .i64 vr), (Value.int .i64 ls)] :: cl b2_ 31 [(Value.int .i64 4), (Value.int .i64 r), (Value.string key), (Value.string en), (Value.int .i64 n), (Value.string val), (Value.bool true)] :: F) rfl rfl cb36 (cmpIn4t R r key en n val (by omega) (by omega)) H20_ ?_)
  rintro v24_ p25_ w21_ ⟨c15_, K17_, E18_, rfl, rfl⟩ S23_ H22_
  replace H22_ : Holds w21_ (ro R :: cl c15_ 106 [(Value.int .i32 r), (Value.int .i32 4), K17_, (Value.nilIface), E18_] :: cl b7_ 33 [(Value.string k), (Value.string x), (Value.int .i64 cr), (Value.int .i64 md), (Value.int .i64 vr), (Value.int .i64 ls)] :: cl b2_ 31 [(Value.int .i64 4), (Value.int .i64 r), (Value.string key), (Value.string en), (Value.int .i64 n), (Value.string val), (Value.bool true)] :: F) := H22_
  have S26_ := Same.trans (Same.trans S11_ (Same.drew _)) S23_
  refine ⟨⟨Holds.rd H22_ 3 rfl, Holds.rd H22_ 2 rfl, Holds.ro_at H22_ 0 rfl⟩, ?_⟩
  refine A_ready (i := 3) (rs := []) (by kernel_rfl) ?_
  refine AllR.cons ?_ AllR.nil
  refine A_op (ls' := #[true, true, true, true, false, false]) rfl (by kernel_rfl) (T_callW (al := [(Value.agg #[(Value.string k), (Value.string x), (Value.int .i64 cr), (Value.int .i64 md), (Value.int .i64 vr), (Value.int .i64 ls)])]) rfl rfl cb37 (Calls.into (n := 19) (al := [(Value.agg #[(Value.string k), (Value.string x), (Value.int .i64 cr), (Value.int .i64 md), (Value.int .i64 vr), (Value.int .i64 ls)])]) Try.func37 rfl Try.ntmps37 rfl rfl ?_))
  refine C_seq (fun K27_ hK27_ => ?_)
  refine C_reg ?_
  refine S_list (T_box (v := (Value.agg #[(Value.string k), (Value.string x), (Value.int .i64 cr), (Value.int .i64 md), (Value.int .i64 vr), (Value.int .i64 ls)])) rfl H22_ ?_)
  intro b28_ w29_ S31_ H30_
  replace H30_ : Holds w29_ (cl b28_ 33 [(Value.string k), (Value.string x), (Value.int .i64 cr), (Value.int .i64 md), (Value.int .i64 vr), (Value.int .i64 ls)] :: ro R :: cl c15_ 106 [(Value.int .i32 r), (Value.int .i32 4), K17_, (Value.nilIface), E18_] :: cl b7_ 33 [(Value.string k), (Value.string x), (Value.int .i64 cr), (Value.int .i64 md), (Value.int .i64 vr), (Value.int .i64 ls)] :: cl b2_ 31 [(Value.int .i64 4), (Value.int .i64 r), (Value.string key), (Value.string en), (Value.int .i64 n), (Value.string val), (Value.bool true)] :: F) := H30_
  have S32_ := Same.trans S26_ S31_
  refine S_list (T_val (v := (Value.pointer none)) (x_assign rfl) ?_)
  refine wpList_nil ?_
  refine (X_then (hK27_ _ _ ?_))
  clear hK27_
  refine C_seq (fun K33_ hK33_ => ?_)
  refine C_reg ?_
  refine S_list (T_val (v := (Value.pointer (some ⟨b28_, 0, none⟩))) (by kernel_rfl) ?_)
  refine S_list (T_val (v := (Value.string k)) (x_load1 rfl Try.underlying9 rfl ((Holds.rd H30_ 0 rfl) 0 (Value.string k) rfl)) ?_)
  refine S_list (T_s2b rfl Try.underlying9 Try.underlying25 Try.underlying5 H30_ ?_)
  intro b34_ cp35_ w36_ S38_ hc39_ H37_
  have S40_ := Same.trans S32_ S38_
  have H41_ : Holds w36_ (sl 5 1 (Value.slice (some ⟨b34_, 0, none⟩) k.size cp35_) k.size (bytesV (ints k)) :: cl b28_ 33 [(Value.string k), (Value.string x), (Value.int .i64 cr), (Value.int .i64 md), (Value.int .i64 vr), (Value.int .i64 ls)] :: ro R :: cl c15_ 106 [(Value.int .i32 r), (Value.int .i32 4), K17_, (Value.nilIface), E18_] :: cl b7_ 33 [(Value.string k), (Value.string x), (Value.int .i64 cr), (Value.int .i64 md), (Value.int .i64 vr), (Value.int .i64 ls)] :: cl b2_ 31 [(Value.int .i64 4), (Value.int .i64 r), (Value.string key), (Value.string en), (Value.int .i64 n), (Value.string val), (Value.bool true)] :: F) := cast2 (P := fun (c__ : List Value) (k__ : Nat) => Holds w36_ (sl 5 1 (Value.slice (some ⟨b34_, 0, none⟩) k.size cp35_) k__ c__ :: cl b28_ 33 [(Value.string k), (Value.string x), (Value.int .i64 cr), (Value.int .i64 md), (Value.int .i64 vr), (Value.int .i64 ls)] :: ro R :: cl c15_ 106 [(Value.int .i32 r), (Value.int .i32 4), K17_, (Value.nilIface), E18_] :: cl b7_ 33 [(Value.string k), (Value.string x), (Value.int .i64 cr), (Value.int .i64 md), (Value.int .i64 vr), (Value.int .i64 ls)] :: cl b2_ 31 [(Value.int .i64 4), (Value.int .i64 r), (Value.string key), (Value.string en), (Value.int .i64 n), (Value.string val), (Value.bool true)] :: F)) (byteCells_bytesV _ : byteCells k = bytesV (ints k)) (rfl : k.size = k.size) H37_
  refine S_list (T_val (v := (Value.pointer (some ⟨b28_, 1, none⟩))) (by kernel_rfl) ?_)
  refine S_list (T_val (v := (Value.string x)) (x_load1 rfl Try.underlying9 rfl ((Holds.rd H41_ 1 rfl) 1 (Value.string x) rfl)) ?_)
  refine S_list (T_s2b rfl Try.underlying9 Try.underlying25 Try.underlying5 H41_ ?_)
  intro b42_ cp43_ w44_ S46_ hc47_ H45_
  have S48_ := Same.trans S40_ S46_
  have H49_ : Holds w44_ (sl 5 1 (Value.slice (some ⟨b42_, 0, none⟩) x.size cp43_) x.size (bytesV (ints x)) :: sl 5 1 (Value.slice (some ⟨b34_, 0, none⟩) k.size cp35_) k.size (bytesV (ints k)) :: cl b28_ 33 [(Value.string k), (Value.string x), (Value.int .i64 cr), (Value.int .i64 md), (Value.int .i64 vr), (Value.int .i64 ls)] :: ro R :: cl c15_ 106 [(Value.int .i32 r), (Value.int .i32 4), K17_, (Value.nilIface), E18_] :: cl b7_ 33 [(Value.string k), (Value.string x), (Value.int .i64 cr), (Value.int .i64 md), (Value.int .i64 vr), (Value.int .i64 ls)] :: cl b2_ 31 [(Value.int .i64 4), (Value.int .i64 r), (Value.string key), (Value.string en), (Value.int .i64 n), (Value.string val), (Value.bool true)] :: F) := cast2 (P := fun (c__ : List Value) (k__ : Nat) => Holds w44_ (sl 5 1 (Value.slice (some ⟨b42_, 0, none⟩) x.size cp43_) k__ c__ :: sl 5 1 (Value.slice (some ⟨b34_, 0, none⟩) k.size cp35_) k.size (bytesV (ints k)) :: cl b28_ 33 [(Value.string k), (Value.string x), (Value.int .i64 cr), (Value.int .i64 md), (Value.int .i64 vr), (Value.int .i64 ls)] :: ro R :: cl c15_ 106 [(Value.int .i32 r), (Value.int .i32 4), K17_, (Value.nilIface), E18_] :: cl b7_ 33 [(Value.string k), (Value.string x), (Value.int .i64 cr), (Value.int .i64 md), (Value.int .i64 vr), (Value.int .i64 ls)] :: cl b2_ 31 [(Value.int .i64 4), (Value.int .i64 r), (Value.string key), (Value.string en), (Value.int .i64 n), (Value.string val), (Value.bool true)] :: F)) (byteCells_bytesV _ : byteCells x = bytesV (ints x)) (rfl : x.size = x.size) H45_
  refine S_list (T_val (v := (Value.pointer (some ⟨b28_, 2, none⟩))) (by kernel_rfl) ?_)
  refine S_list (T_val (v := (Value.int .i64 cr)) (x_load1 rfl Try.underlying2 rfl ((Holds.rd H49_ 2 rfl) 2 (Value.int .i64 cr) rfl)) ?_)
  refine S_list (T_val (v := (Value.pointer (some ⟨b28_, 3, none⟩))) (by kernel_rfl) ?_)
  refine S_list (T_val (v := (Value.int .i64 md)) (x_load1 rfl Try.underlying2 rfl ((Holds.rd H49_ 2 rfl) 3 (Value.int .i64 md) rfl)) ?_)
  refine S_list (T_val (v := (Value.pointer (some ⟨b28_, 4, none⟩))) (by kernel_rfl) ?_)
  refine S_list (T_val (v := (Value.int .i64 vr)) (x_load1 rfl Try.underlying2 rfl ((Holds.rd H49_ 2 rfl) 4 (Value.int .i64 vr) rfl)) ?_)
  refine S_list (T_val (v := (Value.pointer (some ⟨b28_, 5, none⟩))) (by kernel_rfl) ?_)
  refine S_list (T_val (v := (Value.int .i64 ls)) (x_load1 rfl Try.underlying2 rfl ((Holds.rd H49_ 2 rfl) 5 (Value.int .i64 ls) rfl)) ?_)
  refine S_list (T_val (v := (Value.agg #[(Value.slice (some ⟨b34_, 0, none⟩) k.size cp35_), (Value.int .i64 cr), (Value.int .i64 md), (Value.int .i64 vr), (Value.slice (some ⟨b42_, 0, none⟩) x.size cp43_), (Value.int .i64 ls)])) (by kernel_rfl) ?_)
  refine S_list (T_box (v := (Value.agg #[(Value.slice (some ⟨b34_, 0, none⟩) k.size cp35_), (Value.int .i64 cr), (Value.int .i64 md), (Value.int .i64 vr), (Value.slice (some ⟨b42_, 0, none⟩) x.size cp43_), (Value.int .i64 ls)])) rfl H49_ ?_)
  intro b50_ w51_ S53_ H52_
  replace H52_ : Holds w51_ (cl b50_ 123 [(Value.slice (some ⟨b34_, 0, none⟩) k.size cp35_), (Value.int .i64 cr), (Value.int .i64 md), (Value.int .i64 vr), (Value.slice (some ⟨b42_, 0, none⟩) x.size cp43_), (Value.int .i64 ls)] :: sl 5 1 (Value.slice (some ⟨b42_, 0, none⟩) x.size cp43_) x.size (bytesV (ints x)) :: sl 5 1 (Value.slice (some ⟨b34_, 0, none⟩) k.size cp35_) k.size (bytesV (ints k)) :: cl b28_ 33 [(Value.string k), (Value.string x), (Value.int .i64 cr), (Value.int .i64 md), (Value.int .i64 vr), (Value.int .i64 ls)] :: ro R :: cl c15_ 106 [(Value.int .i32 r), (Value.int .i32 4), K17_, (Value.nilIface), E18_] :: cl b7_ 33 [(Value.string k), (Value.string x), (Value.int .i64 cr), (Value.int .i64 md), (Value.int .i64 vr), (Value.int .i64 ls)] :: cl b2_ 31 [(Value.int .i64 4), (Value.int .i64 r), (Value.string key), (Value.string en), (Value.int .i64 n), (Value.string val), (Value.bool true)] :: F) := H52_
  have S54_ := Same.trans S48_ S53_
  refine S_list (T_val (v := (Value.pointer (some ⟨b50_, 0, none⟩))) (x_assign rfl) ?_)
  refine wpList_nil ?_
  refine (X_then (hK33_ _ _ ?_))
  clear hK33_
  refine C_ret ?_
  refine R_any (v := (Value.pointer (some ⟨b50_, 0, none⟩))) (run_results1 rfl rfl) ⟨_, rfl, ?_⟩
  refine ⟨⟨Holds.rd H52_ 7 rfl, Holds.rd H52_ 6 rfl, Holds.ro_at H52_ 4 rfl⟩, ?_⟩
  refine A_ready (i := 4) (rs := []) (by kernel_rfl) ?_
  refine AllR.cons ?_ AllR.nil
  refine A_op (ls' := #[true, true, true, true, true, false]) rfl (by kernel_rfl) (T_callW (al := [(Value.pointer (some ⟨c15_, 0, none⟩)), (Value.pointer (some ⟨b50_, 0, none⟩))]) rfl rfl cb35 (Calls.into (n := 8) (al := [(Value.pointer (some ⟨c15_, 0, none⟩)), (Value.pointer (some ⟨b50_, 0, none⟩))]) Try.func35 rfl Try.ntmps35 rfl rfl ?_))
  refine C_seq (fun K55_ hK55_ => ?_)
  refine C_reg ?_
  refine S_list (T_val (v := (Value.bool false)) (x_assign rfl) ?_)
  refine wpList_nil ?_
  refine (X_then (hK55_ _ _ ?_))
  clear hK55_
  refine C_seq (fun K56_ hK56_ => ?_)
  refine C_reg ?_
  refine S_list (T_val (v := (Value.pointer (some ⟨c15_, 0, none⟩))) (x_move rfl) ?_)
  refine S_list (T_val (v := (Value.pointer (some ⟨b50_, 0, none⟩))) (x_move rfl) ?_)
  have H57_ : Holds w51_ (ro R :: cl c15_ 106 [(Value.int .i32 r), (Value.int .i32 4), K17_, (Value.nilIface), E18_] :: cl b50_ 123 [(Value.slice (some ⟨b34_, 0, none⟩) k.size cp35_), (Value.int .i64 cr), (Value.int .i64 md), (Value.int .i64 vr), (Value.slice (some ⟨b42_, 0, none⟩) x.size cp43_), (Value.int .i64 ls)] :: sl 5 1 (Value.slice (some ⟨b42_, 0, none⟩) x.size cp43_) x.size (bytesV (ints x)) :: sl 5 1 (Value.slice (some ⟨b34_, 0, none⟩) k.size cp35_) k.size (bytesV (ints k)) :: cl b28_ 33 [(Value.string k), (Value.string x), (Value.int .i64 cr), (Value.int .i64 md), (Value.int .i64 vr), (Value.int .i64 ls)] :: cl b7_ 33 [(Value.string k), (Value.string x), (Value.int .i64 cr), (Value.int .i64 md), (Value.int .i64 vr), (Value.int .i64 ls)] :: cl b2_ 31 [(Value.int .i64 4), (Value.int .i64 r), (Value.string key), (Value.string en), (Value.int .i64 n), (Value.string val), (Value.bool true)] :: F) := (Holds.bring (Holds.bring (Holds.bring H52_ 0 rfl) 5 rfl) 5 rfl)
  refine S_list (T_call (al := [(Value.pointer (some ⟨c15_, 0, none⟩)), (Value.pointer (some ⟨b50_, 0, none⟩))]) (pre := [cl c15_ 106 [(Value.int .i32 r), (Value.int .i32 4), K17_, (Value.nilIface), E18_], cl b50_ 123 [(Value.slice (some ⟨b34_, 0, none⟩) k.size cp35_), (Value.int .i64 cr), (Value.int .i64 md), (Value.int .i64 vr), (Value.slice (some ⟨b42_, 0, none⟩) x.size cp43_), (Value.int .i64 ls)]]) (F := sl 5 1 (Value.slice (some ⟨b42_, 0, none⟩) x.size cp43_) x.size (bytesV (ints x)) :: sl 5 1 (Value.slice (some ⟨b34_, 0, none⟩) k.size cp35_) k.size (bytesV (ints k)) :: cl b28_ 33 [(Value.string k), (Value.string x), (Value.int .i64 cr), (Value.int .i64 md), (Value.int .i64 vr), (Value.int .i64 ls)] :: cl b7_ 33 [(Value.string k), (Value.string x), (Value.int .i64 cr), (Value.int .i64 md), (Value.int .i64 vr), (Value.int .i64 ls)] :: cl b2_ 31 [(Value.int .i64 4), (Value.int .i64 r), (Value.string key), (Value.string en), (Value.int .i64 n), (Value.string val), (Value.bool true)] :: F) rfl rfl cb60 (kvCmp4t R c15_ b50_ 0 r K17_ E18_ (Value.slice (some ⟨b34_, 0, none⟩) k.size cp35_) (Value.slice (some ⟨b42_, 0, none⟩) x.size cp43_) .nilIface cr md vr ls 0 ByteArray.empty ByteArray.empty (by omega) (by omega)) H57_ ?_)
  rintro v61_ p62_ w58_ ⟨rfl, rfl⟩ S60_ H59_
  replace H59_ : Holds w58_ (ro R :: sl 5 1 (Value.slice (some ⟨b42_, 0, none⟩) x.size cp43_) x.size (bytesV (ints x)) :: sl 5 1 (Value.slice (some ⟨b34_, 0, none⟩) k.size cp35_) k.size (bytesV (ints k)) :: cl b28_ 33 [(Value.string k), (Value.string x), (Value.int .i64 cr), (Value.int .i64 md), (Value.int .i64 vr), (Value.int .i64 ls)] :: cl b7_ 33 [(Value.string k), (Value.string x), (Value.int .i64 cr), (Value.int .i64 md), (Value.int .i64 vr), (Value.int .i64 ls)] :: cl b2_ 31 [(Value.int .i64 4), (Value.int .i64 r), (Value.string key), (Value.string en), (Value.int .i64 n), (Value.string val), (Value.bool true)] :: F) := H59_
  have S63_ := Same.trans S54_ S60_
  refine S_list (T_val (v := (Value.bool (resOk r (ordI ls 0)))) (x_assign rfl) ?_)
  refine wpList_nil ?_
  refine (X_then (hK56_ _ _ ?_))
  clear hK56_
  refine C_ret ?_
  refine R_any (v := (Value.bool (resOk r (ordI ls 0)))) (run_results1 rfl rfl) ⟨_, rfl, ?_⟩
  refine ⟨⟨Holds.rd H59_ 5 rfl, Holds.rd H59_ 4 rfl, Holds.ro_at H59_ 0 rfl⟩, ?_⟩
  refine A_take 5 (ls' := #[true, true, true, true, true, true]) (v := (Value.bool (resOk r (ordI ls 0)))) rfl (by kernel_rfl) (by kernel_rfl) (by kernel_rfl) (by kernel_rfl) (fun _ _ _ h => h) (fun w hS => x_assign rfl) ⟨Holds.rd H59_ 5 rfl, Holds.rd H59_ 4 rfl, Holds.ro_at H59_ 0 rfl⟩ ?_
  refine A_done (by kernel_rfl) ?_
  refine (X_then (hK12_ _ _ ?_))
  clear hK12_
  refine C_ret ?_
  refine R_any (v := (Value.bool (resOk r (ordI ls 0)))) (run_results1 rfl rfl) ?_
  have H64_ : Holds w58_ (ro R :: F) := (Holds.erase (Holds.erase (Holds.erase (Holds.erase (Holds.erase (Holds.bring H59_ 0 rfl) 1) 1) 1) 1) 1)
  exact ⟨_, [], rfl, ⟨rfl, rfl⟩, S63_, H64_⟩

set_option maxHeartbeats 400000 in
theorem cmpKV4f (R : HP) (r : Int) (key en : ByteArray) (n : Int) (val : ByteArray) (k x : ByteArray) (cr md vr ls : Int) (h0 : 0 ≤ r) (h1 : r ≤ 3) :
    Tri Try.prog 15 #[(Value.agg #[(Value.int .i64 4), (Value.int .i64 r), (Value.string key), (Value.string en), (Value.int .i64 n), (Value.string val), (Value.bool false)]), (Value.agg #[(Value.string k), (Value.string x), (Value.int .i64 cr), (Value.int .i64 md), (Value.int .i64 vr), (Value.int .i64 ls)])] R [] (fun v post => v = .bool (resOk r (ordI ls n)) ∧ post = []) := by
  refine Tri.into (n := 10) (al := [(Value.agg #[(Value.int .i64 4), (Value.int .i64 r), (Value.string key), (Value.string en), (Value.int .i64 n), (Value.string val), (Value.bool false)]), (Value.agg #[(Value.string k), (Value.string x), (Value.int .i64 cr), (Value.int .i64 md), (Value.int .i64 vr), (Value.int .i64 ls)])]) Try.func15 rfl Try.ntmps15 rfl rfl fun w F H => ?_
  replace H : Holds w (ro R :: F) := H
  refine C_seq (fun K1_ hK1_ => ?_)
  refine C_reg ?_
  refine S_list (T_box (v := (Value.agg #[(Value.int .i64 4), (Value.int .i64 r), (Value.string key), (Value.string en), (Value.int .i64 n), (Value.string val), (Value.bool false)])) rfl H ?_)
  intro b2_ w3_ S5_ H4_
  replace H4_ : Holds w3_ (cl b2_ 31 [(Value.int .i64 4), (Value.int .i64 r), (Value.string key), (Value.string en), (Value.int .i64 n), (Value.string val), (Value.bool false)] :: ro R :: F) := H4_
  have S6_ := Same.trans (Same.refl w) S5_
  refine S_list (T_box (v := (Value.agg #[(Value.string k), (Value.string x), (Value.int .i64 cr), (Value.int .i64 md), (Value.int .i64 vr), (Value.int .i64 ls)])) rfl H4_ ?_)
  intro b7_ w8_ S10_ H9_
  replace H9_ : Holds w8_ (cl b7_ 33 [(Value.string k), (Value.string x), (Value.int .i64 cr), (Value.int .i64 md), (Value.int .i64 vr), (Value.int .i64 ls)] :: cl b2_ 31 [(Value.int .i64 4), (Value.int .i64 r), (Value.string key), (Value.string en), (Value.int .i64 n), (Value.string val), (Value.bool false)] :: ro R :: F) := H9_
  have S11_ := Same.trans S6_ S10_
  refine S_list (T_val (v := (Value.bool false)) (x_assign rfl) ?_)
  refine wpList_nil ?_
  refine (X_then (hK1_ _ _ ?_))
  clear hK1_
  refine C_seq (fun K12_ hK12_ => ?_)
  refine A_start (S := fun w => Rd b2_ [(Value.int .i64 4), (Value.int .i64 r), (Value.string key), (Value.string en), (Value.int .i64 n), (Value.string val), (Value.bool false)] w ∧ Rd b7_ [(Value.string k), (Value.string x), (Value.int .i64 cr), (Value.int .i64 md), (Value.int .i64 vr), (Value.int .i64 ls)] w ∧ Sub R (hp w)) (N := 6) foll rfl rfl ?_
  have H14_ : Holds w8_.drew (cl b7_ 33 [(Value.string k), (Value.string x), (Value.int .i64 cr), (Value.int .i64 md), (Value.int .i64 vr), (Value.int .i64 ls)] :: cl b2_ 31 [(Value.int .i64 4), (Value.int .i64 r), (Value.string key), (Value.string en), (Value.int .i64 n), (Value.string val), (Value.bool false)] :: ro R :: F) := H9_
  refine A_take 0 (ls' := #[true, false, false, false, false, false]) (v := (Value.agg #[(Value.int .i64 4), (Value.int .i64 r), (Value.string key), (Value.string en), (Value.int .i64 n), (Value.string val), (Value.bool false)])) rfl (by kernel_rfl) (by kernel_rfl) (by kernel_rfl) (by kernel_rfl) (fun _ _ _ h => h) (fun w hS => x_loadN (vs := [(Value.int .i64 4), (Value.int .i64 r), (Value.string key), (Value.string en), (Value.int .i64 n), (Value.string val), (Value.bool false)]) rfl Try.underlying31 rfl z31 rfl (Rd.cells hS.1 0 rfl)) ⟨Holds.rd H14_ 1 rfl, Holds.rd H14_ 0 rfl, Holds.ro_at H14_ 2 rfl⟩ ?_
  refine A_take 2 (ls' := #[true, false, true, false, false, false]) (v := (Value.agg #[(Value.string k), (Value.string x), (Value.int .i64 cr), (Value.int .i64 md), (Value.int .i64 vr), (Value.int .i64 ls)])) rfl (by kernel_rfl) (by kernel_rfl) (by kernel_rfl) (by kernel_rfl) (fun _ _ _ h => h) (fun w hS => x_loadN (vs := [(Value.string k), (Value.string x), (Value.int .i64 cr), (Value.int .i64 md), (Value.int .i64 vr), (Value.int .i64 ls)]) rfl Try.underlying33 rfl z33 rfl (Rd.cells hS.2.1 0 rfl)) ⟨Holds.rd H14_ 1 rfl, Holds.rd H14_ 0 rfl, Holds.ro_at H14_ 2 rfl⟩ ?_
  refine A_ready (i := 1) (rs := []) (by kernel_rfl) ?_
  refine AllR.cons ?_ AllR.nil
  have H20_ : Holds w8_.drew (ro R :: cl b7_ 33 [(Value.string k), (Value.string x), (Value.int .i64 cr), (Value.int .i64 md), (Value.int .i64 vr), (Value.int .i64 ls)] :: cl b2_ 31 [(Value.int .i64 4), (Value.int .i64 r), (Value.string key), (Value.string en), (Value.int .i64 n), (Value.string val), (Value.bool false)] :: F) := (Holds.bring H14_ 2 rfl)
  refine A_op (ls' := #[true, true, true, false, false, false]) rfl (by kernel_rfl) (T_call (al := [(Value.agg #[(Value.int .i64 4), (Value.int .i64 r), (Value.string key), (Value.string en), (Value.int .i64 n), (Value.string val), (Value.bool false)])]) (pre := []) (F := cl b7_ 33 [(Value.string k), (Value.string x), (Value.int .i64 cr), (Value.int .i64 md), (Value.int .i64 vr), (Value.int .i64 ls)] :: cl b2_ 31 [(Value.int .i64 4), (Value.int .i64 r), (Value.string key), (Value.string en), (Value.int .i64 n), (Value.string val), (Value.bool false)] :: F) rfl rfl cb36 (cmpIn4f R r key en n val (by omega) (by omega)) H20_ ?_)
  rintro v24_ p25_ w21_ ⟨c15_, u16_, K17_, E18_, rfl, rfl⟩ S23_ H22_
  replace H22_ : Holds w21_ (ro R :: cl c15_ 106 [(Value.int .i32 r), (Value.int .i32 4), K17_, (Value.iface 119 (Value.pointer (some ⟨u16_, 0, none⟩))), E18_] :: cl u16_ 121 [(Value.int .i64 n)] :: cl b7_ 33 [(Value.string k), (Value.string x), (Value.int .i64 cr), (Value.int .i64 md), (Value.int .i64 vr), (Value.int .i64 ls)] :: cl b2_ 31 [(Value.int .i64 4), (Value.int .i64 r), (Value.string key), (Value.string en), (Value.int .i64 n), (Value.string val), (Value.bool false)] :: F) := H22_
  have S26_ := Same.trans (Same.trans S11_ (Same.drew _)) S23_
  refine ⟨⟨Holds.rd H22_ 4 rfl, Holds.rd H22_ 3 rfl, Holds.ro_at H22_ 0 rfl⟩, ?_⟩
  refine A_ready (i := 3) (rs := []) (by kernel_rfl) ?_
  refine AllR.cons ?_ AllR.nil
  refine A_op (ls' := #[true, true, true, true, false, false]) rfl (by kernel_rfl) (T_callW (al := [(Value.agg #[(Value.string k), (Value.string x), (Value.int .i64 cr), (Value.int .i64 md), (Value.int .i64 vr), (Value.int .i64 ls)])]) rfl rfl cb37 (Calls.into (n := 19) (al := [(Value.agg #[(Value.string k), (Value.string x), (Value.int .i64 cr), (Value.int .i64 md), (Value.int .i64 vr), (Value.int .i64 ls)])]) Try.func37 rfl Try.ntmps37 rfl rfl ?_))
  refine C_seq (fun K27_ hK27_ => ?_)
  refine C_reg ?_
  refine S_list (T_box (v := (Value.agg #[(Value.string k), (Value.string x), (Value.int .i64 cr), (Value.int .i64 md), (Value.int .i64 vr), (Value.int .i64 ls)])) rfl H22_ ?_)
  intro b28_ w29_ S31_ H30_
  replace H30_ : Holds w29_ (cl b28_ 33 [(Value.string k), (Value.string x), (Value.int .i64 cr), (Value.int .i64 md), (Value.int .i64 vr), (Value.int .i64 ls)] :: ro R :: cl c15_ 106 [(Value.int .i32 r), (Value.int .i32 4), K17_, (Value.iface 119 (Value.pointer (some ⟨u16_, 0, none⟩))), E18_] :: cl u16_ 121 [(Value.int .i64 n)] :: cl b7_ 33 [(Value.string k), (Value.string x), (Value.int .i64 cr), (Value.int .i64 md), (Value.int .i64 vr), (Value.int .i64 ls)] :: cl b2_ 31 [(Value.int .i64 4), (Value.int .i64 r), (Value.string key), (Value.string en), (Value.int .i64 n), (Value.string val), (Value.bool false)] :: F) := H30_
  have S32_ := Same.trans S26_ S31_
  refine S_list (T_val (v := (Value.pointer none)) (x_assign rfl) ?_)
  refine wpList_nil ?_
  refine (X_then (hK27_ _ _ ?_))
  clear hK27_
  refine C_seq (fun K33_ hK33_ => ?_)
  refine C_reg ?_
  refine S_list (T_val (v := (Value.pointer (some ⟨b28_, 0, none⟩))) (by kernel_rfl) ?_)
  refine S_list (T_val (v := (Value.string k)) (x_load1 rfl Try.underlying9 rfl ((Holds.rd H30_ 0 rfl) 0 (Value.string k) rfl)) ?_)
  refine S_list (T_s2b rfl Try.underlying9 Try.underlying25 Try.underlying5 H30_ ?_)
  intro b34_ cp35_ w36_ S38_ hc39_ H37_
  have S40_ := Same.trans S32_ S38_
  have H41_ : Holds w36_ (sl 5 1 (Value.slice (some ⟨b34_, 0, none⟩) k.size cp35_) k.size (bytesV (ints k)) :: cl b28_ 33 [(Value.string k), (Value.string x), (Value.int .i64 cr), (Value.int .i64 md), (Value.int .i64 vr), (Value.int .i64 ls)] :: ro R :: cl c15_ 106 [(Value.int .i32 r), (Value.int .i32 4), K17_, (Value.iface 119 (Value.pointer (some ⟨u16_, 0, none⟩))), E18_] :: cl u16_ 121 [(Value.int .i64 n)] :: cl b7_ 33 [(Value.string k), (Value.string x), (Value.int .i64 cr), (Value.int .i64 md), (Value.int .i64 vr), (Value.int .i64 ls)] :: cl b2_ 31 [(Value.int .i64 4), (Value.int .i64 r), (Value.string key), (Value.string en), (Value.int .i64 n), (Value.string val), (Value.bool false)] :: F) := cast2 (P := fun (c__ : List Value) (k__ : Nat) => Holds w36_ (sl 5 1 (Value.slice (some ⟨b34_, 0, none⟩) k.size cp35_) k__ c__ :: cl b28_ 33 [(Value.string k), (Value.string x), (Value.int .i64 cr), (Value.int .i64 md), (Value.int .i64 vr), (Value.int .i64 ls)] :: ro R :: cl c15_ 106 [(Value.int .i32 r), (Value.int .i32 4), K17_, (Value.iface 119 (Value.pointer (some ⟨u16_, 0, none⟩))), E18_] :: cl u16_ 121 [(Value.int .i64 n)] :: cl b7_ 33 [(Value.string k), (Value.string x), (Value.int .i64 cr), (Value.int .i64 md), (Value.int .i64 vr), (Value.int .i64 ls)] :: cl b2_ 31 [(Value.int .i64 4), (Value.int .i64 r), (Value.string key), (Value.string en), (Value.int .i64 n), (Value.string val), (Value.bool false)] :: F)) (byteCells_bytesV _ : byteCells k = bytesV (ints k)) (rfl : k.size = k.size) H37_
  refine S_list (T_val (v := (Value.pointer (some ⟨b28_, 1, none⟩))) (by kernel_rfl) ?_)
  refine S_list (T_val (v := (Value.string x)) (x_load1 rfl Try.underlying9 rfl ((Holds.rd H41_ 1 rfl) 1 (Value.string x) rfl)) ?_)
  refine S_list (T_s2b rfl Try.underlying9 Try.underlying25 Try.underlying5 H41_ ?_)
  intro b42_ cp43_ w44_ S46_ hc47_ H45_
  have S48_ := Same.trans S40_ S46_
  have H49_ : Holds w44_ (sl 5 1 (Value.slice (some ⟨b42_, 0, none⟩) x.size cp43_) x.size (bytesV (ints x)) :: sl 5 1 (Value.slice (some ⟨b34_, 0, none⟩) k.size cp35_) k.size (bytesV (ints k)) :: cl b28_ 33 [(Value.string k), (Value.string x), (Value.int .i64 cr), (Value.int .i64 md), (Value.int .i64 vr), (Value.int .i64 ls)] :: ro R :: cl c15_ 106 [(Value.int .i32 r), (Value.int .i32 4), K17_, (Value.iface 119 (Value.pointer (some ⟨u16_, 0, none⟩))), E18_] :: cl u16_ 121 [(Value.int .i64 n)] :: cl b7_ 33 [(Value.string k), (Value.string x), (Value.int .i64 cr), (Value.int .i64 md), (Value.int .i64 vr), (Value.int .i64 ls)] :: cl b2_ 31 [(Value.int .i64 4), (Value.int .i64 r), (Value.string key), (Value.string en), (Value.int .i64 n), (Value.string val), (Value.bool false)] :: F) := cast2 (P := fun (c__ : List Value) (k__ : Nat) => Holds w44_ (sl 5 1 (Value.slice (some ⟨b42_, 0, none⟩) x.size cp43_) k__ c__ :: sl 5 1 (Value.slice (some ⟨b34_, 0, none⟩) k.size cp35_) k.size (bytesV (ints k)) :: cl b28_ 33 [(Value.string k), (Value.string x), (Value.int .i64 cr), (Value.int .i64 md), (Value.int .i64 vr), (Value.int .i64 ls)] :: ro R :: cl c15_ 106 [(Value.int .i32 r), (Value.int .i32 4), K17_, (Value.iface 119 (Value.pointer (some ⟨u16_, 0, none⟩))), E18_] :: cl u16_ 121 [(Value.int .i64 n)] :: cl b7_ 33 [(Value.string k), (Value.string x), (Value.int .i64 cr), (Value.int .i64 md), (Value.int .i64 vr), (Value.int .i64 ls)] :: cl b2_ 31 [(Value.int .i64 4), (Value.int .i64 r), (Value.string key), (Value.string en), (Value.int .i64 n), (Value.string val), (Value.bool false)] :: F)) (byteCells_bytesV _ : byteCells x = bytesV (ints x)) (rfl : x.size = x.size) H45_
  refine S_list (T_val (v := (Value.pointer (some ⟨b28_, 2, none⟩))) (by kernel_rfl) ?_)
  refine S_list (T_val (v := (Value.int .i64 cr)) (x_load1 rfl Try.underlying2 rfl ((Holds.rd H49_ 2 rfl) 2 (Value.int .i64 cr) rfl)) ?_)
  refine S_list (T_val (v := (Value.pointer (some ⟨b28_, 3, none⟩))) (by kernel_rfl) ?_)
  refine S_list (T_val (v := (Value.int .i64 md)) (x_load1 rfl Try.underlying2 rfl ((Holds.rd H49_ 2 rfl) 3 (Value.int .i64 md) rfl)) ?_)
  refine S_list (T_val (v := (Value.pointer (some ⟨b28_, 4, none⟩))) (by kernel_rfl) ?_)
  refine S_list (T_val (v := (Value.int .i64 vr)) (x_load1 rfl Try.underlying2 rfl ((Holds.rd H49_ 2 rfl) 4 (Value.int .i64 vr) rfl)) ?_)
  refine S_list (T_val (v := (Value.pointer (some ⟨b28_, 5, none⟩))) (by kernel_rfl) ?_)
  refine S_list (T_val (v := (Value.int .i64 ls)) (x_load1 rfl Try.underlying2 rfl ((Holds.rd H49_ 2 rfl) 5 (Value.int .i64 ls) rfl)) ?_)
  refine S_list (T_val (v := (Value.agg #[(Value.slice (some ⟨b34_, 0, none⟩) k.size cp35_), (Value.int .i64 cr), (Value.int .i64 md), (Value.int .i64 vr), (Value.slice (some ⟨b42_, 0, none⟩) x.size cp43_), (Value.int .i64 ls)])) (by kernel_rfl) ?_)
  refine S_list (T_box (v := (Value.agg #[(Value.slice (some ⟨b34_, 0, none⟩) k.size cp35_), (Value.int .i64 cr), (Value.int .i64 md), (Value.int .i64 vr), (Value.slice (some ⟨b42_, 0, none⟩) x.size cp43_), (Value.int .i64 ls)])) rfl H49_ ?_)
  intro b50_ w51_ S53_ H52_
  replace H52_ : Holds w51_ (cl b50_ 123 [(Value.slice (some ⟨b34_, 0, none⟩) k.size cp35_), (Value.int .i64 cr), (Value.int .i64 md), (Value.int .i64 vr), (Value.slice (some ⟨b42_, 0, none⟩) x.size cp43_), (Value.int .i64 ls)] :: sl 5 1 (Value.slice (some ⟨b42_, 0, none⟩) x.size cp43_) x.size (bytesV (ints x)) :: sl 5 1 (Value.slice (some ⟨b34_, 0, none⟩) k.size cp35_) k.size (bytesV (ints k)) :: cl b28_ 33 [(Value.string k), (Value.string x), (Value.int .i64 cr), (Value.int .i64 md), (Value.int .i64 vr), (Value.int .i64 ls)] :: ro R :: cl c15_ 106 [(Value.int .i32 r), (Value.int .i32 4), K17_, (Value.iface 119 (Value.pointer (some ⟨u16_, 0, none⟩))), E18_] :: cl u16_ 121 [(Value.int .i64 n)] :: cl b7_ 33 [(Value.string k), (Value.string x), (Value.int .i64 cr), (Value.int .i64 md), (Value.int .i64 vr), (Value.int .i64 ls)] :: cl b2_ 31 [(Value.int .i64 4), (Value.int .i64 r), (Value.string key), (Value.string en), (Value.int .i64 n), (Value.string val), (Value.bool false)] :: F) := H52_
  have S54_ := Same.trans S48_ S53_
  refine S_list (T_val (v := (Value.pointer (some ⟨b50_, 0, none⟩))) (x_assign rfl) ?_)
  refine wpList_nil ?_
  refine (X_then (hK33_ _ _ ?_))
  clear hK33_
  refine C_ret ?_
  refine R_any (v := (Value.pointer (some ⟨b50_, 0, none⟩))) (run_results1 rfl rfl) ⟨_, rfl, ?_⟩
  refine ⟨⟨Holds.rd H52_ 8 rfl, Holds.rd H52_ 7 rfl, Holds.ro_at H52_ 4 rfl⟩, ?_⟩
  refine A_ready (i := 4) (rs := []) (by kernel_rfl) ?_
  refine AllR.cons ?_ AllR.nil
  refine A_op (ls' := #[true, true, true, true, true, false]) rfl (by kernel_rfl) (T_callW (al := [(Value.pointer (some ⟨c15_, 0, none⟩)), (Value.pointer (some ⟨b50_, 0, none⟩))]) rfl rfl cb35 (Calls.into (n := 8) (al := [(Value.pointer (some ⟨c15_, 0, none⟩)), (Value.pointer (some ⟨b50_, 0, none⟩))]) Try.func35 rfl Try.ntmps35 rfl rfl ?_))
  refine C_seq (fun K55_ hK55_ => ?_)
  refine C_reg ?_
  refine S_list (T_val (v := (Value.bool false)) (x_assign rfl) ?_)
  refine wpList_nil ?_
  refine (X_then (hK55_ _ _ ?_))
  clear hK55_
  refine C_seq (fun K56_ hK56_ => ?_)
  refine C_reg ?_
  refine S_list (T_val (v := (Value.pointer (some ⟨c15_, 0, none⟩))) (x_move rfl) ?_)
  refine S_list (T_val (v := (Value.pointer (some ⟨b50_, 0, none⟩))) (x_move rfl) ?_)
  have H57_ : Holds w51_ (ro R :: cl c15_ 106 [(Value.int .i32 r), (Value.int .i32 4), K17_, (Value.iface 119 (Value.pointer (some ⟨u16_, 0, none⟩))), E18_] :: cl b50_ 123 [(Value.slice (some ⟨b34_, 0, none⟩) k.size cp35_), (Value.int .i64 cr), (Value.int .i64 md), (Value.int .i64 vr), (Value.slice (some ⟨b42_, 0, none⟩) x.size cp43_), (Value.int .i64 ls)] :: cl u16_ 121 [(Value.int .i64 n)] :: sl 5 1 (Value.slice (some ⟨b42_, 0, none⟩) x.size cp43_) x.size (bytesV (ints x)) :: sl 5 1 (Value.slice (some ⟨b34_, 0, none⟩) k.size cp35_) k.size (bytesV (ints k)) :: cl b28_ 33 [(Value.string k), (Value.string x), (Value.int .i64 cr), (Value.int .i64 md), (Value.int .i64 vr), (Value.int .i64 ls)] :: cl b7_ 33 [(Value.string k), (Value.string x), (Value.int .i64 cr), (Value.int .i64 md), (Value.int .i64 vr), (Value.int .i64 ls)] :: cl b2_ 31 [(Value.int .i64 4), (Value.int .i64 r), (Value.string key), (Value.string en), (Value.int .i64 n), (Value.string val), (Value.bool false)] :: F) := (Holds.bring (Holds.bring (Holds.bring (Holds.bring H52_ 6 rfl) 1 rfl) 6 rfl) 6 rfl)
  refine S_list (T_call (al := [(Value.pointer (some ⟨c15_, 0, none⟩)), (Value.pointer (some ⟨b50_, 0, none⟩))]) (pre := [cl c15_ 106 [(Value.int .i32 r), (Value.int .i32 4), K17_, (Value.iface 119 (Value.pointer (some ⟨u16_, 0, none⟩))), E18_], cl b50_ 123 [(Value.slice (some ⟨b34_, 0, none⟩) k.size cp35_), (Value.int .i64 cr), (Value.int .i64 md), (Value.int .i64 vr), (Value.slice (some ⟨b42_, 0, none⟩) x.size cp43_), (Value.int .i64 ls)], cl u16_ 121 [(Value.int .i64 n)]]) (F := sl 5 1 (Value.slice (some ⟨b42_, 0, none⟩) x.size cp43_) x.size (bytesV (ints x)) :: sl 5 1 (Value.slice (some ⟨b34_, 0, none⟩) k.size cp35_) k.size (bytesV (ints k)) :: cl b28_ 33 [(Value.string k), (Value.string x), (Value.int .i64 cr), (Value.int .i64 md), (Value.int .i64 vr), (Value.int .i64 ls)] :: cl b7_ 33 [(Value.string k), (Value.string x), (Value.int .i64 cr), (Value.int .i64 md), (Value.int .i64 vr), (Value.int .i64 ls)] :: cl b2_ 31 [(Value.int .i64 4), (Value.int .i64 r), (Value.string key), (Value.string en), (Value.int .i64 n), (Value.string val), (Value.bool false)] :: F) rfl rfl cb60 (kvCmp4f R c15_ b50_ u16_ r K17_ E18_ (Value.slice (some ⟨b34_, 0, none⟩) k.size cp35_) (Value.slice (some ⟨b42_, 0, none⟩) x.size cp43_) .nilIface cr md vr ls n ByteArray.empty ByteArray.empty (by omega) (by omega)) H57_ ?_)
  rintro v61_ p62_ w58_ ⟨rfl, rfl⟩ S60_ H59_
  replace H59_ : Holds w58_ (ro R :: sl 5 1 (Value.slice (some ⟨b42_, 0, none⟩) x.size cp43_) x.size (bytesV (ints x)) :: sl 5 1 (Value.slice (some ⟨b34_, 0, none⟩) k.size cp35_) k.size (bytesV (ints k)) :: cl b28_ 33 [(Value.string k), (Value.string x), (Value.int .i64 cr), (Value.int .i64 md), (Value.int .i64 vr), (Value.int .i64 ls)] :: cl b7_ 33 [(Value.string k), (Value.string x), (Value.int .i64 cr), (Value.int .i64 md), (Value.int .i64 vr), (Value.int .i64 ls)] :: cl b2_ 31 [(Value.int .i64 4), (Value.int .i64 r), (Value.string key), (Value.string en), (Value.int .i64 n), (Value.string val), (Value.bool false)] :: F) := H59_
  have S63_ := Same.trans S54_ S60_
  refine S_list (T_val (v := (Value.bool (resOk r (ordI ls n)))) (x_assign rfl) ?_)
  refine wpList_nil ?_
  refine (X_then (hK56_ _ _ ?_))
  clear hK56_
  refine C_ret ?_
  refine R_any (v := (Value.bool (resOk r (ordI ls n)))) (run_results1 rfl rfl) ⟨_, rfl, ?_⟩
  refine ⟨⟨Holds.rd H59_ 5 rfl, Holds.rd H59_ 4 rfl, Holds.ro_at H59_ 0 rfl⟩, ?_⟩
  refine A_take 5 (ls' := #[true, true, true, true, true, true]) (v := (Value.bool (resOk r (ordI ls n)))) rfl (by kernel_rfl) (by kernel_rfl) (by kernel_rfl) (by kernel_rfl) (fun _ _ _ h => h) (fun w hS => x_assign rfl) ⟨Holds.rd H59_ 5 rfl, Holds.rd H59_ 4 rfl, Holds.ro_at H59_ 0 rfl⟩ ?_
  refine A_done (by kernel_rfl) ?_
  refine (X_then (hK12_ _ _ ?_))
  clear hK12_
  refine C_ret ?_
  refine R_any (v := (Value.bool (resOk r (ordI ls n)))) (run_results1 rfl rfl) ?_
  have H64_ : Holds w58_ (ro R :: F) := (Holds.erase (Holds.erase (Holds.erase (Holds.erase (Holds.erase (Holds.bring H59_ 0 rfl) 1) 1) 1) 1) 1)
  exact ⟨_, [], rfl, ⟨rfl, rfl⟩, S63_, H64_⟩
end Go.Proofs.Ytfdnfnjmphjdnaa
