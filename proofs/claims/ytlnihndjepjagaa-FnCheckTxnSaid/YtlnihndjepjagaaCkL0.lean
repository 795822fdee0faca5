/- A transaction is checked. -/
import Derived.Test.YtlnihndjepjagaaCkK0
set_option linter.unusedVariables false
set_option linter.unusedSimpArgs false
namespace Go.Proofs.Ytlnihndjepjagaa
open Go Go.RowKit Gw

set_option maxHeartbeats 2000000 in
theorem ckTxnReq_step (R : HP) (b : Nat) (x : RT) (most : Int) (n__ : Nat) (hr : TxnAt R b x) (h4 : x.q.kind = 4) (hP : Pln x) (hmo : 0 ≤ most ∧ most ≤ 1048576) (hn__ : x.sz ≤ n__) (ih : ∀ (R : HP) (b : Nat) (x : RT) (most : Int) (hr : TxnAt R b x) (h4 : x.q.kind = 4) (hP : Pln x) (hmo : 0 ≤ most ∧ most ≤ 1048576) (hms : x.sz < n__), Tri Try.prog 71 #[(Value.pointer (some ⟨b, 0, none⟩)), (Value.int .i64 most)] R [] (fun v__ post__ => (v__ = (Value.nilIface) ∧ post__ = [] ∧ (refT x most = 0)) ∨ (v__ = (Value.iface 133 (Value.string (ByteArray.mk #[101, 116, 99, 100, 115, 101, 114, 118, 101, 114, 58, 32, 107, 101, 121, 32, 105, 115, 32, 110, 111, 116, 32, 112, 114, 111, 118, 105, 100, 101, 100]))) ∧ post__ = [] ∧ (refT x most = 1)) ∨ (v__ = (Value.iface 133 (Value.string (ByteArray.mk #[101, 116, 99, 100, 115, 101, 114, 118, 101, 114, 58, 32, 116, 111, 111, 32, 109, 97, 110, 121, 32, 111, 112, 101, 114, 97, 116, 105, 111, 110, 115, 32, 105, 110, 32, 116, 120, 110, 32, 114, 101, 113, 117, 101, 115, 116]))) ∧ post__ = [] ∧ (refT x most = 4)) ∨ (v__ = (Value.iface 133 (Value.string (ByteArray.mk #[101, 116, 99, 100, 115, 101, 114, 118, 101, 114, 58, 32, 105, 110, 118, 97, 108, 105, 100, 32, 115, 111, 114, 116, 32, 111, 112, 116, 105, 111, 110]))) ∧ post__ = [] ∧ (refT x most = 6)))) :
    Tri Try.prog 71 #[(Value.pointer (some ⟨b, 0, none⟩)), (Value.int .i64 most)] R [] (fun v__ post__ => (v__ = (Value.nilIface) ∧ post__ = [] ∧ (refT x most = 0)) ∨ (v__ = (Value.iface 133 (Value.string (ByteArray.mk #[101, 116, 99, 100, 115, 101, 114, 118, 101, 114, 58, 32, 107, 101, 121, 32, 105, 115, 32, 110, 111, 116, 32, 112, 114, 111, 118, 105, 100, 101, 100]))) ∧ post__ = [] ∧ (refT x most = 1)) ∨ (v__ = (Value.iface 133 (Value.string (ByteArray.mk #[101, 116, 99, 100, 115, 101, 114, 118, 101, 114, 58, 32, 116, 111, 111, 32, 109, 97, 110, 121, 32, 111, 112, 101, 114, 97, 116, 105, 111, 110, 115, 32, 105, 110, 32, 116, 120, 110, 32, 114, 101, 113, 117, 101, 115, 116]))) ∧ post__ = [] ∧ (refT x most = 4)) ∨ (v__ = (Value.iface 133 (Value.string (ByteArray.mk #[101, 116, 99, 100, 115, 101, 114, 118, 101, 114, 58, 32, 105, 110, 118, 97, 108, 105, 100, 32, 115, 111, 114, 116, 32, 111, 112, 116, 105, 111, 110]))) ∧ post__ = [] ∧ (refT x most = 6))) := by
 obtain ⟨v1, v2, v3, C, T, E, hrc, hv1, hv2, hv3, hC, hT, hE⟩ := hr
 have hC1 := hC.1
 have hT1 := hT.1
 have hE1 := hE.1
 have hpb := hP.b h4
 have hs1 := x.sz_tt
 have hs2 := x.sz_ee
 refine Tri.into (n := 100) (al := [(Value.pointer (some ⟨b, 0, none⟩)), (Value.int .i64 most)]) Try.func71 rfl Try.ntmps71 rfl rfl fun w F H => ?_
 refine C_seq (fun K1_ hK1_ => ?_)
 refine C_reg ?_
 refine S_list (T_val (v := (Value.nilIface)) (x_assign rfl) ?_)
 refine wpList_nil ?_
 refine (X_then (hK1_ _ _ ?_))
 clear hK1_
 refine C_seq (fun K2_ hK2_ => ?_)
 refine C_reg ?_
 refine S_list (T_val (v := (Value.pointer (some ⟨b, 0, none⟩))) (x_move rfl) ?_)
 refine S_list (T_val (v := (Value.pointer (some ⟨b, 0, none⟩))) (by kernel_rfl) ?_)
 refine S_list (T_val (v := (Value.pointer (some ⟨b, 0, none⟩))) (by kernel_rfl) ?_)
 refine S_list (T_val (v := v1) (x_load1 rfl Try.underlying144 rfl (RC.cell hrc (Holds.ro_at H 0 rfl) (j := 0) (u := v1) (rfl))) ?_)
 refine S_list (T_val (v := (Value.int .i64 ((List.length C) : Int))) (x_lenRS rfl hv1 Try.underlying144) ?_)
 refine S_list (T_val (v := (Value.int .i64 ((List.length C) : Int))) (x_assign rfl) ?_)
 refine wpList_nil ?_
 refine (X_then (hK2_ _ _ ?_))
 clear hK2_
 refine C_seq (fun K3_ hK3_ => ?_)
 refine C_seq (fun K4_ hK4_ => ?_)
 refine C_reg ?_
 refine S_list (T_val (v := (Value.int .i64 ((List.length C) : Int))) (x_move rfl) ?_)
 refine S_list (T_val (v := (Value.pointer (some ⟨b, 0, none⟩))) (x_move rfl) ?_)
 refine S_list (T_val (v := (Value.pointer (some ⟨b, 0, none⟩))) (by kernel_rfl) ?_)
 refine S_list (T_val (v := (Value.pointer (some ⟨b, 1, none⟩))) (by kernel_rfl) ?_)
 refine S_list (T_val (v := v2) (x_load1 rfl Try.underlying104 rfl (RC.cell hrc (Holds.ro_at H 0 rfl) (j := 1) (u := v2) (rfl))) ?_)
 refine S_list (T_val (v := (Value.int .i64 ((List.length T) : Int))) (x_lenRS rfl hv2 Try.underlying104) ?_)
 refine S_list (T_val (v := (Value.bool (decide (((List.length C) : Int) < ((List.length T) : Int))))) (x_bin rfl rfl rfl) ?_)
 refine wpList_nil ?_
 refine (X_then (hK4_ _ _ ?_))
 clear hK4_
 refine C_cond (b := decide (((List.length C) : Int) < ((List.length T) : Int))) rfl (fun c5_t => ?_) (fun c5_f => ?_)
 ·have c5_tp : ((List.length C) : Int) < ((List.length T) : Int) := of_decide_eq_true c5_t
  refine C_reg ?_
  refine S_list (T_val (v := (Value.pointer (some ⟨b, 0, none⟩))) (x_move rfl) ?_)
  refine S_list (T_val (v := (Value.pointer (some ⟨b, 0, none⟩))) (by kernel_rfl) ?_)
  refine S_list (T_val (v := (Value.pointer (some ⟨b, 1, none⟩))) (by kernel_rfl) ?_)
  refine S_list (T_val (v := v2) (x_load1 rfl Try.underlying104 rfl (RC.cell hrc (Holds.ro_at H 0 rfl) (j := 1) (u := v2) (rfl))) ?_)
  refine S_list (T_val (v := (Value.int .i64 ((List.length T) : Int))) (x_lenRS rfl hv2 Try.underlying104) ?_)
  refine S_list (T_val (v := (Value.int .i64 ((List.length T) : Int))) (x_assign rfl) ?_)
  refine wpList_nil ?_
  refine (X_then (hK3_ _ _ ?_))
  clear hK3_
  refine C_cut (fun a__ w1__ => ∃ mx : Nat, ∃ h : Env, a__ = mkA 100 (upd (upd (upd (upd h 0 (Value.pointer (some ⟨b, 0, none⟩))) 1 (Value.int .i64 most)) 4 (Value.nilIface)) 5 (Value.int .i64 (mx : Int))) [] ∧ Holds w1__ (ro R :: F) ∧ Same w w1__ ∧ (mx = mxT x)) ?_ ?_
  ·refine C_seq (fun K9_ hK9_ => ?_)
   refine C_reg ?_
   refine S_list (T_val (v := (Value.int .i64 ((List.length T) : Int))) (x_move rfl) ?_)
   refine S_list (T_val (v := (Value.pointer (some ⟨b, 0, none⟩))) (x_move rfl) ?_)
   refine S_list (T_val (v := (Value.pointer (some ⟨b, 0, none⟩))) (by kernel_rfl) ?_)
   refine S_list (T_val (v := (Value.pointer (some ⟨b, 2, none⟩))) (by kernel_rfl) ?_)
   refine S_list (T_val (v := v3) (x_load1 rfl Try.underlying104 rfl (RC.cell hrc (Holds.ro_at H 0 rfl) (j := 2) (u := v3) (rfl))) ?_)
   refine S_list (T_val (v := (Value.int .i64 ((List.length E) : Int))) (x_lenRS rfl hv3 Try.underlying104) ?_)
   refine S_list (T_val (v := (Value.bool (decide (((List.length T) : Int) < ((List.length E) : Int))))) (x_bin rfl rfl rfl) ?_)
   refine wpList_nil ?_
   refine (X_then (hK9_ _ _ ?_))
   clear hK9_
   refine C_cond (b := decide (((List.length T) : Int) < ((List.length E) : Int))) rfl (fun c10_t => ?_) (fun c10_f => ?_)
   ·have c10_tp : ((List.length T) : Int) < ((List.length E) : Int) := of_decide_eq_true c10_t
    refine C_reg ?_
    refine S_list (T_val (v := (Value.pointer (some ⟨b, 0, none⟩))) (x_move rfl) ?_)
    refine S_list (T_val (v := (Value.pointer (some ⟨b, 0, none⟩))) (by kernel_rfl) ?_)
    refine S_list (T_val (v := (Value.pointer (some ⟨b, 2, none⟩))) (by kernel_rfl) ?_)
    refine S_list (T_val (v := v3) (x_load1 rfl Try.underlying104 rfl (RC.cell hrc (Holds.ro_at H 0 rfl) (j := 2) (u := v3) (rfl))) ?_)
    refine S_list (T_val (v := (Value.int .i64 ((List.length E) : Int))) (x_lenRS rfl hv3 Try.underlying104) ?_)
    refine S_list (T_val (v := (Value.int .i64 ((List.length E) : Int))) (x_assign rfl) ?_)
    refine wpList_nil ?_
    refine (X_then ?_)
    exact ⟨(List.length E), _, congrArg (fun e => mkA 100 e []) (ch (ch (ch (ch rfl rfl) rfl) rfl) (congrArg (Value.int .i64) ((by first | rfl | omega | (simp; done) | (simp; omega)) : ((List.length E) : Int) = ((List.length E : Nat) : Int)))), H, (Same.refl w), (by unfold mxT; omega)⟩
   ·have c10_fp : ¬ (((List.length T) : Int) < ((List.length E) : Int)) := of_decide_eq_false c10_f
    refine C_skip (X_then ?_)
    exact ⟨(List.length T), _, congrArg (fun e => mkA 100 e []) (ch (ch (ch (ch rfl rfl) rfl) rfl) (congrArg (Value.int .i64) ((by first | rfl | omega | (simp; done) | (simp; omega)) : ((List.length T) : Int) = ((List.length T : Nat) : Int)))), H, (Same.refl w), (by unfold mxT; omega)⟩
  ·rintro _ w6_ ⟨mx, h, rfl, H7_, S8_, hmx⟩
   refine C_seq (fun K11_ hK11_ => ?_)
   refine C_seq (fun K12_ hK12_ => ?_)
   refine C_reg ?_
   refine S_list (T_val (v := (Value.int .i64 (mx : Int))) (x_move rfl) ?_)
   refine S_list (T_val (v := (Value.int .i64 most)) (x_move rfl) ?_)
   refine S_list (T_val (v := (Value.bool (decide (most < (mx : Int))))) (x_bin rfl rfl rfl) ?_)
   refine wpList_nil ?_
   refine (X_then (hK12_ _ _ ?_))
   clear hK12_
   refine C_cond (b := decide (most < (mx : Int))) rfl (fun c13_t => ?_) (fun c13_f => ?_)
   ·have c13_tp : most < (mx : Int) := of_decide_eq_true c13_t
    refine C_seq (fun K14_ hK14_ => ?_)
    refine C_reg ?_
    refine S_list (T_val (v := (Value.iface 133 (Value.string (ByteArray.mk #[101, 116, 99, 100, 115, 101, 114, 118, 101, 114, 58, 32, 116, 111, 111, 32, 109, 97, 110, 121, 32, 111, 112, 101, 114, 97, 116, 105, 111, 110, 115, 32, 105, 110, 32, 116, 120, 110, 32, 114, 101, 113, 117, 101, 115, 116])))) (by kernel_rfl) ?_)
    refine S_list (T_val (v := (Value.iface 133 (Value.string (ByteArray.mk #[101, 116, 99, 100, 115, 101, 114, 118, 101, 114, 58, 32, 116, 111, 111, 32, 109, 97, 110, 121, 32, 111, 112, 101, 114, 97, 116, 105, 111, 110, 115, 32, 105, 110, 32, 116, 120, 110, 32, 114, 101, 113, 117, 101, 115, 116])))) (x_assign rfl) ?_)
    refine wpList_nil ?_
    refine (X_then (hK14_ _ _ ?_))
    clear hK14_
    refine C_ret (X_thenR ?_)
    refine R_any (v := (Value.iface 133 (Value.string (ByteArray.mk #[101, 116, 99, 100, 115, 101, 114, 118, 101, 114, 58, 32, 116, 111, 111, 32, 109, 97, 110, 121, 32, 111, 112, 101, 114, 97, 116, 105, 111, 110, 115, 32, 105, 110, 32, 116, 120, 110, 32, 114, 101, 113, 117, 101, 115, 116])))) (run_results1 rfl rfl) ?_
    exact ⟨_, _, rfl, (.inr (.inr (.inl ⟨rfl, rfl, (ref_many h4 hmx (by omega))⟩))), S8_, H7_⟩
   ·have c13_fp : ¬ (most < (mx : Int)) := of_decide_eq_false c13_f
    refine C_skip (X_then (hK11_ _ _ ?_))
    clear hK11_
    refine C_seq (fun K15_ hK15_ => ?_)
    refine C_seq (fun K16_ hK16_ => ?_)
    refine C_reg ?_
    refine S_list (T_val (v := (Value.pointer (some ⟨b, 0, none⟩))) (x_move rfl) ?_)
    refine S_list (T_val (v := (Value.pointer (some ⟨b, 0, none⟩))) (by kernel_rfl) ?_)
    refine S_list (T_val (v := (Value.pointer (some ⟨b, 0, none⟩))) (by kernel_rfl) ?_)
    refine S_list (T_val (v := v1) (x_load1 rfl Try.underlying144 rfl (RC.cell hrc (Holds.ro_at H7_ 0 rfl) (j := 0) (u := v1) (rfl))) ?_)
    refine S_list (T_val (v := (Value.int .i64 ((List.length C) : Int))) (x_lenRS rfl hv1 Try.underlying144) ?_)
    refine S_list (T_val (v := (Value.int .i64 0)) (x_move rfl) ?_)
    refine wpList_nil ?_
    refine (X_then (hK16_ _ _ ?_))
    clear hK16_
    refine C_block ?_
    refine C_loop (γ := Nat × Value) (fun x__ a__ w1__ => match x__ with | ⟨k, t4_v⟩ => ∃ h : Env, a__ = mkA 100 (upd (upd (upd (upd (upd (upd (upd h 0 (Value.pointer (some ⟨b, 0, none⟩))) 1 (Value.int .i64 most)) 4 t4_v) 5 (Value.int .i64 (mx : Int))) 50 v1) 51 (Value.int .i64 ((List.length C) : Int))) 52 (Value.int .i64 (k : Int))) [] ∧ Holds w1__ (ro R :: F) ∧ Same w w1__ ∧ (k ≤ C.length) ∧ (¬ (x.cc.take k).any (fun c => decide (c.key.size = 0)) = true)) (fun x__ => match x__ with | ⟨k, t4_v⟩ => C.length - k) (⟨0, (Value.nilIface)⟩) ⟨_, congrArg (fun e => mkA 100 e []) (ch (ch (ch (ch (ch (ch (ch rfl rfl) rfl) (rfl : (Value.nilIface) = ((Value.nilIface)))) rfl) rfl) rfl) (congrArg (Value.int .i64) ((by first | rfl | omega | (simp; done) | (simp; omega)) : 0 = (0 : Int)))), H7_, S8_, (by first | assumption | omega | exact rfl), (by simp)⟩ ?_
    rintro ⟨k, t4_v⟩ _ w17_ ⟨h, rfl, H18_, S19_, hk, hcc⟩
    refine C_seq (fun K20_ hK20_ => ?_)
    refine C_reg ?_
    refine S_list (T_val (v := (Value.bool (decide ((k : Int) < ((List.length C) : Int))))) (x_bin rfl rfl rfl) ?_)
    refine wpList_nil ?_
    refine (X_then (hK20_ _ _ ?_))
    clear hK20_
    refine C_seq (fun K21_ hK21_ => ?_)
    refine C_cond (b := decide ((k : Int) < ((List.length C) : Int))) rfl (fun c22_t => ?_) (fun c22_f => ?_)
    ·have c22_tp : (k : Int) < ((List.length C) : Int) := of_decide_eq_true c22_t
     refine C_skip (X_then (hK21_ _ _ ?_))
     clear hK21_
     refine C_seq (fun K23_ hK23_ => ?_)
     refine C_block ?_
     refine C_seq (fun K24_ hK24_ => ?_)
     refine C_reg ?_
     obtain ⟨p25_, hx26_, hm27_⟩ := elem_at C k (by omega)
     obtain ⟨y28_, hy29_, q30_kv, q30_c, q30_d, q30_h, q30_r⟩ := hC.at_ hx26_
     have := ints_length y28_.key
     refine S_list (T_val (v := (Value.pointer (some ⟨(sb v1), so v1 + k, none⟩))) (x_idxRS (v := v1) rfl hv1 rfl Try.underlying144 z147 (by omega) (by omega) (by omega : _ = k) (by rw [Nat.mul_one])) ?_)
     refine S_list (T_val (v := (Value.pointer (some ⟨p25_, 0, none⟩))) (x_load1 rfl Try.underlying147 rfl (RC.cell (RS.rc hv1) (Holds.ro_at H18_ 0 rfl) (j := k) (u := (Value.pointer (some ⟨p25_, 0, none⟩))) ((map_at hx26_)))) ?_)
     refine S_list (T_val (v := (Value.pointer (some ⟨p25_, 0, none⟩))) (x_assign rfl) ?_)
     refine wpList_nil ?_
     refine (X_then (hK24_ _ _ ?_))
     clear hK24_
     refine C_seq (fun K31_ hK31_ => ?_)
     refine C_reg ?_
     refine S_list (T_val (v := (Value.pointer (some ⟨p25_, 0, none⟩))) (x_move rfl) ?_)
     refine S_list (T_val (v := (Value.pointer (some ⟨p25_, 0, none⟩))) (by kernel_rfl) ?_)
     refine S_list (T_val (v := (Value.pointer (some ⟨p25_, 2, none⟩))) (by kernel_rfl) ?_)
     refine S_list (T_val (v := q30_kv) (x_load1 rfl Try.underlying122 rfl (RC.cell q30_r (Holds.ro_at H18_ 0 rfl) (j := 2) (u := q30_kv) (rfl))) ?_)
     refine S_list (T_val (v := (Value.int .i64 ((List.length (ints y28_.key)) : Int))) (x_lenRS rfl q30_h Try.underlying122) ?_)
     refine S_list (T_val (v := (Value.bool (decide (((List.length (ints y28_.key)) : Int) = 0)))) (x_bin rfl rfl rfl) ?_)
     refine wpList_nil ?_
     refine (X_then (hK31_ _ _ ?_))
     clear hK31_
     refine C_cond (b := decide (((List.length (ints y28_.key)) : Int) = 0)) rfl (fun c32_t => ?_) (fun c32_f => ?_)
     ·have c32_tp : ((List.length (ints y28_.key)) : Int) = 0 := of_decide_eq_true c32_t
      refine C_seq (fun K33_ hK33_ => ?_)
      refine C_reg ?_
      refine S_list (T_val (v := (Value.iface 133 (Value.string (ByteArray.mk #[101, 116, 99, 100, 115, 101, 114, 118, 101, 114, 58, 32, 107, 101, 121, 32, 105, 115, 32, 110, 111, 116, 32, 112, 114, 111, 118, 105, 100, 101, 100])))) (by kernel_rfl) ?_)
      refine S_list (T_val (v := (Value.iface 133 (Value.string (ByteArray.mk #[101, 116, 99, 100, 115, 101, 114, 118, 101, 114, 58, 32, 107, 101, 121, 32, 105, 115, 32, 110, 111, 116, 32, 112, 114, 111, 118, 105, 100, 101, 100])))) (x_assign rfl) ?_)
      refine wpList_nil ?_
      refine (X_then (hK33_ _ _ ?_))
      clear hK33_
      refine C_ret (X_blkR (X_thenR (X_thenR (X_blkR (X_thenR ?_)))))
      refine R_any (v := (Value.iface 133 (Value.string (ByteArray.mk #[101, 116, 99, 100, 115, 101, 114, 118, 101, 114, 58, 32, 107, 101, 121, 32, 105, 115, 32, 110, 111, 116, 32, 112, 114, 111, 118, 105, 100, 101, 100])))) (run_results1 rfl rfl) ?_
      exact ⟨_, _, rfl, (.inr (.inl ⟨rfl, rfl, (ref_key h4 hmx (by omega) hy29_ (by omega))⟩)), S19_, H18_⟩
     ·have c32_fp : ¬ (((List.length (ints y28_.key)) : Int) = 0) := of_decide_eq_false c32_f
      refine C_skip (X_blkN (X_then (hK23_ _ _ ?_)))
      clear hK23_
      refine C_reg ?_
      refine S_list (T_val (v := (Value.int .i64 ((k : Int) + 1))) (x_bin rfl rfl (ib_add (IntWalk.i64_in _ (by omega)))) ?_)
      refine S_list (T_val (v := (Value.int .i64 ((k : Int) + 1))) (x_move rfl) ?_)
      refine wpList_nil ?_
      refine (X_then ?_)
      exact ⟨⟨k + 1, t4_v⟩, ⟨_, congrArg (fun e => mkA 100 e []) (ch (ch (ch (ch (ch (ch (ch rfl rfl) rfl) rfl) rfl) rfl) rfl) (congrArg (Value.int .i64) ((by first | rfl | omega | (simp; done) | (simp; omega)) : (k : Int) + 1 = ((k + 1 : Nat) : Int)))), H18_, S19_, (by first | assumption | omega | exact rfl), (any_go hcc hy29_ (decide_eq_false (by omega)))⟩, by first | omega | (dsimp only; omega) | (simp; omega)⟩
    ·have c22_fp : ¬ ((k : Int) < ((List.length C) : Int)) := of_decide_eq_false c22_f
     refine C_exit (X_thenX (X_thenX (X_blkHit ?_)))
     refine (X_then (hK15_ _ _ ?_))
     clear hK15_
     refine C_seq (fun K34_ hK34_ => ?_)
     refine C_seq (fun K35_ hK35_ => ?_)
     refine C_reg ?_
     refine S_list (T_val (v := (Value.pointer (some ⟨b, 0, none⟩))) (x_move rfl) ?_)
     refine S_list (T_val (v := (Value.pointer (some ⟨b, 0, none⟩))) (by kernel_rfl) ?_)
     refine S_list (T_val (v := (Value.pointer (some ⟨b, 1, none⟩))) (by kernel_rfl) ?_)
     refine S_list (T_val (v := v2) (x_load1 rfl Try.underlying104 rfl (RC.cell hrc (Holds.ro_at H18_ 0 rfl) (j := 1) (u := v2) (rfl))) ?_)
     refine S_list (T_val (v := (Value.int .i64 ((List.length T) : Int))) (x_lenRS rfl hv2 Try.underlying104) ?_)
     refine S_list (T_val (v := (Value.int .i64 0)) (x_move rfl) ?_)
     refine wpList_nil ?_
     refine (X_then (hK35_ _ _ ?_))
     clear hK35_
     refine C_block ?_
     have hcc2 : ¬ x.cc.any (fun c => decide (c.key.size = 0)) = true := by rw [List.take_of_length_le (by omega)] at hcc; exact hcc
     refine C_loop (γ := Nat × Value) (fun x__ a__ w1__ => match x__ with | ⟨k2, t4_v⟩ => ∃ h : Env, a__ = mkA 100 (upd (upd (upd (upd (upd (upd (upd h 0 (Value.pointer (some ⟨b, 0, none⟩))) 1 (Value.int .i64 most)) 4 t4_v) 5 (Value.int .i64 (mx : Int))) 67 v2) 68 (Value.int .i64 ((List.length T) : Int))) 69 (Value.int .i64 (k2 : Int))) [] ∧ Holds w1__ (ro R :: F) ∧ Same w w1__ ∧ (k2 ≤ T.length) ∧ (refL x.tt (most - (mx : Int)) = refL (x.tt.drop k2) (most - (mx : Int)))) (fun x__ => match x__ with | ⟨k2, t4_v⟩ => T.length - k2) (⟨0, t4_v⟩) ⟨_, congrArg (fun e => mkA 100 e []) (ch (ch (ch (ch (ch (ch (ch rfl rfl) rfl) rfl) rfl) rfl) rfl) (congrArg (Value.int .i64) ((by first | rfl | omega | (simp; done) | (simp; omega)) : 0 = (0 : Int)))), H18_, S19_, (by first | assumption | omega | exact rfl), (by rw [List.drop_zero])⟩ ?_
     rintro ⟨k2, t4_v⟩ _ w36_ ⟨h, rfl, H37_, S38_, hkk2, hin2⟩
     refine C_seq (fun K39_ hK39_ => ?_)
     refine C_reg ?_
     refine S_list (T_val (v := (Value.bool (decide ((k2 : Int) < ((List.length T) : Int))))) (x_bin rfl rfl rfl) ?_)
     refine wpList_nil ?_
     refine (X_then (hK39_ _ _ ?_))
     clear hK39_
     refine C_seq (fun K40_ hK40_ => ?_)
     refine C_cond (b := decide ((k2 : Int) < ((List.length T) : Int))) rfl (fun c41_t => ?_) (fun c41_f => ?_)
     ·have c41_tp : (k2 : Int) < ((List.length T) : Int) := of_decide_eq_true c41_t
      refine C_skip (X_then (hK40_ _ _ ?_))
      clear hK40_
      refine C_seq (fun K42_ hK42_ => ?_)
      refine C_block ?_
      refine C_seq (fun K43_ hK43_ => ?_)
      refine C_reg ?_
      obtain ⟨p44_, hx45_, hm46_⟩ := elem_at T k2 (by omega)
      obtain ⟨y47_, hy48_, q49_o⟩ := hT.at_ hx45_
      have q49_m := List.mem_of_getElem? hy48_
      have := RT.sz_mem q49_m
      refine S_list (T_val (v := (Value.pointer (some ⟨(sb v2), so v2 + k2, none⟩))) (x_idxRS (v := v2) rfl hv2 rfl Try.underlying104 z149 (by omega) (by omega) (by omega : _ = k2) (by rw [Nat.mul_one])) ?_)
      refine S_list (T_val (v := (Value.pointer (some ⟨p44_, 0, none⟩))) (x_load1 rfl Try.underlying149 rfl (RC.cell (RS.rc hv2) (Holds.ro_at H37_ 0 rfl) (j := k2) (u := (Value.pointer (some ⟨p44_, 0, none⟩))) ((map_at hx45_)))) ?_)
      refine S_list (T_val (v := (Value.pointer (some ⟨p44_, 0, none⟩))) (x_assign rfl) ?_)
      refine wpList_nil ?_
      refine (X_then (hK43_ _ _ ?_))
      clear hK43_
      refine C_seq (fun K50_ hK50_ => ?_)
      refine C_reg ?_
      refine S_list (T_val (v := (Value.pointer (some ⟨p44_, 0, none⟩))) (x_move rfl) ?_)
      refine S_list (T_val (v := (Value.int .i64 most)) (x_move rfl) ?_)
      refine S_list (T_val (v := (Value.int .i64 (mx : Int))) (x_move rfl) ?_)
      refine S_list (T_val (v := (Value.int .i64 (most - (mx : Int)))) (x_bin rfl rfl (ib_sub (IntWalk.i64_in _ (by omega)))) ?_)
      refine S_list (T_call (al := [(Value.pointer (some ⟨p44_, 0, none⟩)), (Value.int .i64 (most - (mx : Int)))]) (pre := []) rfl rfl cb88 (ckReqOp R p44_ y47_ (most - (mx : Int)) n__ (hP.tt h4 y47_ q49_m) (by omega) (by omega) (ih) (q49_o)) H37_ ?_)
      rintro v51_ p59_ w56_ hq60_ S58_ H57_
      rcases hq60_ with ⟨rfl, rfl, he52_⟩ | ⟨rfl, rfl, he53_⟩ | ⟨rfl, rfl, he54_⟩ | ⟨rfl, rfl, he55_⟩
      ·skip
       have S61_ := Same.trans S38_ S58_
       refine S_list (T_val (v := (Value.nilIface)) (x_assign rfl) ?_)
       refine wpList_nil ?_
       refine (X_then (hK50_ _ _ ?_))
       clear hK50_
       refine C_seq (fun K65_ hK65_ => ?_)
       refine C_reg ?_
       refine S_list (T_val (v := (Value.nilIface)) (x_move rfl) ?_)
       refine S_list (T_val (v := (Value.bool false)) (by kernel_rfl) ?_)
       refine wpList_nil ?_
       refine (X_then (hK65_ _ _ ?_))
       clear hK65_
       refine C_condF rfl ?_
       refine C_skip (X_blkN (X_then (hK42_ _ _ ?_)))
       clear hK42_
       refine C_reg ?_
       refine S_list (T_val (v := (Value.int .i64 ((k2 : Int) + 1))) (x_bin rfl rfl (ib_add (IntWalk.i64_in _ (by omega)))) ?_)
       refine S_list (T_val (v := (Value.int .i64 ((k2 : Int) + 1))) (x_move rfl) ?_)
       refine wpList_nil ?_
       refine (X_then ?_)
       exact ⟨⟨k2 + 1, t4_v⟩, ⟨_, congrArg (fun e => mkA 100 e []) (ch (ch (ch (ch (ch (ch (ch rfl rfl) rfl) rfl) rfl) rfl) rfl) (congrArg (Value.int .i64) ((by first | rfl | omega | (simp; done) | (simp; omega)) : (k2 : Int) + 1 = ((k2 + 1 : Nat) : Int)))), H57_, S61_, (by first | assumption | omega | exact rfl), (by rw [hin2, ref_go hy48_ he52_])⟩, by first | omega | (dsimp only; omega) | (simp; omega)⟩
      ·skip
       replace H57_ : Holds w56_ (ro R :: F) := H57_
       have S62_ := Same.trans S38_ S58_
       refine S_list (T_val (v := (Value.iface 133 (Value.string (ByteArray.mk #[101, 116, 99, 100, 115, 101, 114, 118, 101, 114, 58, 32, 107, 101, 121, 32, 105, 115, 32, 110, 111, 116, 32, 112, 114, 111, 118, 105, 100, 101, 100])))) (x_assign rfl) ?_)
       refine wpList_nil ?_
       refine (X_then (hK50_ _ _ ?_))
       clear hK50_
       refine C_seq (fun K66_ hK66_ => ?_)
       refine C_reg ?_
       refine S_list (T_val (v := (Value.iface 133 (Value.string (ByteArray.mk #[101, 116, 99, 100, 115, 101, 114, 118, 101, 114, 58, 32, 107, 101, 121, 32, 105, 115, 32, 110, 111, 116, 32, 112, 114, 111, 118, 105, 100, 101, 100])))) (x_move rfl) ?_)
       refine S_list (T_val (v := (Value.bool true)) (by kernel_rfl) ?_)
       refine wpList_nil ?_
       refine (X_then (hK66_ _ _ ?_))
       clear hK66_
       refine C_condT rfl ?_
       refine C_seq (fun K67_ hK67_ => ?_)
       refine C_reg ?_
       refine S_list (T_val (v := (Value.iface 133 (Value.string (ByteArray.mk #[101, 116, 99, 100, 115, 101, 114, 118, 101, 114, 58, 32, 107, 101, 121, 32, 105, 115, 32, 110, 111, 116, 32, 112, 114, 111, 118, 105, 100, 101, 100])))) (x_move rfl) ?_)
       refine S_list (T_val (v := (Value.iface 133 (Value.string (ByteArray.mk #[101, 116, 99, 100, 115, 101, 114, 118, 101, 114, 58, 32, 107, 101, 121, 32, 105, 115, 32, 110, 111, 116, 32, 112, 114, 111, 118, 105, 100, 101, 100])))) (x_assign rfl) ?_)
       refine wpList_nil ?_
       refine (X_then (hK67_ _ _ ?_))
       clear hK67_
       refine C_ret (X_blkR (X_thenR (X_thenR (X_blkR (X_thenR ?_)))))
       refine R_any (v := (Value.iface 133 (Value.string (ByteArray.mk #[101, 116, 99, 100, 115, 101, 114, 118, 101, 114, 58, 32, 107, 101, 121, 32, 105, 115, 32, 110, 111, 116, 32, 112, 114, 111, 118, 105, 100, 101, 100])))) (run_results1 rfl rfl) ?_
       exact ⟨_, _, rfl, (.inr (.inl ⟨rfl, rfl, (ref_tt h4 hmx (by omega) hcc2 hin2 hy48_ he53_ (by decide))⟩)), S62_, H57_⟩
      ·skip
       have S63_ := Same.trans S38_ S58_
       refine S_list (T_val (v := (Value.iface 133 (Value.string (ByteArray.mk #[101, 116, 99, 100, 115, 101, 114, 118, 101, 114, 58, 32, 116, 111, 111, 32, 109, 97, 110, 121, 32, 111, 112, 101, 114, 97, 116, 105, 111, 110, 115, 32, 105, 110, 32, 116, 120, 110, 32, 114, 101, 113, 117, 101, 115, 116])))) (x_assign rfl) ?_)
       refine wpList_nil ?_
       refine (X_then (hK50_ _ _ ?_))
       clear hK50_
       refine C_seq (fun K68_ hK68_ => ?_)
       refine C_reg ?_
       refine S_list (T_val (v := (Value.iface 133 (Value.string (ByteArray.mk #[101, 116, 99, 100, 115, 101, 114, 118, 101, 114, 58, 32, 116, 111, 111, 32, 109, 97, 110, 121, 32, 111, 112, 101, 114, 97, 116, 105, 111, 110, 115, 32, 105, 110, 32, 116, 120, 110, 32, 114, 101, 113, 117, 101, 115, 116])))) (x_move rfl) ?_)
       refine S_list (T_val (v := (Value.bool true)) (by kernel_rfl) ?_)
       refine wpList_nil ?_
       refine (X_then (hK68_ _ _ ?_))
       clear hK68_
       refine C_condT rfl ?_
       refine C_seq (fun K69_ hK69_ => ?_)
       refine C_reg ?_
       refine S_list (T_val (v := (Value.iface 133 (Value.string (ByteArray.mk #[101, 116, 99, 100, 115, 101, 114, 118, 101, 114, 58, 32, 116, 111, 111, 32, 109, 97, 110, 121, 32, 111, 112, 101, 114, 97, 116, 105, 111, 110, 115, 32, 105, 110, 32, 116, 120, 110, 32, 114, 101, 113, 117, 101, 115, 116])))) (x_move rfl) ?_)
       refine S_list (T_val (v := (Value.iface 133 (Value.string (ByteArray.mk #[101, 116, 99, 100, 115, 101, 114, 118, 101, 114, 58, 32, 116, 111, 111, 32, 109, 97, 110, 121, 32, 111, 112, 101, 114, 97, 116, 105, 111, 110, 115, 32, 105, 110, 32, 116, 120, 110, 32, 114, 101, 113, 117, 101, 115, 116])))) (x_assign rfl) ?_)
       refine wpList_nil ?_
       refine (X_then (hK69_ _ _ ?_))
       clear hK69_
       refine C_ret (X_blkR (X_thenR (X_thenR (X_blkR (X_thenR ?_)))))
       refine R_any (v := (Value.iface 133 (Value.string (ByteArray.mk #[101, 116, 99, 100, 115, 101, 114, 118, 101, 114, 58, 32, 116, 111, 111, 32, 109, 97, 110, 121, 32, 111, 112, 101, 114, 97, 116, 105, 111, 110, 115, 32, 105, 110, 32, 116, 120, 110, 32, 114, 101, 113, 117, 101, 115, 116])))) (run_results1 rfl rfl) ?_
       exact ⟨_, _, rfl, (.inr (.inr (.inl ⟨rfl, rfl, (ref_tt h4 hmx (by omega) hcc2 hin2 hy48_ he54_ (by decide))⟩))), S63_, H57_⟩
      ·skip
       have S64_ := Same.trans S38_ S58_
       refine S_list (T_val (v := (Value.iface 133 (Value.string (ByteArray.mk #[101, 116, 99, 100, 115, 101, 114, 118, 101, 114, 58, 32, 105, 110, 118, 97, 108, 105, 100, 32, 115, 111, 114, 116, 32, 111, 112, 116, 105, 111, 110])))) (x_assign rfl) ?_)
       refine wpList_nil ?_
       refine (X_then (hK50_ _ _ ?_))
       clear hK50_
       refine C_seq (fun K70_ hK70_ => ?_)
       refine C_reg ?_
       refine S_list (T_val (v := (Value.iface 133 (Value.string (ByteArray.mk #[101, 116, 99, 100, 115, 101, 114, 118, 101, 114, 58, 32, 105, 110, 118, 97, 108, 105, 100, 32, 115, 111, 114, 116, 32, 111, 112, 116, 105, 111, 110])))) (x_move rfl) ?_)
       refine S_list (T_val (v := (Value.bool true)) (by kernel_rfl) ?_)
       refine wpList_nil ?_
       refine (X_then (hK70_ _ _ ?_))
       clear hK70_
       refine C_condT rfl ?_
       refine C_seq (fun K71_ hK71_ => ?_)
       refine C_reg ?_
       refine S_list (T_val (v := (Value.iface 133 (Value.string (ByteArray.mk #[101, 116, 99, 100, 115, 101, 114, 118, 101, 114, 58, 32, 105, 110, 118, 97, 108, 105, 100, 32, 115, 111, 114, 116, 32, 111, 112, 116, 105, 111, 110])))) (x_move rfl) ?_)
       refine S_list (T_val (v := (Value.iface 133 (Value.string (ByteArray.mk #[101, 116, 99, 100, 115, 101, 114, 118, 101, 114, 58, 32, 105, 110, 118, 97, 108, 105, 100, 32, 115, 111, 114, 116, 32, 111, 112, 116, 105, 111, 110])))) (x_assign rfl) ?_)
       refine wpList_nil ?_
       refine (X_then (hK71_ _ _ ?_))
       clear hK71_
       refine C_ret (X_blkR (X_thenR (X_thenR (X_blkR (X_thenR ?_)))))
       refine R_any (v := (Value.iface 133 (Value.string (ByteArray.mk #[101, 116, 99, 100, 115, 101, 114, 118, 101, 114, 58, 32, 105, 110, 118, 97, 108, 105, 100, 32, 115, 111, 114, 116, 32, 111, 112, 116, 105, 111, 110])))) (run_results1 rfl rfl) ?_
       exact ⟨_, _, rfl, (.inr (.inr (.inr ⟨rfl, rfl, (ref_tt h4 hmx (by omega) hcc2 hin2 hy48_ he55_ (by decide))⟩))), S64_, H57_⟩
     ·have c41_fp : ¬ ((k2 : Int) < ((List.length T) : Int)) := of_decide_eq_false c41_f
      refine C_exit (X_thenX (X_thenX (X_blkHit ?_)))
      refine (X_then (hK34_ _ _ ?_))
      clear hK34_
      refine C_seq (fun K72_ hK72_ => ?_)
      refine C_seq (fun K73_ hK73_ => ?_)
      refine C_reg ?_
      refine S_list (T_val (v := (Value.pointer (some ⟨b, 0, none⟩))) (x_move rfl) ?_)
      refine S_list (T_val (v := (Value.pointer (some ⟨b, 0, none⟩))) (by kernel_rfl) ?_)
      refine S_list (T_val (v := (Value.pointer (some ⟨b, 2, none⟩))) (by kernel_rfl) ?_)
      refine S_list (T_val (v := v3) (x_load1 rfl Try.underlying104 rfl (RC.cell hrc (Holds.ro_at H37_ 0 rfl) (j := 2) (u := v3) (rfl))) ?_)
      refine S_list (T_val (v := (Value.int .i64 ((List.length E) : Int))) (x_lenRS rfl hv3 Try.underlying104) ?_)
      refine S_list (T_val (v := (Value.int .i64 0)) (x_move rfl) ?_)
      refine wpList_nil ?_
      refine (X_then (hK73_ _ _ ?_))
      clear hK73_
      refine C_block ?_
      have htt : refL x.tt (most - (mx : Int)) = 0 := by rw [hin2, ref_end (by omega)]
      refine C_loop (γ := Nat × Value) (fun x__ a__ w1__ => match x__ with | ⟨k3, t4_v⟩ => ∃ h : Env, a__ = mkA 100 (upd (upd (upd (upd (upd (upd h 1 (Value.int .i64 most)) 4 t4_v) 5 (Value.int .i64 (mx : Int))) 85 v3) 86 (Value.int .i64 ((List.length E) : Int))) 87 (Value.int .i64 (k3 : Int))) [] ∧ Holds w1__ (ro R :: F) ∧ Same w w1__ ∧ (k3 ≤ E.length) ∧ (refL x.ee (most - (mx : Int)) = refL (x.ee.drop k3) (most - (mx : Int)))) (fun x__ => match x__ with | ⟨k3, t4_v⟩ => E.length - k3) (⟨0, t4_v⟩) ⟨_, congrArg (fun e => mkA 100 e []) (ch (ch (ch (ch (ch (ch rfl rfl) rfl) rfl) rfl) rfl) (congrArg (Value.int .i64) ((by first | rfl | omega | (simp; done) | (simp; omega)) : 0 = (0 : Int)))), H37_, S38_, (by first | assumption | omega | exact rfl), (by rw [List.drop_zero])⟩ ?_
      rintro ⟨k3, t4_v⟩ _ w74_ ⟨h, rfl, H75_, S76_, hkk3, hin3⟩
      refine C_seq (fun K77_ hK77_ => ?_)
      refine C_reg ?_
      refine S_list (T_val (v := (Value.bool (decide ((k3 : Int) < ((List.length E) : Int))))) (x_bin rfl rfl rfl) ?_)
      refine wpList_nil ?_
      refine (X_then (hK77_ _ _ ?_))
      clear hK77_
      refine C_seq (fun K78_ hK78_ => ?_)
      refine C_cond (b := decide ((k3 : Int) < ((List.length E) : Int))) rfl (fun c79_t => ?_) (fun c79_f => ?_)
      ·have c79_tp : (k3 : Int) < ((List.length E) : Int) := of_decide_eq_true c79_t
       refine C_skip (X_then (hK78_ _ _ ?_))
       clear hK78_
       refine C_seq (fun K80_ hK80_ => ?_)
       refine C_block ?_
       refine C_seq (fun K81_ hK81_ => ?_)
       refine C_reg ?_
       obtain ⟨p82_, hx83_, hm84_⟩ := elem_at E k3 (by omega)
       obtain ⟨y85_, hy86_, q87_o⟩ := hE.at_ hx83_
       have q87_m := List.mem_of_getElem? hy86_
       have := RT.sz_mem q87_m
       refine S_list (T_val (v := (Value.pointer (some ⟨(sb v3), so v3 + k3, none⟩))) (x_idxRS (v := v3) rfl hv3 rfl Try.underlying104 z149 (by omega) (by omega) (by omega : _ = k3) (by rw [Nat.mul_one])) ?_)
       refine S_list (T_val (v := (Value.pointer (some ⟨p82_, 0, none⟩))) (x_load1 rfl Try.underlying149 rfl (RC.cell (RS.rc hv3) (Holds.ro_at H75_ 0 rfl) (j := k3) (u := (Value.pointer (some ⟨p82_, 0, none⟩))) ((map_at hx83_)))) ?_)
       refine S_list (T_val (v := (Value.pointer (some ⟨p82_, 0, none⟩))) (x_assign rfl) ?_)
       refine wpList_nil ?_
       refine (X_then (hK81_ _ _ ?_))
       clear hK81_
       refine C_seq (fun K88_ hK88_ => ?_)
       refine C_reg ?_
       refine S_list (T_val (v := (Value.pointer (some ⟨p82_, 0, none⟩))) (x_move rfl) ?_)
       refine S_list (T_val (v := (Value.int .i64 most)) (x_move rfl) ?_)
       refine S_list (T_val (v := (Value.int .i64 (mx : Int))) (x_move rfl) ?_)
       refine S_list (T_val (v := (Value.int .i64 (most - (mx : Int)))) (x_bin rfl rfl (ib_sub (IntWalk.i64_in _ (by omega)))) ?_)
       refine S_list (T_call (al := [(Value.pointer (some ⟨p82_, 0, none⟩)), (Value.int .i64 (most - (mx : Int)))]) (pre := []) rfl rfl cb88 (ckReqOp R p82_ y85_ (most - (mx : Int)) n__ (hP.ee h4 y85_ q87_m) (by omega) (by omega) (ih) (q87_o)) H75_ ?_)
       rintro v89_ p97_ w94_ hq98_ S96_ H95_
       rcases hq98_ with ⟨rfl, rfl, he90_⟩ | ⟨rfl, rfl, he91_⟩ | ⟨rfl, rfl, he92_⟩ | ⟨rfl, rfl, he93_⟩
       ·skip
        replace H95_ : Holds w94_ (ro R :: F) := H95_
        have S99_ := Same.trans S76_ S96_
        refine S_list (T_val (v := (Value.nilIface)) (x_assign rfl) ?_)
        refine wpList_nil ?_
        refine (X_then (hK88_ _ _ ?_))
        clear hK88_
        refine C_seq (fun K103_ hK103_ => ?_)
        refine C_reg ?_
        refine S_list (T_val (v := (Value.nilIface)) (x_move rfl) ?_)
        refine S_list (T_val (v := (Value.bool false)) (by kernel_rfl) ?_)
        refine wpList_nil ?_
        refine (X_then (hK103_ _ _ ?_))
        clear hK103_
        refine C_condF rfl ?_
        refine C_skip (X_blkN (X_then (hK80_ _ _ ?_)))
        clear hK80_
        refine C_reg ?_
        refine S_list (T_val (v := (Value.int .i64 ((k3 : Int) + 1))) (x_bin rfl rfl (ib_add (IntWalk.i64_in _ (by omega)))) ?_)
        refine S_list (T_val (v := (Value.int .i64 ((k3 : Int) + 1))) (x_move rfl) ?_)
        refine wpList_nil ?_
        refine (X_then ?_)
        exact ⟨⟨k3 + 1, t4_v⟩, ⟨_, congrArg (fun e => mkA 100 e []) (ch (ch (ch (ch (ch (ch rfl rfl) rfl) rfl) rfl) rfl) (congrArg (Value.int .i64) ((by first | rfl | omega | (simp; done) | (simp; omega)) : (k3 : Int) + 1 = ((k3 + 1 : Nat) : Int)))), H95_, S99_, (by first | assumption | omega | exact rfl), (by rw [hin3, ref_go hy86_ he90_])⟩, by first | omega | (dsimp only; omega) | (simp; omega)⟩
       ·skip
        have S100_ := Same.trans S76_ S96_
        refine S_list (T_val (v := (Value.iface 133 (Value.string (ByteArray.mk #[101, 116, 99, 100, 115, 101, 114, 118, 101, 114, 58, 32, 107, 101, 121, 32, 105, 115, 32, 110, 111, 116, 32, 112, 114, 111, 118, 105, 100, 101, 100])))) (x_assign rfl) ?_)
        refine wpList_nil ?_
        refine (X_then (hK88_ _ _ ?_))
        clear hK88_
        refine C_seq (fun K104_ hK104_ => ?_)
        refine C_reg ?_
        refine S_list (T_val (v := (Value.iface 133 (Value.string (ByteArray.mk #[101, 116, 99, 100, 115, 101, 114, 118, 101, 114, 58, 32, 107, 101, 121, 32, 105, 115, 32, 110, 111, 116, 32, 112, 114, 111, 118, 105, 100, 101, 100])))) (x_move rfl) ?_)
        refine S_list (T_val (v := (Value.bool true)) (by kernel_rfl) ?_)
        refine wpList_nil ?_
        refine (X_then (hK104_ _ _ ?_))
        clear hK104_
        refine C_condT rfl ?_
        refine C_seq (fun K105_ hK105_ => ?_)
        refine C_reg ?_
        refine S_list (T_val (v := (Value.iface 133 (Value.string (ByteArray.mk #[101, 116, 99, 100, 115, 101, 114, 118, 101, 114, 58, 32, 107, 101, 121, 32, 105, 115, 32, 110, 111, 116, 32, 112, 114, 111, 118, 105, 100, 101, 100])))) (x_move rfl) ?_)
        refine S_list (T_val (v := (Value.iface 133 (Value.string (ByteArray.mk #[101, 116, 99, 100, 115, 101, 114, 118, 101, 114, 58, 32, 107, 101, 121, 32, 105, 115, 32, 110, 111, 116, 32, 112, 114, 111, 118, 105, 100, 101, 100])))) (x_assign rfl) ?_)
        refine wpList_nil ?_
        refine (X_then (hK105_ _ _ ?_))
        clear hK105_
        refine C_ret (X_blkR (X_thenR (X_thenR (X_blkR (X_thenR ?_)))))
        refine R_any (v := (Value.iface 133 (Value.string (ByteArray.mk #[101, 116, 99, 100, 115, 101, 114, 118, 101, 114, 58, 32, 107, 101, 121, 32, 105, 115, 32, 110, 111, 116, 32, 112, 114, 111, 118, 105, 100, 101, 100])))) (run_results1 rfl rfl) ?_
        exact ⟨_, _, rfl, (.inr (.inl ⟨rfl, rfl, (ref_ee h4 hmx (by omega) hcc2 htt hin3 hy86_ he91_ (by decide))⟩)), S100_, H95_⟩
       ·skip
        have S101_ := Same.trans S76_ S96_
        refine S_list (T_val (v := (Value.iface 133 (Value.string (ByteArray.mk #[101, 116, 99, 100, 115, 101, 114, 118, 101, 114, 58, 32, 116, 111, 111, 32, 109, 97, 110, 121, 32, 111, 112, 101, 114, 97, 116, 105, 111, 110, 115, 32, 105, 110, 32, 116, 120, 110, 32, 114, 101, 113, 117, 101, 115, 116])))) (x_assign rfl) ?_)
        refine wpList_nil ?_
        refine (X_then (hK88_ _ _ ?_))
        clear hK88_
        refine C_seq (fun K106_ hK106_ => ?_)
        refine C_reg ?_
        refine S_list (T_val (v := (Value.iface 133 (Value.string (ByteArray.mk #[101, 116, 99, 100, 115, 101, 114, 118, 101, 114, 58, 32, 116, 111, 111, 32, 109, 97, 110, 121, 32, 111, 112, 101, 114, 97, 116, 105, 111, 110, 115, 32, 105, 110, 32, 116, 120, 110, 32, 114, 101, 113, 117, 101, 115, 116])))) (x_move rfl) ?_)
        refine S_list (T_val (v := (Value.bool true)) (by kernel_rfl) ?_)
        refine wpList_nil ?_
        refine (X_then (hK106_ _ _ ?_))
        clear hK106_
        refine C_condT rfl ?_
        refine C_seq (fun K107_ hK107_ => ?_)
        refine C_reg ?_
        refine S_list (T_val (v := (Value.iface 133 (Value.string (ByteArray.mk #[101, 116, 99, 100, 115, 101, 114, 118, 101, 114, 58, 32, 116, 111, 111, 32, 109, 97, 110, 121, 32, 111, 112, 101, 114, 97, 116, 105, 111, 110, 115, 32, 105, 110, 32, 116, 120, 110, 32, 114, 101, 113, 117, 101, 115, 116])))) (x_move rfl) ?_)
        refine S_list (T_val (v := (Value.iface 133 (Value.string (ByteArray.mk #[101, 116, 99, 100, 115, 101, 114, 118, 101, 114, 58, 32, 116, 111, 111, 32, 109, 97, 110, 121, 32, 111, 112, 101, 114, 97, 116, 105, 111, 110, 115, 32, 105, 110, 32, 116, 120, 110, 32, 114, 101, 113, 117, 101, 115, 116])))) (x_assign rfl) ?_)
        refine wpList_nil ?_
        refine (X_then (hK107_ _ _ ?_))
        clear hK107_
        refine C_ret (X_blkR (X_thenR (X_thenR (X_blkR (X_thenR ?_)))))
        refine R_any (v := (Value.iface 133 (Value.string (ByteArray.mk #[101, 116, 99, 100, 115, 101, 114, 118, 101, 114, 58, 32, 116, 111, 111, 32, 109, 97, 110, 121, 32, 111, 112, 101, 114, 97, 116, 105, 111, 110, 115, 32, 105, 110, 32, 116, 120, 110, 32, 114, 101, 113, 117, 101, 115, 116])))) (run_results1 rfl rfl) ?_
        exact ⟨_, _, rfl, (.inr (.inr (.inl ⟨rfl, rfl, (ref_ee h4 hmx (by omega) hcc2 htt hin3 hy86_ he92_ (by decide))⟩))), S101_, H95_⟩
       ·skip
        replace H95_ : Holds w94_ (ro R :: F) := H95_
        have S102_ := Same.trans S76_ S96_
        refine S_list (T_val (v := (Value.iface 133 (Value.string (ByteArray.mk #[101, 116, 99, 100, 115, 101, 114, 118, 101, 114, 58, 32, 105, 110, 118, 97, 108, 105, 100, 32, 115, 111, 114, 116, 32, 111, 112, 116, 105, 111, 110])))) (x_assign rfl) ?_)
        refine wpList_nil ?_
        refine (X_then (hK88_ _ _ ?_))
        clear hK88_
        refine C_seq (fun K108_ hK108_ => ?_)
        refine C_reg ?_
        refine S_list (T_val (v := (Value.iface 133 (Value.string (ByteArray.mk #[101, 116, 99, 100, 115, 101, 114, 118, 101, 114, 58, 32, 105, 110, 118, 97, 108, 105, 100, 32, 115, 111, 114, 116, 32, 111, 112, 116, 105, 111, 110])))) (x_move rfl) ?_)
        refine S_list (T_val (v := (Value.bool true)) (by kernel_rfl) ?_)
        refine wpList_nil ?_
        refine (X_then (hK108_ _ _ ?_))
        clear hK108_
        refine C_condT rfl ?_
        refine C_seq (fun K109_ hK109_ => ?_)
        refine C_reg ?_
        refine S_list (T_val (v := (Value.iface 133 (Value.string (ByteArray.mk #[101, 116, 99, 100, 115, 101, 114, 118, 101, 114, 58, 32, 105, 110, 118, 97, 108, 105, 100, 32, 115, 111, 114, 116, 32, 111, 112, 116, 105, 111, 110])))) (x_move rfl) ?_)
        refine S_list (T_val (v := (Value.iface 133 (Value.string (ByteArray.mk #[101, 116, 99, 100, 115, 101, 114, 118, 101, 114, 58, 32, 105, 110, 118, 97, 108, 105, 100, 32, 115, 111, 114, 116, 32, 111, 112, 116, 105, 111, 110])))) (x_assign rfl) ?_)
        refine wpList_nil ?_
        refine (X_then (hK109_ _ _ ?_))
        clear hK109_
        refine C_ret (X_blkR (X_thenR (X_thenR (X_blkR (X_thenR ?_)))))
        refine R_any (v := (Value.iface 133 (Value.string (ByteArray.mk #[101, 116, 99, 100, 115, 101, 114, 118, 101, 114, 58, 32, 105, 110, 118, 97, 108, 105, 100, 32, 115, 111, 114, 116, 32, 111, 112, 116, 105, 111, 110])))) (run_results1 rfl rfl) ?_
        exact ⟨_, _, rfl, (.inr (.inr (.inr ⟨rfl, rfl, (ref_ee h4 hmx (by omega) hcc2 htt hin3 hy86_ he93_ (by decide))⟩))), S102_, H95_⟩
      ·have c79_fp : ¬ ((k3 : Int) < ((List.length E) : Int)) := of_decide_eq_false c79_f
       refine C_exit (X_thenX (X_thenX (X_blkHit ?_)))
       refine (X_then (hK72_ _ _ ?_))
       clear hK72_
       refine C_seq (fun K110_ hK110_ => ?_)
       refine C_reg ?_
       refine S_list (T_val (v := (Value.nilIface)) (x_assign rfl) ?_)
       refine wpList_nil ?_
       refine (X_then (hK110_ _ _ ?_))
       clear hK110_
       refine C_ret ?_
       refine R_any (v := (Value.nilIface)) (run_results1 rfl rfl) ?_
       exact ⟨_, _, rfl, (.inl ⟨rfl, rfl, (ref_ok h4 hmx (by omega) hcc2 htt (by rw [hin3, ref_end (by omega)]))⟩), S76_, H75_⟩
 ·have c5_fp : ¬ (((List.length C) : Int) < ((List.length T) : Int)) := of_decide_eq_false c5_f
  refine C_skip (X_then (hK3_ _ _ ?_))
  clear hK3_
  refine C_cut (fun a__ w1__ => ∃ mx : Nat, ∃ h : Env, a__ = mkA 100 (upd (upd (upd (upd h 0 (Value.pointer (some ⟨b, 0, none⟩))) 1 (Value.int .i64 most)) 4 (Value.nilIface)) 5 (Value.int .i64 (mx : Int))) [] ∧ Holds w1__ (ro R :: F) ∧ Same w w1__ ∧ (mx = mxT x)) ?_ ?_
  ·refine C_seq (fun K114_ hK114_ => ?_)
   refine C_reg ?_
   refine S_list (T_val (v := (Value.int .i64 ((List.length C) : Int))) (x_move rfl) ?_)
   refine S_list (T_val (v := (Value.pointer (some ⟨b, 0, none⟩))) (x_move rfl) ?_)
   refine S_list (T_val (v := (Value.pointer (some ⟨b, 0, none⟩))) (by kernel_rfl) ?_)
   refine S_list (T_val (v := (Value.pointer (some ⟨b, 2, none⟩))) (by kernel_rfl) ?_)
   refine S_list (T_val (v := v3) (x_load1 rfl Try.underlying104 rfl (RC.cell hrc (Holds.ro_at H 0 rfl) (j := 2) (u := v3) (rfl))) ?_)
   refine S_list (T_val (v := (Value.int .i64 ((List.length E) : Int))) (x_lenRS rfl hv3 Try.underlying104) ?_)
   refine S_list (T_val (v := (Value.bool (decide (((List.length C) : Int) < ((List.length E) : Int))))) (x_bin rfl rfl rfl) ?_)
   refine wpList_nil ?_
   refine (X_then (hK114_ _ _ ?_))
   clear hK114_
   refine C_cond (b := decide (((List.length C) : Int) < ((List.length E) : Int))) rfl (fun c115_t => ?_) (fun c115_f => ?_)
   ·have c115_tp : ((List.length C) : Int) < ((List.length E) : Int) := of_decide_eq_true c115_t
    refine C_reg ?_
    refine S_list (T_val (v := (Value.pointer (some ⟨b, 0, none⟩))) (x_move rfl) ?_)
    refine S_list (T_val (v := (Value.pointer (some ⟨b, 0, none⟩))) (by kernel_rfl) ?_)
    refine S_list (T_val (v := (Value.pointer (some ⟨b, 2, none⟩))) (by kernel_rfl) ?_)
    refine S_list (T_val (v := v3) (x_load1 rfl Try.underlying104 rfl (RC.cell hrc (Holds.ro_at H 0 rfl) (j := 2) (u := v3) (rfl))) ?_)
    refine S_list (T_val (v := (Value.int .i64 ((List.length E) : Int))) (x_lenRS rfl hv3 Try.underlying104) ?_)
    refine S_list (T_val (v := (Value.int .i64 ((List.length E) : Int))) (x_assign rfl) ?_)
    refine wpList_nil ?_
    refine (X_then ?_)
    exact ⟨(List.length E), _, congrArg (fun e => mkA 100 e []) (ch (ch (ch (ch rfl rfl) rfl) rfl) (congrArg (Value.int .i64) ((by first | rfl | omega | (simp; done) | (simp; omega)) : ((List.length E) : Int) = ((List.length E : Nat) : Int)))), H, (Same.refl w), (by unfold mxT; omega)⟩
   ·have c115_fp : ¬ (((List.length C) : Int) < ((List.length E) : Int)) := of_decide_eq_false c115_f
    refine C_skip (X_then ?_)
    exact ⟨(List.length C), _, congrArg (fun e => mkA 100 e []) (ch (ch (ch (ch rfl rfl) rfl) rfl) (congrArg (Value.int .i64) ((by first | rfl | omega | (simp; done) | (simp; omega)) : ((List.length C) : Int) = ((List.length C : Nat) : Int)))), H, (Same.refl w), (by unfold mxT; omega)⟩
  ·rintro _ w111_ ⟨mx, h, rfl, H112_, S113_, hmx⟩
   refine C_seq (fun K116_ hK116_ => ?_)
   refine C_seq (fun K117_ hK117_ => ?_)
   refine C_reg ?_
   refine S_list (T_val (v := (Value.int .i64 (mx : Int))) (x_move rfl) ?_)
   refine S_list (T_val (v := (Value.int .i64 most)) (x_move rfl) ?_)
   refine S_list (T_val (v := (Value.bool (decide (most < (mx : Int))))) (x_bin rfl rfl rfl) ?_)
   refine wpList_nil ?_
   refine (X_then (hK117_ _ _ ?_))
   clear hK117_
   refine C_cond (b := decide (most < (mx : Int))) rfl (fun c118_t => ?_) (fun c118_f => ?_)
   ·have c118_tp : most < (mx : Int) := of_decide_eq_true c118_t
    refine C_seq (fun K119_ hK119_ => ?_)
    refine C_reg ?_
    refine S_list (T_val (v := (Value.iface 133 (Value.string (ByteArray.mk #[101, 116, 99, 100, 115, 101, 114, 118, 101, 114, 58, 32, 116, 111, 111, 32, 109, 97, 110, 121, 32, 111, 112, 101, 114, 97, 116, 105, 111, 110, 115, 32, 105, 110, 32, 116, 120, 110, 32, 114, 101, 113, 117, 101, 115, 116])))) (by kernel_rfl) ?_)
    refine S_list (T_val (v := (Value.iface 133 (Value.string (ByteArray.mk #[101, 116, 99, 100, 115, 101, 114, 118, 101, 114, 58, 32, 116, 111, 111, 32, 109, 97, 110, 121, 32, 111, 112, 101, 114, 97, 116, 105, 111, 110, 115, 32, 105, 110, 32, 116, 120, 110, 32, 114, 101, 113, 117, 101, 115, 116])))) (x_assign rfl) ?_)
    refine wpList_nil ?_
    refine (X_then (hK119_ _ _ ?_))
    clear hK119_
    refine C_ret (X_thenR ?_)
    refine R_any (v := (Value.iface 133 (Value.string (ByteArray.mk #[101, 116, 99, 100, 115, 101, 114, 118, 101, 114, 58, 32, 116, 111, 111, 32, 109, 97, 110, 121, 32, 111, 112, 101, 114, 97, 116, 105, 111, 110, 115, 32, 105, 110, 32, 116, 120, 110, 32, 114, 101, 113, 117, 101, 115, 116])))) (run_results1 rfl rfl) ?_
    exact ⟨_, _, rfl, (.inr (.inr (.inl ⟨rfl, rfl, (ref_many h4 hmx (by omega))⟩))), S113_, H112_⟩
   ·have c118_fp : ¬ (most < (mx : Int)) := of_decide_eq_false c118_f
    refine C_skip (X_then (hK116_ _ _ ?_))
    clear hK116_
    refine C_seq (fun K120_ hK120_ => ?_)
    refine C_seq (fun K121_ hK121_ => ?_)
    refine C_reg ?_
    refine S_list (T_val (v := (Value.pointer (some ⟨b, 0, none⟩))) (x_move rfl) ?_)
    refine S_list (T_val (v := (Value.pointer (some ⟨b, 0, none⟩))) (by kernel_rfl) ?_)
    refine S_list (T_val (v := (Value.pointer (some ⟨b, 0, none⟩))) (by kernel_rfl) ?_)
    refine S_list (T_val (v := v1) (x_load1 rfl Try.underlying144 rfl (RC.cell hrc (Holds.ro_at H112_ 0 rfl) (j := 0) (u := v1) (rfl))) ?_)
    refine S_list (T_val (v := (Value.int .i64 ((List.length C) : Int))) (x_lenRS rfl hv1 Try.underlying144) ?_)
    refine S_list (T_val (v := (Value.int .i64 0)) (x_move rfl) ?_)
    refine wpList_nil ?_
    refine (X_then (hK121_ _ _ ?_))
    clear hK121_
    refine C_block ?_
    refine C_loop (γ := Nat × Value) (fun x__ a__ w1__ => match x__ with | ⟨k, t4_v⟩ => ∃ h : Env, a__ = mkA 100 (upd (upd (upd (upd (upd (upd (upd h 0 (Value.pointer (some ⟨b, 0, none⟩))) 1 (Value.int .i64 most)) 4 t4_v) 5 (Value.int .i64 (mx : Int))) 50 v1) 51 (Value.int .i64 ((List.length C) : Int))) 52 (Value.int .i64 (k : Int))) [] ∧ Holds w1__ (ro R :: F) ∧ Same w w1__ ∧ (k ≤ C.length) ∧ (¬ (x.cc.take k).any (fun c => decide (c.key.size = 0)) = true)) (fun x__ => match x__ with | ⟨k, t4_v⟩ => C.length - k) (⟨0, (Value.nilIface)⟩) ⟨_, congrArg (fun e => mkA 100 e []) (ch (ch (ch (ch (ch (ch (ch rfl rfl) rfl) (rfl : (Value.nilIface) = ((Value.nilIface)))) rfl) rfl) rfl) (congrArg (Value.int .i64) ((by first | rfl | omega | (simp; done) | (simp; omega)) : 0 = (0 : Int)))), H112_, S113_, (by first | assumption | omega | exact rfl), (by simp)⟩ ?_
    rintro ⟨k, t4_v⟩ _ w122_ ⟨h, rfl, H123_, S124_, hk, hcc⟩
    refine C_seq (fun K125_ hK125_ => ?_)
    refine C_reg ?_
    refine S_list (T_val (v := (Value.bool (decide ((k : Int) < ((List.length C) : Int))))) (x_bin rfl rfl rfl) ?_)
    refine wpList_nil ?_
    refine (X_then (hK125_ _ _ ?_))
    clear hK125_
    refine C_seq (fun K126_ hK126_ => ?_)
    refine C_cond (b := decide ((k : Int) < ((List.length C) : Int))) rfl (fun c127_t => ?_) (fun c127_f => ?_)
    ·have c127_tp : (k : Int) < ((List.length C) : Int) := of_decide_eq_true c127_t
     refine C_skip (X_then (hK126_ _ _ ?_))
     clear hK126_
     refine C_seq (fun K128_ hK128_ => ?_)
     refine C_block ?_
     refine C_seq (fun K129_ hK129_ => ?_)
     refine C_reg ?_
     obtain ⟨p130_, hx131_, hm132_⟩ := elem_at C k (by omega)
     obtain ⟨y133_, hy134_, q135_kv, q135_c, q135_d, q135_h, q135_r⟩ := hC.at_ hx131_
     have := ints_length y133_.key
     refine S_list (T_val (v := (Value.pointer (some ⟨(sb v1), so v1 + k, none⟩))) (x_idxRS (v := v1) rfl hv1 rfl Try.underlying144 z147 (by omega) (by omega) (by omega : _ = k) (by rw [Nat.mul_one])) ?_)
     refine S_list (T_val (v := (Value.pointer (some ⟨p130_, 0, none⟩))) (x_load1 rfl Try.underlying147 rfl (RC.cell (RS.rc hv1) (Holds.ro_at H123_ 0 rfl) (j := k) (u := (Value.pointer (some ⟨p130_, 0, none⟩))) ((map_at hx131_)))) ?_)
     refine S_list (T_val (v := (Value.pointer (some ⟨p130_, 0, none⟩))) (x_assign rfl) ?_)
     refine wpList_nil ?_
     refine (X_then (hK129_ _ _ ?_))
     clear hK129_
     refine C_seq (fun K136_ hK136_ => ?_)
     refine C_reg ?_
     refine S_list (T_val (v := (Value.pointer (some ⟨p130_, 0, none⟩))) (x_move rfl) ?_)
     refine S_list (T_val (v := (Value.pointer (some ⟨p130_, 0, none⟩))) (by kernel_rfl) ?_)
     refine S_list (T_val (v := (Value.pointer (some ⟨p130_, 2, none⟩))) (by kernel_rfl) ?_)
     refine S_list (T_val (v := q135_kv) (x_load1 rfl Try.underlying122 rfl (RC.cell q135_r (Holds.ro_at H123_ 0 rfl) (j := 2) (u := q135_kv) (rfl))) ?_)
     refine S_list (T_val (v := (Value.int .i64 ((List.length (ints y133_.key)) : Int))) (x_lenRS rfl q135_h Try.underlying122) ?_)
     refine S_list (T_val (v := (Value.bool (decide (((List.length (ints y133_.key)) : Int) = 0)))) (x_bin rfl rfl rfl) ?_)
     refine wpList_nil ?_
     refine (X_then (hK136_ _ _ ?_))
     clear hK136_
     refine C_cond (b := decide (((List.length (ints y133_.key)) : Int) = 0)) rfl (fun c137_t => ?_) (fun c137_f => ?_)
     ·have c137_tp : ((List.length (ints y133_.key)) : Int) = 0 := of_decide_eq_true c137_t
      refine C_seq (fun K138_ hK138_ => ?_)
      refine C_reg ?_
      refine S_list (T_val (v := (Value.iface 133 (Value.string (ByteArray.mk #[101, 116, 99, 100, 115, 101, 114, 118, 101, 114, 58, 32, 107, 101, 121, 32, 105, 115, 32, 110, 111, 116, 32, 112, 114, 111, 118, 105, 100, 101, 100])))) (by kernel_rfl) ?_)
      refine S_list (T_val (v := (Value.iface 133 (Value.string (ByteArray.mk #[101, 116, 99, 100, 115, 101, 114, 118, 101, 114, 58, 32, 107, 101, 121, 32, 105, 115, 32, 110, 111, 116, 32, 112, 114, 111, 118, 105, 100, 101, 100])))) (x_assign rfl) ?_)
      refine wpList_nil ?_
      refine (X_then (hK138_ _ _ ?_))
      clear hK138_
      refine C_ret (X_blkR (X_thenR (X_thenR (X_blkR (X_thenR ?_)))))
      refine R_any (v := (Value.iface 133 (Value.string (ByteArray.mk #[101, 116, 99, 100, 115, 101, 114, 118, 101, 114, 58, 32, 107, 101, 121, 32, 105, 115, 32, 110, 111, 116, 32, 112, 114, 111, 118, 105, 100, 101, 100])))) (run_results1 rfl rfl) ?_
      exact ⟨_, _, rfl, (.inr (.inl ⟨rfl, rfl, (ref_key h4 hmx (by omega) hy134_ (by omega))⟩)), S124_, H123_⟩
     ·have c137_fp : ¬ (((List.length (ints y133_.key)) : Int) = 0) := of_decide_eq_false c137_f
      refine C_skip (X_blkN (X_then (hK128_ _ _ ?_)))
      clear hK128_
      refine C_reg ?_
      refine S_list (T_val (v := (Value.int .i64 ((k : Int) + 1))) (x_bin rfl rfl (ib_add (IntWalk.i64_in _ (by omega)))) ?_)
      refine S_list (T_val (v := (Value.int .i64 ((k : Int) + 1))) (x_move rfl) ?_)
      refine wpList_nil ?_
      refine (X_then ?_)
      exact ⟨⟨k + 1, t4_v⟩, ⟨_, congrArg (fun e => mkA 100 e []) (ch (ch (ch (ch (ch (ch (ch rfl rfl) rfl) rfl) rfl) rfl) rfl) (congrArg (Value.int .i64) ((by first | rfl | omega | (simp; done) | (simp; omega)) : (k : Int) + 1 = ((k + 1 : Nat) : Int)))), H123_, S124_, (by first | assumption | omega | exact rfl), (any_go hcc hy134_ (decide_eq_false (by omega)))⟩, by first | omega | (dsimp only; omega) | (simp; omega)⟩
    ·have c127_fp : ¬ ((k : Int) < ((List.length C) : Int)) := of_decide_eq_false c127_f
     refine C_exit (X_thenX (X_thenX (X_blkHit ?_)))
     refine (X_then (hK120_ _ _ ?_))
     clear hK120_
     refine C_seq (fun K139_ hK139_ => ?_)
     refine C_seq (fun K140_ hK140_ => ?_)
     refine C_reg ?_
     refine S_list (T_val (v := (Value.pointer (some ⟨b, 0, none⟩))) (x_move rfl) ?_)
     refine S_list (T_val (v := (Value.pointer (some ⟨b, 0, none⟩))) (by kernel_rfl) ?_)
     refine S_list (T_val (v := (Value.pointer (some ⟨b, 1, none⟩))) (by kernel_rfl) ?_)
     refine S_list (T_val (v := v2) (x_load1 rfl Try.underlying104 rfl (RC.cell hrc (Holds.ro_at H123_ 0 rfl) (j := 1) (u := v2) (rfl))) ?_)
     refine S_list (T_val (v := (Value.int .i64 ((List.length T) : Int))) (x_lenRS rfl hv2 Try.underlying104) ?_)
     refine S_list (T_val (v := (Value.int .i64 0)) (x_move rfl) ?_)
     refine wpList_nil ?_
     refine (X_then (hK140_ _ _ ?_))
     clear hK140_
     refine C_block ?_
     have hcc2 : ¬ x.cc.any (fun c => decide (c.key.size = 0)) = true := by rw [List.take_of_length_le (by omega)] at hcc; exact hcc
     refine C_loop (γ := Nat × Value) (fun x__ a__ w1__ => match x__ with | ⟨k2, t4_v⟩ => ∃ h : Env, a__ = mkA 100 (upd (upd (upd (upd (upd (upd (upd h 0 (Value.pointer (some ⟨b, 0, none⟩))) 1 (Value.int .i64 most)) 4 t4_v) 5 (Value.int .i64 (mx : Int))) 67 v2) 68 (Value.int .i64 ((List.length T) : Int))) 69 (Value.int .i64 (k2 : Int))) [] ∧ Holds w1__ (ro R :: F) ∧ Same w w1__ ∧ (k2 ≤ T.length) ∧ (refL x.tt (most - (mx : Int)) = refL (x.tt.drop k2) (most - (mx : Int)))) (fun x__ => match x__ with | ⟨k2, t4_v⟩ => T.length - k2) (⟨0, t4_v⟩) ⟨_, congrArg (fun e => mkA 100 e []) (ch (ch (ch (ch (ch (ch (ch rfl rfl) rfl) rfl) rfl) rfl) rfl) (congrArg (Value.int .i64) ((by first | rfl | omega | (simp; done) | (simp; omega)) : 0 = (0 : Int)))), H123_, S124_, (by first | assumption | omega | exact rfl), (by rw [List.drop_zero])⟩ ?_
     rintro ⟨k2, t4_v⟩ _ w141_ ⟨h, rfl, H142_, S143_, hkk2, hin2⟩
     refine C_seq (fun K144_ hK144_ => ?_)
     refine C_reg ?_
     refine S_list (T_val (v := (Value.bool (decide ((k2 : Int) < ((List.length T) : Int))))) (x_bin rfl rfl rfl) ?_)
     refine wpList_nil ?_
     refine (X_then (hK144_ _ _ ?_))
     clear hK144_
     refine C_seq (fun K145_ hK145_ => ?_)
     refine C_cond (b := decide ((k2 : Int) < ((List.length T) : Int))) rfl (fun c146_t => ?_) (fun c146_f => ?_)
     ·have c146_tp : (k2 : Int) < ((List.length T) : Int) := of_decide_eq_true c146_t
      refine C_skip (X_then (hK145_ _ _ ?_))
      clear hK145_
      refine C_seq (fun K147_ hK147_ => ?_)
      refine C_block ?_
      refine C_seq (fun K148_ hK148_ => ?_)
      refine C_reg ?_
      obtain ⟨p149_, hx150_, hm151_⟩ := elem_at T k2 (by omega)
      obtain ⟨y152_, hy153_, q154_o⟩ := hT.at_ hx150_
      have q154_m := List.mem_of_getElem? hy153_
      have := RT.sz_mem q154_m
      refine S_list (T_val (v := (Value.pointer (some ⟨(sb v2), so v2 + k2, none⟩))) (x_idxRS (v := v2) rfl hv2 rfl Try.underlying104 z149 (by omega) (by omega) (by omega : _ = k2) (by rw [Nat.mul_one])) ?_)
      refine S_list (T_val (v := (Value.pointer (some ⟨p149_, 0, none⟩))) (x_load1 rfl Try.underlying149 rfl (RC.cell (RS.rc hv2) (Holds.ro_at H142_ 0 rfl) (j := k2) (u := (Value.pointer (some ⟨p149_, 0, none⟩))) ((map_at hx150_)))) ?_)
      refine S_list (T_val (v := (Value.pointer (some ⟨p149_, 0, none⟩))) (x_assign rfl) ?_)
      refine wpList_nil ?_
      refine (X_then (hK148_ _ _ ?_))
      clear hK148_
      refine C_seq (fun K155_ hK155_ => ?_)
      refine C_reg ?_
      refine S_list (T_val (v := (Value.pointer (some ⟨p149_, 0, none⟩))) (x_move rfl) ?_)
      refine S_list (T_val (v := (Value.int .i64 most)) (x_move rfl) ?_)
      refine S_list (T_val (v := (Value.int .i64 (mx : Int))) (x_move rfl) ?_)
      refine S_list (T_val (v := (Value.int .i64 (most - (mx : Int)))) (x_bin rfl rfl (ib_sub (IntWalk.i64_in _ (by omega)))) ?_)
      refine S_list (T_call (al := [(Value.pointer (some ⟨p149_, 0, none⟩)), (Value.int .i64 (most - (mx : Int)))]) (pre := []) rfl rfl cb88 (ckReqOp R p149_ y152_ (most - (mx : Int)) n__ (hP.tt h4 y152_ q154_m) (by omega) (by omega) (ih) (q154_o)) H142_ ?_)
      rintro v156_ p164_ w161_ hq165_ S163_ H162_
      rcases hq165_ with ⟨rfl, rfl, he157_⟩ | ⟨rfl, rfl, he158_⟩ | ⟨rfl, rfl, he159_⟩ | ⟨rfl, rfl, he160_⟩
      ·skip
       have S166_ := Same.trans S143_ S163_
       refine S_list (T_val (v := (Value.nilIface)) (x_assign rfl) ?_)
       refine wpList_nil ?_
       refine (X_then (hK155_ _ _ ?_))
       clear hK155_
       refine C_seq (fun K170_ hK170_ => ?_)
       refine C_reg ?_
       refine S_list (T_val (v := (Value.nilIface)) (x_move rfl) ?_)
       refine S_list (T_val (v := (Value.bool false)) (by kernel_rfl) ?_)
       refine wpList_nil ?_
       refine (X_then (hK170_ _ _ ?_))
       clear hK170_
       refine C_condF rfl ?_
       refine C_skip (X_blkN (X_then (hK147_ _ _ ?_)))
       clear hK147_
       refine C_reg ?_
       refine S_list (T_val (v := (Value.int .i64 ((k2 : Int) + 1))) (x_bin rfl rfl (ib_add (IntWalk.i64_in _ (by omega)))) ?_)
       refine S_list (T_val (v := (Value.int .i64 ((k2 : Int) + 1))) (x_move rfl) ?_)
       refine wpList_nil ?_
       refine (X_then ?_)
       exact ⟨⟨k2 + 1, t4_v⟩, ⟨_, congrArg (fun e => mkA 100 e []) (ch (ch (ch (ch (ch (ch (ch rfl rfl) rfl) rfl) rfl) rfl) rfl) (congrArg (Value.int .i64) ((by first | rfl | omega | (simp; done) | (simp; omega)) : (k2 : Int) + 1 = ((k2 + 1 : Nat) : Int)))), H162_, S166_, (by first | assumption | omega | exact rfl), (by rw [hin2, ref_go hy153_ he157_])⟩, by first | omega | (dsimp only; omega) | (simp; omega)⟩
      ·skip
       have S167_ := Same.trans S143_ S163_
       refine S_list (T_val (v := (Value.iface 133 (Value.string (ByteArray.mk #[101, 116, 99, 100, 115, 101, 114, 118, 101, 114, 58, 32, 107, 101, 121, 32, 105, 115, 32, 110, 111, 116, 32, 112, 114, 111, 118, 105, 100, 101, 100])))) (x_assign rfl) ?_)
       refine wpList_nil ?_
       refine (X_then (hK155_ _ _ ?_))
       clear hK155_
       refine C_seq (fun K171_ hK171_ => ?_)
       refine C_reg ?_
       refine S_list (T_val (v := (Value.iface 133 (Value.string (ByteArray.mk #[101, 116, 99, 100, 115, 101, 114, 118, 101, 114, 58, 32, 107, 101, 121, 32, 105, 115, 32, 110, 111, 116, 32, 112, 114, 111, 118, 105, 100, 101, 100])))) (x_move rfl) ?_)
       refine S_list (T_val (v := (Value.bool true)) (by kernel_rfl) ?_)
       refine wpList_nil ?_
       refine (X_then (hK171_ _ _ ?_))
       clear hK171_
       refine C_condT rfl ?_
       refine C_seq (fun K172_ hK172_ => ?_)
       refine C_reg ?_
       refine S_list (T_val (v := (Value.iface 133 (Value.string (ByteArray.mk #[101, 116, 99, 100, 115, 101, 114, 118, 101, 114, 58, 32, 107, 101, 121, 32, 105, 115, 32, 110, 111, 116, 32, 112, 114, 111, 118, 105, 100, 101, 100])))) (x_move rfl) ?_)
       refine S_list (T_val (v := (Value.iface 133 (Value.string (ByteArray.mk #[101, 116, 99, 100, 115, 101, 114, 118, 101, 114, 58, 32, 107, 101, 121, 32, 105, 115, 32, 110, 111, 116, 32, 112, 114, 111, 118, 105, 100, 101, 100])))) (x_assign rfl) ?_)
       refine wpList_nil ?_
       refine (X_then (hK172_ _ _ ?_))
       clear hK172_
       refine C_ret (X_blkR (X_thenR (X_thenR (X_blkR (X_thenR ?_)))))
       refine R_any (v := (Value.iface 133 (Value.string (ByteArray.mk #[101, 116, 99, 100, 115, 101, 114, 118, 101, 114, 58, 32, 107, 101, 121, 32, 105, 115, 32, 110, 111, 116, 32, 112, 114, 111, 118, 105, 100, 101, 100])))) (run_results1 rfl rfl) ?_
       exact ⟨_, _, rfl, (.inr (.inl ⟨rfl, rfl, (ref_tt h4 hmx (by omega) hcc2 hin2 hy153_ he158_ (by decide))⟩)), S167_, H162_⟩
      ·skip
       replace H162_ : Holds w161_ (ro R :: F) := H162_
       have S168_ := Same.trans S143_ S163_
       refine S_list (T_val (v := (Value.iface 133 (Value.string (ByteArray.mk #[101, 116, 99, 100, 115, 101, 114, 118, 101, 114, 58, 32, 116, 111, 111, 32, 109, 97, 110, 121, 32, 111, 112, 101, 114, 97, 116, 105, 111, 110, 115, 32, 105, 110, 32, 116, 120, 110, 32, 114, 101, 113, 117, 101, 115, 116])))) (x_assign rfl) ?_)
       refine wpList_nil ?_
       refine (X_then (hK155_ _ _ ?_))
       clear hK155_
       refine C_seq (fun K173_ hK173_ => ?_)
       refine C_reg ?_
       refine S_list (T_val (v := (Value.iface 133 (Value.string (ByteArray.mk #[101, 116, 99, 100, 115, 101, 114, 118, 101, 114, 58, 32, 116, 111, 111, 32, 109, 97, 110, 121, 32, 111, 112, 101, 114, 97, 116, 105, 111, 110, 115, 32, 105, 110, 32, 116, 120, 110, 32, 114, 101, 113, 117, 101, 115, 116])))) (x_move rfl) ?_)
       refine S_list (T_val (v := (Value.bool true)) (by kernel_rfl) ?_)
       refine wpList_nil ?_
       refine (X_then (hK173_ _ _ ?_))
       clear hK173_
       refine C_condT rfl ?_
       refine C_seq (fun K174_ hK174_ => ?_)
       refine C_reg ?_
       refine S_list (T_val (v := (Value.iface 133 (Value.string (ByteArray.mk #[101, 116, 99, 100, 115, 101, 114, 118, 101, 114, 58, 32, 116, 111, 111, 32, 109, 97, 110, 121, 32, 111, 112, 101, 114, 97, 116, 105, 111, 110, 115, 32, 105, 110, 32, 116, 120, 110, 32, 114, 101, 113, 117, 101, 115, 116])))) (x_move rfl) ?_)
       refine S_list (T_val (v := (Value.iface 133 (Value.string (ByteArray.mk #[101, 116, 99, 100, 115, 101, 114, 118, 101, 114, 58, 32, 116, 111, 111, 32, 109, 97, 110, 121, 32, 111, 112, 101, 114, 97, 116, 105, 111, 110, 115, 32, 105, 110, 32, 116, 120, 110, 32, 114, 101, 113, 117, 101, 115, 116])))) (x_assign rfl) ?_)
       refine wpList_nil ?_
       refine (X_then (hK174_ _ _ ?_))
       clear hK174_
       refine C_ret (X_blkR (X_thenR (X_thenR (X_blkR (X_thenR ?_)))))
       refine R_any (v := (Value.iface 133 (Value.string (ByteArray.mk #[101, 116, 99, 100, 115, 101, 114, 118, 101, 114, 58, 32, 116, 111, 111, 32, 109, 97, 110, 121, 32, 111, 112, 101, 114, 97, 116, 105, 111, 110, 115, 32, 105, 110, 32, 116, 120, 110, 32, 114, 101, 113, 117, 101, 115, 116])))) (run_results1 rfl rfl) ?_
       exact ⟨_, _, rfl, (.inr (.inr (.inl ⟨rfl, rfl, (ref_tt h4 hmx (by omega) hcc2 hin2 hy153_ he159_ (by decide))⟩))), S168_, H162_⟩
      ·skip
       have S169_ := Same.trans S143_ S163_
       refine S_list (T_val (v := (Value.iface 133 (Value.string (ByteArray.mk #[101, 116, 99, 100, 115, 101, 114, 118, 101, 114, 58, 32, 105, 110, 118, 97, 108, 105, 100, 32, 115, 111, 114, 116, 32, 111, 112, 116, 105, 111, 110])))) (x_assign rfl) ?_)
       refine wpList_nil ?_
       refine (X_then (hK155_ _ _ ?_))
       clear hK155_
       refine C_seq (fun K175_ hK175_ => ?_)
       refine C_reg ?_
       refine S_list (T_val (v := (Value.iface 133 (Value.string (ByteArray.mk #[101, 116, 99, 100, 115, 101, 114, 118, 101, 114, 58, 32, 105, 110, 118, 97, 108, 105, 100, 32, 115, 111, 114, 116, 32, 111, 112, 116, 105, 111, 110])))) (x_move rfl) ?_)
       refine S_list (T_val (v := (Value.bool true)) (by kernel_rfl) ?_)
       refine wpList_nil ?_
       refine (X_then (hK175_ _ _ ?_))
       clear hK175_
       refine C_condT rfl ?_
       refine C_seq (fun K176_ hK176_ => ?_)
       refine C_reg ?_
       refine S_list (T_val (v := (Value.iface 133 (Value.string (ByteArray.mk #[101, 116, 99, 100, 115, 101, 114, 118, 101, 114, 58, 32, 105, 110, 118, 97, 108, 105, 100, 32, 115, 111, 114, 116, 32, 111, 112, 116, 105, 111, 110])))) (x_move rfl) ?_)
       refine S_list (T_val (v := (Value.iface 133 (Value.string (ByteArray.mk #[101, 116, 99, 100, 115, 101, 114, 118, 101, 114, 58, 32, 105, 110, 118, 97, 108, 105, 100, 32, 115, 111, 114, 116, 32, 111, 112, 116, 105, 111, 110])))) (x_assign rfl) ?_)
       refine wpList_nil ?_
       refine (X_then (hK176_ _ _ ?_))
       clear hK176_
       refine C_ret (X_blkR (X_thenR (X_thenR (X_blkR (X_thenR ?_)))))
       refine R_any (v := (Value.iface 133 (Value.string (ByteArray.mk #[101, 116, 99, 100, 115, 101, 114, 118, 101, 114, 58, 32, 105, 110, 118, 97, 108, 105, 100, 32, 115, 111, 114, 116, 32, 111, 112, 116, 105, 111, 110])))) (run_results1 rfl rfl) ?_
       exact ⟨_, _, rfl, (.inr (.inr (.inr ⟨rfl, rfl, (ref_tt h4 hmx (by omega) hcc2 hin2 hy153_ he160_ (by decide))⟩))), S169_, H162_⟩
     ·have c146_fp : ¬ ((k2 : Int) < ((List.length T) : Int)) := of_decide_eq_false c146_f
      refine C_exit (X_thenX (X_thenX (X_blkHit ?_)))
      refine (X_then (hK139_ _ _ ?_))
      clear hK139_
      refine C_seq (fun K177_ hK177_ => ?_)
      refine C_seq (fun K178_ hK178_ => ?_)
      refine C_reg ?_
      refine S_list (T_val (v := (Value.pointer (some ⟨b, 0, none⟩))) (x_move rfl) ?_)
      refine S_list (T_val (v := (Value.pointer (some ⟨b, 0, none⟩))) (by kernel_rfl) ?_)
      refine S_list (T_val (v := (Value.pointer (some ⟨b, 2, none⟩))) (by kernel_rfl) ?_)
      refine S_list (T_val (v := v3) (x_load1 rfl Try.underlying104 rfl (RC.cell hrc (Holds.ro_at H142_ 0 rfl) (j := 2) (u := v3) (rfl))) ?_)
      refine S_list (T_val (v := (Value.int .i64 ((List.length E) : Int))) (x_lenRS rfl hv3 Try.underlying104) ?_)
      refine S_list (T_val (v := (Value.int .i64 0)) (x_move rfl) ?_)
      refine wpList_nil ?_
      refine (X_then (hK178_ _ _ ?_))
      clear hK178_
      refine C_block ?_
      have htt : refL x.tt (most - (mx : Int)) = 0 := by rw [hin2, ref_end (by omega)]
      refine C_loop (γ := Nat × Value) (fun x__ a__ w1__ => match x__ with | ⟨k3, t4_v⟩ => ∃ h : Env, a__ = mkA 100 (upd (upd (upd (upd (upd (upd h 1 (Value.int .i64 most)) 4 t4_v) 5 (Value.int .i64 (mx : Int))) 85 v3) 86 (Value.int .i64 ((List.length E) : Int))) 87 (Value.int .i64 (k3 : Int))) [] ∧ Holds w1__ (ro R :: F) ∧ Same w w1__ ∧ (k3 ≤ E.length) ∧ (refL x.ee (most - (mx : Int)) = refL (x.ee.drop k3) (most - (mx : Int)))) (fun x__ => match x__ with | ⟨k3, t4_v⟩ => E.length - k3) (⟨0, t4_v⟩) ⟨_, congrArg (fun e => mkA 100 e []) (ch (ch (ch (ch (ch (ch rfl rfl) rfl) rfl) rfl) rfl) (congrArg (Value.int .i64) ((by first | rfl | omega | (simp; done) | (simp; omega)) : 0 = (0 : Int)))), H142_, S143_, (by first | assumption | omega | exact rfl), (by rw [List.drop_zero])⟩ ?_
      rintro ⟨k3, t4_v⟩ _ w179_ ⟨h, rfl, H180_, S181_, hkk3, hin3⟩
      refine C_seq (fun K182_ hK182_ => ?_)
      refine C_reg ?_
      refine S_list (T_val (v := (Value.bool (decide ((k3 : Int) < ((List.length E) : Int))))) (x_bin rfl rfl rfl) ?_)
      refine wpList_nil ?_
      refine (X_then (hK182_ _ _ ?_))
      clear hK182_
      refine C_seq (fun K183_ hK183_ => ?_)
      refine C_cond (b := decide ((k3 : Int) < ((List.length E) : Int))) rfl (fun c184_t => ?_) (fun c184_f => ?_)
      ·have c184_tp : (k3 : Int) < ((List.length E) : Int) := of_decide_eq_true c184_t
       refine C_skip (X_then (hK183_ _ _ ?_))
       clear hK183_
       refine C_seq (fun K185_ hK185_ => ?_)
       refine C_block ?_
       refine C_seq (fun K186_ hK186_ => ?_)
       refine C_reg ?_
       obtain ⟨p187_, hx188_, hm189_⟩ := elem_at E k3 (by omega)
       obtain ⟨y190_, hy191_, q192_o⟩ := hE.at_ hx188_
       have q192_m := List.mem_of_getElem? hy191_
       have := RT.sz_mem q192_m
       refine S_list (T_val (v := (Value.pointer (some ⟨(sb v3), so v3 + k3, none⟩))) (x_idxRS (v := v3) rfl hv3 rfl Try.underlying104 z149 (by omega) (by omega) (by omega : _ = k3) (by rw [Nat.mul_one])) ?_)
       refine S_list (T_val (v := (Value.pointer (some ⟨p187_, 0, none⟩))) (x_load1 rfl Try.underlying149 rfl (RC.cell (RS.rc hv3) (Holds.ro_at H180_ 0 rfl) (j := k3) (u := (Value.pointer (some ⟨p187_, 0, none⟩))) ((map_at hx188_)))) ?_)
       refine S_list (T_val (v := (Value.pointer (some ⟨p187_, 0, none⟩))) (x_assign rfl) ?_)
       refine wpList_nil ?_
       refine (X_then (hK186_ _ _ ?_))
       clear hK186_
       refine C_seq (fun K193_ hK193_ => ?_)
       refine C_reg ?_
       refine S_list (T_val (v := (Value.pointer (some ⟨p187_, 0, none⟩))) (x_move rfl) ?_)
       refine S_list (T_val (v := (Value.int .i64 most)) (x_move rfl) ?_)
       refine S_list (T_val (v := (Value.int .i64 (mx : Int))) (x_move rfl) ?_)
       refine S_list (T_val (v := (Value.int .i64 (most - (mx : Int)))) (x_bin rfl rfl (ib_sub (IntWalk.i64_in _ (by omega)))) ?_)
       refine S_list (T_call (al := [(Value.pointer (some ⟨p187_, 0, none⟩)), (Value.int .i64 (most - (mx : Int)))]) (pre := []) rfl rfl cb88 (ckReqOp R p187_ y190_ (most - (mx : Int)) n__ (hP.ee h4 y190_ q192_m) (by omega) (by omega) (ih) (q192_o)) H180_ ?_)
       rintro v194_ p202_ w199_ hq203_ S201_ H200_
       rcases hq203_ with ⟨rfl, rfl, he195_⟩ | ⟨rfl, rfl, he196_⟩ | ⟨rfl, rfl, he197_⟩ | ⟨rfl, rfl, he198_⟩
       ·skip
        have S204_ := Same.trans S181_ S201_
        refine S_list (T_val (v := (Value.nilIface)) (x_assign rfl) ?_)
        refine wpList_nil ?_
        refine (X_then (hK193_ _ _ ?_))
        clear hK193_
        refine C_seq (fun K208_ hK208_ => ?_)
        refine C_reg ?_
        refine S_list (T_val (v := (Value.nilIface)) (x_move rfl) ?_)
        refine S_list (T_val (v := (Value.bool false)) (by kernel_rfl) ?_)
        refine wpList_nil ?_
        refine (X_then (hK208_ _ _ ?_))
        clear hK208_
        refine C_condF rfl ?_
        refine C_skip (X_blkN (X_then (hK185_ _ _ ?_)))
        clear hK185_
        refine C_reg ?_
        refine S_list (T_val (v := (Value.int .i64 ((k3 : Int) + 1))) (x_bin rfl rfl (ib_add (IntWalk.i64_in _ (by omega)))) ?_)
        refine S_list (T_val (v := (Value.int .i64 ((k3 : Int) + 1))) (x_move rfl) ?_)
        refine wpList_nil ?_
        refine (X_then ?_)
        exact ⟨⟨k3 + 1, t4_v⟩, ⟨_, congrArg (fun e => mkA 100 e []) (ch (ch (ch (ch (ch (ch rfl rfl) rfl) rfl) rfl) rfl) (congrArg (Value.int .i64) ((by first | rfl | omega | (simp; done) | (simp; omega)) : (k3 : Int) + 1 = ((k3 + 1 : Nat) : Int)))), H200_, S204_, (by first | assumption | omega | exact rfl), (by rw [hin3, ref_go hy191_ he195_])⟩, by first | omega | (dsimp only; omega) | (simp; omega)⟩
       ·skip
        replace H200_ : Holds w199_ (ro R :: F) := H200_
        have S205_ := Same.trans S181_ S201_
        refine S_list (T_val (v := (Value.iface 133 (Value.string (ByteArray.mk #[101, 116, 99, 100, 115, 101, 114, 118, 101, 114, 58, 32, 107, 101, 121, 32, 105, 115, 32, 110, 111, 116, 32, 112, 114, 111, 118, 105, 100, 101, 100])))) (x_assign rfl) ?_)
        refine wpList_nil ?_
        refine (X_then (hK193_ _ _ ?_))
        clear hK193_
        refine C_seq (fun K209_ hK209_ => ?_)
        refine C_reg ?_
        refine S_list (T_val (v := (Value.iface 133 (Value.string (ByteArray.mk #[101, 116, 99, 100, 115, 101, 114, 118, 101, 114, 58, 32, 107, 101, 121, 32, 105, 115, 32, 110, 111, 116, 32, 112, 114, 111, 118, 105, 100, 101, 100])))) (x_move rfl) ?_)
        refine S_list (T_val (v := (Value.bool true)) (by kernel_rfl) ?_)
        refine wpList_nil ?_
        refine (X_then (hK209_ _ _ ?_))
        clear hK209_
        refine C_condT rfl ?_
        refine C_seq (fun K210_ hK210_ => ?_)
        refine C_reg ?_
        refine S_list (T_val (v := (Value.iface 133 (Value.string (ByteArray.mk #[101, 116, 99, 100, 115, 101, 114, 118, 101, 114, 58, 32, 107, 101, 121, 32, 105, 115, 32, 110, 111, 116, 32, 112, 114, 111, 118, 105, 100, 101, 100])))) (x_move rfl) ?_)
        refine S_list (T_val (v := (Value.iface 133 (Value.string (ByteArray.mk #[101, 116, 99, 100, 115, 101, 114, 118, 101, 114, 58, 32, 107, 101, 121, 32, 105, 115, 32, 110, 111, 116, 32, 112, 114, 111, 118, 105, 100, 101, 100])))) (x_assign rfl) ?_)
        refine wpList_nil ?_
        refine (X_then (hK210_ _ _ ?_))
        clear hK210_
        refine C_ret (X_blkR (X_thenR (X_thenR (X_blkR (X_thenR ?_)))))
        refine R_any (v := (Value.iface 133 (Value.string (ByteArray.mk #[101, 116, 99, 100, 115, 101, 114, 118, 101, 114, 58, 32, 107, 101, 121, 32, 105, 115, 32, 110, 111, 116, 32, 112, 114, 111, 118, 105, 100, 101, 100])))) (run_results1 rfl rfl) ?_
        exact ⟨_, _, rfl, (.inr (.inl ⟨rfl, rfl, (ref_ee h4 hmx (by omega) hcc2 htt hin3 hy191_ he196_ (by decide))⟩)), S205_, H200_⟩
       ·skip
        have S206_ := Same.trans S181_ S201_
        refine S_list (T_val (v := (Value.iface 133 (Value.string (ByteArray.mk #[101, 116, 99, 100, 115, 101, 114, 118, 101, 114, 58, 32, 116, 111, 111, 32, 109, 97, 110, 121, 32, 111, 112, 101, 114, 97, 116, 105, 111, 110, 115, 32, 105, 110, 32, 116, 120, 110, 32, 114, 101, 113, 117, 101, 115, 116])))) (x_assign rfl) ?_)
        refine wpList_nil ?_
        refine (X_then (hK193_ _ _ ?_))
        clear hK193_
        refine C_seq (fun K211_ hK211_ => ?_)
        refine C_reg ?_
        refine S_list (T_val (v := (Value.iface 133 (Value.string (ByteArray.mk #[101, 116, 99, 100, 115, 101, 114, 118, 101, 114, 58, 32, 116, 111, 111, 32, 109, 97, 110, 121, 32, 111, 112, 101, 114, 97, 116, 105, 111, 110, 115, 32, 105, 110, 32, 116, 120, 110, 32, 114, 101, 113, 117, 101, 115, 116])))) (x_move rfl) ?_)
        refine S_list (T_val (v := (Value.bool true)) (by kernel_rfl) ?_)
        refine wpList_nil ?_
        refine (X_then (hK211_ _ _ ?_))
        clear hK211_
        refine C_condT rfl ?_
        refine C_seq (fun K212_ hK212_ => ?_)
        refine C_reg ?_
        refine S_list (T_val (v := (Value.iface 133 (Value.string (ByteArray.mk #[101, 116, 99, 100, 115, 101, 114, 118, 101, 114, 58, 32, 116, 111, 111, 32, 109, 97, 110, 121, 32, 111, 112, 101, 114, 97, 116, 105, 111, 110, 115, 32, 105, 110, 32, 116, 120, 110, 32, 114, 101, 113, 117, 101, 115, 116])))) (x_move rfl) ?_)
        refine S_list (T_val (v := (Value.iface 133 (Value.string (ByteArray.mk #[101, 116, 99, 100, 115, 101, 114, 118, 101, 114, 58, 32, 116, 111, 111, 32, 109, 97, 110, 121, 32, 111, 112, 101, 114, 97, 116, 105, 111, 110, 115, 32, 105, 110, 32, 116, 120, 110, 32, 114, 101, 113, 117, 101, 115, 116])))) (x_assign rfl) ?_)
        refine wpList_nil ?_
        refine (X_then (hK212_ _ _ ?_))
        clear hK212_
        refine C_ret (X_blkR (X_thenR (X_thenR (X_blkR (X_thenR ?_)))))
        refine R_any (v := (Value.iface 133 (Value.string (ByteArray.mk #[101, 116, 99, 100, 115, 101, 114, 118, 101, 114, 58, 32, 116, 111, 111, 32, 109, 97, 110, 121, 32, 111, 112, 101, 114, 97, 116, 105, 111, 110, 115, 32, 105, 110, 32, 116, 120, 110, 32, 114, 101, 113, 117, 101, 115, 116])))) (run_results1 rfl rfl) ?_
        exact ⟨_, _, rfl, (.inr (.inr (.inl ⟨rfl, rfl, (ref_ee h4 hmx (by omega) hcc2 htt hin3 hy191_ he197_ (by decide))⟩))), S206_, H200_⟩
       ·skip
        have S207_ := Same.trans S181_ S201_
        refine S_list (T_val (v := (Value.iface 133 (Value.string (ByteArray.mk #[101, 116, 99, 100, 115, 101, 114, 118, 101, 114, 58, 32, 105, 110, 118, 97, 108, 105, 100, 32, 115, 111, 114, 116, 32, 111, 112, 116, 105, 111, 110])))) (x_assign rfl) ?_)
        refine wpList_nil ?_
        refine (X_then (hK193_ _ _ ?_))
        clear hK193_
        refine C_seq (fun K213_ hK213_ => ?_)
        refine C_reg ?_
        refine S_list (T_val (v := (Value.iface 133 (Value.string (ByteArray.mk #[101, 116, 99, 100, 115, 101, 114, 118, 101, 114, 58, 32, 105, 110, 118, 97, 108, 105, 100, 32, 115, 111, 114, 116, 32, 111, 112, 116, 105, 111, 110])))) (x_move rfl) ?_)
        refine S_list (T_val (v := (Value.bool true)) (by kernel_rfl) ?_)
        refine wpList_nil ?_
        refine (X_then (hK213_ _ _ ?_))
        clear hK213_
        refine C_condT rfl ?_
        refine C_seq (fun K214_ hK214_ => ?_)
        refine C_reg ?_
        refine S_list (T_val (v := (Value.iface 133 (Value.string (ByteArray.mk #[101, 116, 99, 100, 115, 101, 114, 118, 101, 114, 58, 32, 105, 110, 118, 97, 108, 105, 100, 32, 115, 111, 114, 116, 32, 111, 112, 116, 105, 111, 110])))) (x_move rfl) ?_)
        refine S_list (T_val (v := (Value.iface 133 (Value.string (ByteArray.mk #[101, 116, 99, 100, 115, 101, 114, 118, 101, 114, 58, 32, 105, 110, 118, 97, 108, 105, 100, 32, 115, 111, 114, 116, 32, 111, 112, 116, 105, 111, 110])))) (x_assign rfl) ?_)
        refine wpList_nil ?_
        refine (X_then (hK214_ _ _ ?_))
        clear hK214_
        refine C_ret (X_blkR (X_thenR (X_thenR (X_blkR (X_thenR ?_)))))
        refine R_any (v := (Value.iface 133 (Value.string (ByteArray.mk #[101, 116, 99, 100, 115, 101, 114, 118, 101, 114, 58, 32, 105, 110, 118, 97, 108, 105, 100, 32, 115, 111, 114, 116, 32, 111, 112, 116, 105, 111, 110])))) (run_results1 rfl rfl) ?_
        exact ⟨_, _, rfl, (.inr (.inr (.inr ⟨rfl, rfl, (ref_ee h4 hmx (by omega) hcc2 htt hin3 hy191_ he198_ (by decide))⟩))), S207_, H200_⟩
      ·have c184_fp : ¬ ((k3 : Int) < ((List.length E) : Int)) := of_decide_eq_false c184_f
       refine C_exit (X_thenX (X_thenX (X_blkHit ?_)))
       refine (X_then (hK177_ _ _ ?_))
       clear hK177_
       refine C_seq (fun K215_ hK215_ => ?_)
       refine C_reg ?_
       refine S_list (T_val (v := (Value.nilIface)) (x_assign rfl) ?_)
       refine wpList_nil ?_
       refine (X_then (hK215_ _ _ ?_))
       clear hK215_
       refine C_ret ?_
       refine R_any (v := (Value.nilIface)) (run_results1 rfl rfl) ?_
       exact ⟨_, _, rfl, (.inl ⟨rfl, rfl, (ref_ok h4 hmx (by omega) hcc2 htt (by rw [hin3, ref_end (by omega)]))⟩), S181_, H180_⟩

theorem ckTxnReq (R : HP) (b : Nat) (x : RT) (most : Int) (hr : TxnAt R b x) (h4 : x.q.kind = 4) (hP : Pln x) (hmo : 0 ≤ most ∧ most ≤ 1048576) : Tri Try.prog 71 #[(Value.pointer (some ⟨b, 0, none⟩)), (Value.int .i64 most)] R [] (fun v__ post__ => (v__ = (Value.nilIface) ∧ post__ = [] ∧ (refT x most = 0)) ∨ (v__ = (Value.iface 133 (Value.string (ByteArray.mk #[101, 116, 99, 100, 115, 101, 114, 118, 101, 114, 58, 32, 107, 101, 121, 32, 105, 115, 32, 110, 111, 116, 32, 112, 114, 111, 118, 105, 100, 101, 100]))) ∧ post__ = [] ∧ (refT x most = 1)) ∨ (v__ = (Value.iface 133 (Value.string (ByteArray.mk #[101, 116, 99, 100, 115, 101, 114, 118, 101, 114, 58, 32, 116, 111, 111, 32, 109, 97, 110, 121, 32, 111, 112, 101, 114, 97, 116, 105, 111, 110, 115, 32, 105, 110, 32, 116, 120, 110, 32, 114, 101, 113, 117, 101, 115, 116]))) ∧ post__ = [] ∧ (refT x most = 4)) ∨ (v__ = (Value.iface 133 (Value.string (ByteArray.mk #[101, 116, 99, 100, 115, 101, 114, 118, 101, 114, 58, 32, 105, 110, 118, 97, 108, 105, 100, 32, 115, 111, 114, 116, 32, 111, 112, 116, 105, 111, 110]))) ∧ post__ = [] ∧ (refT x most = 6))) := by
  have key : ∀ (n__ : Nat) (R : HP) (b : Nat) (x : RT) (most : Int) (hr : TxnAt R b x) (h4 : x.q.kind = 4) (hP : Pln x) (hmo : 0 ≤ most ∧ most ≤ 1048576) (hn__ : x.sz = n__), Tri Try.prog 71 #[(Value.pointer (some ⟨b, 0, none⟩)), (Value.int .i64 most)] R [] (fun v__ post__ => (v__ = (Value.nilIface) ∧ post__ = [] ∧ (refT x most = 0)) ∨ (v__ = (Value.iface 133 (Value.string (ByteArray.mk #[101, 116, 99, 100, 115, 101, 114, 118, 101, 114, 58, 32, 107, 101, 121, 32, 105, 115, 32, 110, 111, 116, 32, 112, 114, 111, 118, 105, 100, 101, 100]))) ∧ post__ = [] ∧ (refT x most = 1)) ∨ (v__ = (Value.iface 133 (Value.string (ByteArray.mk #[101, 116, 99, 100, 115, 101, 114, 118, 101, 114, 58, 32, 116, 111, 111, 32, 109, 97, 110, 121, 32, 111, 112, 101, 114, 97, 116, 105, 111, 110, 115, 32, 105, 110, 32, 116, 120, 110, 32, 114, 101, 113, 117, 101, 115, 116]))) ∧ post__ = [] ∧ (refT x most = 4)) ∨ (v__ = (Value.iface 133 (Value.string (ByteArray.mk #[101, 116, 99, 100, 115, 101, 114, 118, 101, 114, 58, 32, 105, 110, 118, 97, 108, 105, 100, 32, 115, 111, 114, 116, 32, 111, 112, 116, 105, 111, 110]))) ∧ post__ = [] ∧ (refT x most = 6))) := by
    intro n__
    induction n__ using Nat.strongRecOn with
    | ind n__ ih => intro R b x most hr h4 hP hmo hn__; exact ckTxnReq_step R b x most n__ hr h4 hP hmo (Nat.le_of_eq hn__) (fun R b x most hr h4 hP hmo hms => ih _ hms R b x most hr h4 hP hmo rfl)
  exact key _ R b x most hr h4 hP hmo rfl
end Go.Proofs.Ytlnihndjepjagaa
