/- Two lives, by the package. -/
import Derived.Test.YtiblemgccgbhoaaKyJ0
set_option linter.unusedVariables false
set_option linter.unusedSimpArgs false
namespace Go.Proofs.Ytiblemgccgbhoaa
open Go Go.RowKit Gw

set_option maxHeartbeats 2000000 in
theorem kGenEqual (R : HP) (v1 v2 : Value) (K1 K2 : List RV) (a1 b1 c1 a2 b2 c2 : Int) (h1 : RS R 2 v1 (List.length K1) (K1.flatMap RV.cells)) (h2 : RS R 2 v2 (List.length K2) (K2.flatMap RV.cells)) (hb1 : K1.length ≤ 100000) :
    Tri Try.prog 67 #[(Value.agg #[(Value.int .i64 a1), (Value.int .i64 b1), (Value.int .i64 c1), v1]), (Value.agg #[(Value.int .i64 a2), (Value.int .i64 b2), (Value.int .i64 c2), v2])] R [] (fun v__ post__ => (v__ = (Value.bool true) ∧ post__ = [] ∧ (a1 = a2 ∧ K1 = K2)) ∨ (v__ = (Value.bool false) ∧ post__ = [] ∧ (¬ (a1 = a2 ∧ K1 = K2)))) := by
 refine Tri.into (n := 40) (al := [(Value.agg #[(Value.int .i64 a1), (Value.int .i64 b1), (Value.int .i64 c1), v1]), (Value.agg #[(Value.int .i64 a2), (Value.int .i64 b2), (Value.int .i64 c2), v2])]) Try.func67 rfl Try.ntmps67 rfl rfl fun w F H => ?_
 refine C_seq (fun K1_ hK1_ => ?_)
 refine C_reg ?_
 refine S_list (T_box (v := (Value.agg #[(Value.int .i64 a1), (Value.int .i64 b1), (Value.int .i64 c1), v1])) rfl H ?_)
 intro b2_ w3_ S5_ H4_
 have S6_ := Same.trans (Same.refl w) S5_
 refine S_list (T_box (v := (Value.agg #[(Value.int .i64 a2), (Value.int .i64 b2), (Value.int .i64 c2), v2])) rfl H4_ ?_)
 intro b7_ w8_ S10_ H9_
 replace H9_ : Holds w8_ (cl b7_ 106 [(Value.int .i64 a2), (Value.int .i64 b2), (Value.int .i64 c2), v2] :: cl b2_ 106 [(Value.int .i64 a1), (Value.int .i64 b1), (Value.int .i64 c1), v1] :: ro R :: F) := H9_
 have S11_ := Same.trans S6_ S10_
 refine S_list (T_val (v := (Value.bool false)) (x_assign rfl) ?_)
 refine wpList_nil ?_
 refine (X_then (hK1_ _ _ ?_))
 clear hK1_
 refine C_seq (fun K12_ hK12_ => ?_)
 refine C_seq (fun K13_ hK13_ => ?_)
 refine C_reg ?_
 refine S_list (T_val (v := (Value.pointer (some ⟨b2_, 0, none⟩))) (by kernel_rfl) ?_)
 refine S_list (T_val (v := (Value.int .i64 a1)) (x_load1 rfl Try.underlying2 rfl ((Holds.rd H9_ 1 rfl) 0 (Value.int .i64 a1) rfl)) ?_)
 refine S_list (T_val (v := (Value.pointer (some ⟨b7_, 0, none⟩))) (by kernel_rfl) ?_)
 refine S_list (T_val (v := (Value.int .i64 a2)) (x_load1 rfl Try.underlying2 rfl ((Holds.rd H9_ 0 rfl) 0 (Value.int .i64 a2) rfl)) ?_)
 refine S_list (T_val (v := (Value.bool (decide (a1 ≠ a2)))) (x_bin rfl rfl rfl) ?_)
 refine wpList_nil ?_
 refine (X_then (hK13_ _ _ ?_))
 clear hK13_
 refine C_cond (b := decide (a1 ≠ a2)) rfl (fun c14_t => ?_) (fun c14_f => ?_)
 ·have c14_tp : a1 ≠ a2 := of_decide_eq_true c14_t
  refine C_seq (fun K15_ hK15_ => ?_)
  refine C_reg ?_
  refine S_list (T_val (v := (Value.bool false)) (x_assign rfl) ?_)
  refine wpList_nil ?_
  refine (X_then (hK15_ _ _ ?_))
  clear hK15_
  refine C_ret (X_thenR ?_)
  refine R_any (v := (Value.bool false)) (run_results1 rfl rfl) ?_
  have H16_ : Holds w8_ (ro R :: F) := (Holds.pkF H9_ [2] 2 :)
  exact ⟨_, _, rfl, (.inr ⟨rfl, rfl, (fun e_ => by first | (simp_all; done) | exact map_nel (f := id) (l := K1) (m := K2) (by first | (simp_all; done) | (simp_all; omega)) (by rw [e_.2]))⟩), S11_, H16_⟩
 ·have c14_fp : ¬ (a1 ≠ a2) := of_decide_eq_false c14_f
  refine C_skip (X_then (hK12_ _ _ ?_))
  clear hK12_
  refine C_seq (fun K17_ hK17_ => ?_)
  refine C_seq (fun K18_ hK18_ => ?_)
  refine C_reg ?_
  refine S_list (T_val (v := (Value.pointer (some ⟨b2_, 3, none⟩))) (by kernel_rfl) ?_)
  refine S_list (T_val (v := v1) (x_load1 rfl Try.underlying80 rfl ((Holds.rd H9_ 1 rfl) 3 v1 rfl)) ?_)
  refine S_list (T_val (v := (Value.int .i64 ((List.length K1) : Int))) (x_lenRS rfl h1 Try.underlying80) ?_)
  refine S_list (T_val (v := (Value.pointer (some ⟨b7_, 3, none⟩))) (by kernel_rfl) ?_)
  refine S_list (T_val (v := v2) (x_load1 rfl Try.underlying80 rfl ((Holds.rd H9_ 0 rfl) 3 v2 rfl)) ?_)
  refine S_list (T_val (v := (Value.int .i64 ((List.length K2) : Int))) (x_lenRS rfl h2 Try.underlying80) ?_)
  refine S_list (T_val (v := (Value.bool (decide (((List.length K1) : Int) ≠ ((List.length K2) : Int))))) (x_bin rfl rfl rfl) ?_)
  refine wpList_nil ?_
  refine (X_then (hK18_ _ _ ?_))
  clear hK18_
  refine C_cond (b := decide (((List.length K1) : Int) ≠ ((List.length K2) : Int))) rfl (fun c19_t => ?_) (fun c19_f => ?_)
  ·have c19_tp : ((List.length K1) : Int) ≠ ((List.length K2) : Int) := of_decide_eq_true c19_t
   refine C_seq (fun K20_ hK20_ => ?_)
   refine C_reg ?_
   refine S_list (T_val (v := (Value.bool false)) (x_assign rfl) ?_)
   refine wpList_nil ?_
   refine (X_then (hK20_ _ _ ?_))
   clear hK20_
   refine C_ret (X_thenR ?_)
   refine R_any (v := (Value.bool false)) (run_results1 rfl rfl) ?_
   have H21_ : Holds w8_ (ro R :: F) := (Holds.pkF H9_ [2] 2 :)
   exact ⟨_, _, rfl, (.inr ⟨rfl, rfl, (fun e_ => by first | (simp_all; done) | exact map_nel (f := id) (l := K1) (m := K2) (by first | (simp_all; done) | (simp_all; omega)) (by rw [e_.2]))⟩), S11_, H21_⟩
  ·have c19_fp : ¬ (((List.length K1) : Int) ≠ ((List.length K2) : Int)) := of_decide_eq_false c19_f
   refine C_skip (X_then (hK17_ _ _ ?_))
   clear hK17_
   refine C_seq (fun K22_ hK22_ => ?_)
   refine C_seq (fun K23_ hK23_ => ?_)
   refine C_reg ?_
   refine S_list (T_val (v := (Value.pointer (some ⟨b2_, 3, none⟩))) (by kernel_rfl) ?_)
   refine S_list (T_val (v := v1) (x_load1 rfl Try.underlying80 rfl ((Holds.rd H9_ 1 rfl) 3 v1 rfl)) ?_)
   refine S_list (T_val (v := (Value.int .i64 ((List.length K1) : Int))) (x_lenRS rfl h1 Try.underlying80) ?_)
   refine S_list (T_val (v := (Value.int .i64 0)) (x_move rfl) ?_)
   refine wpList_nil ?_
   refine (X_then (hK23_ _ _ ?_))
   clear hK23_
   refine C_block ?_
   refine C_loop (γ := Nat × Bool) (fun x__ a__ w1__ => match x__ with | ⟨k, t4_v⟩ => ∃ h : Env, a__ = mkA 40 (upd (upd (upd (upd (upd h 2 (Value.pointer (some ⟨b2_, 0, none⟩))) 3 (Value.pointer (some ⟨b7_, 0, none⟩))) 4 (Value.bool t4_v)) 22 (Value.int .i64 ((List.length K1) : Int))) 23 (Value.int .i64 (k : Int))) [] ∧ Holds w1__ (cl b7_ 106 [(Value.int .i64 a2), (Value.int .i64 b2), (Value.int .i64 c2), v2] :: cl b2_ 106 [(Value.int .i64 a1), (Value.int .i64 b1), (Value.int .i64 c1), v1] :: ro R :: F) ∧ Same w w1__ ∧ (k ≤ K1.length) ∧ (K1.length = K2.length) ∧ (a1 = a2) ∧ ((K1.take k).map id = (K2.take k).map id)) (fun x__ => match x__ with | ⟨k, t4_v⟩ => K1.length - k) (⟨0, false⟩) ⟨_, congrArg (fun e => mkA 40 e []) (ch (ch (ch (ch (ch rfl rfl) rfl) rfl) rfl) (congrArg (Value.int .i64) ((by first | rfl | omega | (simp; done) | (simp; omega)) : 0 = (0 : Int)))), H9_, S11_, (by first | assumption | omega | exact rfl), (by first | assumption | omega | exact rfl), (by first | assumption | (simp_all; done) | (simp_all; omega)), (rfl)⟩ ?_
   rintro ⟨k, t4_v⟩ _ w24_ ⟨h, rfl, H25_, S26_, hk, hln, ha, hq⟩
   refine C_seq (fun K27_ hK27_ => ?_)
   refine C_reg ?_
   refine S_list (T_val (v := (Value.bool (decide ((k : Int) < ((List.length K1) : Int))))) (x_bin rfl rfl rfl) ?_)
   refine wpList_nil ?_
   refine (X_then (hK27_ _ _ ?_))
   clear hK27_
   refine C_seq (fun K28_ hK28_ => ?_)
   refine C_cond (b := decide ((k : Int) < ((List.length K1) : Int))) rfl (fun c29_t => ?_) (fun c29_f => ?_)
   ·have c29_tp : (k : Int) < ((List.length K1) : Int) := of_decide_eq_true c29_t
    refine C_skip (X_then (hK28_ _ _ ?_))
    clear hK28_
    refine C_seq (fun K30_ hK30_ => ?_)
    refine C_block ?_
    refine C_seq (fun K31_ hK31_ => ?_)
    refine C_reg ?_
    refine S_list (T_val (v := (Value.int .i64 (k : Int))) (x_move rfl) ?_)
    refine S_list (T_val (v := (Value.int .i64 (k : Int))) (x_assign rfl) ?_)
    refine wpList_nil ?_
    refine (X_then (hK31_ _ _ ?_))
    clear hK31_
    refine C_seq (fun K32_ hK32_ => ?_)
    refine A_start (S := fun w => Rd b7_ [(Value.int .i64 a2), (Value.int .i64 b2), (Value.int .i64 c2), v2] w ∧ Rd b2_ [(Value.int .i64 a1), (Value.int .i64 b1), (Value.int .i64 c1), v1] w ∧ Sub R (hp w)) (N := 14) foll rfl rfl ?_
    have H33_ := Holds.drew_ H25_
    have hq34_ := And.intro (Holds.rd H33_ 0 rfl) (And.intro (Holds.rd H33_ 1 rfl) ((Holds.ro_at H33_ 2 rfl)))
    refine A_tk 0 (v := (Value.pointer (some ⟨b2_, 3, none⟩))) rfl (by kernel_rfl) (fun w hS => by kernel_rfl) hq34_ ?_
    refine A_tk 1 (v := v1) rfl (by kernel_rfl) (fun w hS => x_load1 rfl Try.underlying80 rfl (hS.2.1 3 v1 rfl)) hq34_ ?_
    refine A_tk 2 (v := (Value.int .i64 (k : Int))) rfl (by kernel_rfl) (fun w hS => x_move rfl) hq34_ ?_
    obtain ⟨x35_, hx36_, hm37_⟩ := elem_at K1 k (by omega)
    refine A_tk 3 (v := (Value.pointer (some ⟨(sb v1), so v1 + (k * 2 + 0), none⟩))) rfl (by kernel_rfl) (fun w hS => x_idxRS (v := v1) rfl h1 rfl Try.underlying80 z58 (by omega) (by omega) (by omega : _ = k) rfl) hq34_ ?_
    refine A_tk 4 (v := (Value.agg #[(Value.int .i64 x35_.main), (Value.int .i64 x35_.sub)])) rfl (by kernel_rfl) (fun w hS => x_loadN (vs := [(Value.int .i64 x35_.main), (Value.int .i64 x35_.sub)]) rfl Try.underlying58 rfl z58 rfl (RC.cells (RS.rc h1) hS.2.2 (k * 2 + 0) (fm_cells RV.len hx36_ (i := 0) rfl))) hq34_ ?_
    refine A_tk 5 (v := (Value.pointer (some ⟨b7_, 3, none⟩))) rfl (by kernel_rfl) (fun w hS => by kernel_rfl) hq34_ ?_
    refine A_tk 6 (v := v2) rfl (by kernel_rfl) (fun w hS => x_load1 rfl Try.underlying80 rfl (hS.1 3 v2 rfl)) hq34_ ?_
    refine A_tk 7 (v := (Value.int .i64 (k : Int))) rfl (by kernel_rfl) (fun w hS => x_move rfl) hq34_ ?_
    obtain ⟨x38_, hx39_, hm40_⟩ := elem_at K2 k (by omega)
    refine A_tk 8 (v := (Value.pointer (some ⟨(sb v2), so v2 + (k * 2 + 0), none⟩))) rfl (by kernel_rfl) (fun w hS => x_idxRS (v := v2) rfl h2 rfl Try.underlying80 z58 (by omega) (by omega) (by omega : _ = k) rfl) hq34_ ?_
    refine A_tk 9 (v := (Value.agg #[(Value.int .i64 x38_.main), (Value.int .i64 x38_.sub)])) rfl (by kernel_rfl) (fun w hS => x_loadN (vs := [(Value.int .i64 x38_.main), (Value.int .i64 x38_.sub)]) rfl Try.underlying58 rfl z58 rfl (RC.cells (RS.rc h2) hS.2.2 (k * 2 + 0) (fm_cells RV.len hx39_ (i := 0) rfl))) hq34_ ?_
    refine A_ready (i := 10) (rs := [11]) (by kernel_rfl) ?_
    refine AllR.cons ?_ ?_
    ·skip
     refine A_op (ls' := #[true, true, true, true, true, true, true, true, true, true, true, false, false, false]) rfl (by kernel_rfl) (T_alloc z58 H33_ ?_)
     intro b41_ w42_ S44_ H43_
     have S45_ := Same.trans (Same.trans S26_ (Same.drew _)) S44_
     refine ⟨⟨Holds.rd H43_ 1 rfl, Holds.rd H43_ 2 rfl, (Holds.ro_at H43_ 3 rfl)⟩, ?_⟩
     refine A_ready (i := 11) (rs := []) (by kernel_rfl) ?_
     refine AllR.cons ?_ AllR.nil
     refine A_op (ls' := #[true, true, true, true, true, true, true, true, true, true, true, true, false, false]) rfl (by kernel_rfl) (T_alloc z58 H43_ ?_)
     intro b46_ w47_ S49_ H48_
     have S50_ := Same.trans S45_ S49_
     refine ⟨⟨Holds.rd H48_ 2 rfl, Holds.rd H48_ 3 rfl, (Holds.ro_at H48_ 4 rfl)⟩, ?_⟩
     refine A_ready (i := 12) (rs := []) (by kernel_rfl) ?_
     refine AllR.cons ?_ AllR.nil
     refine A_op0 (ls' := #[true, true, true, true, true, true, true, true, true, true, true, true, true, false]) rfl (by kernel_rfl) (T_storeN (vs := [(Value.int .i64 x35_.main), (Value.int .i64 x35_.sub)]) rfl rfl z58 rfl (by simp [Value.oneCell']) H48_ 1 rfl (Nat.le_of_ble_eq_true (by rfl)) ?_)
     intro w51_ S53_ H52_
     replace H52_ : Holds w51_ (cl b46_ 58 [(Value.int .i64 0), (Value.int .i64 0)] :: cl b41_ 58 [(Value.int .i64 x35_.main), (Value.int .i64 x35_.sub)] :: cl b7_ 106 [(Value.int .i64 a2), (Value.int .i64 b2), (Value.int .i64 c2), v2] :: cl b2_ 106 [(Value.int .i64 a1), (Value.int .i64 b1), (Value.int .i64 c1), v1] :: ro R :: F) := H52_
     have S54_ := Same.trans S50_ S53_
     refine ⟨⟨Holds.rd H52_ 2 rfl, Holds.rd H52_ 3 rfl, (Holds.ro_at H52_ 4 rfl)⟩, ?_⟩
     refine A_ready (i := 13) (rs := []) (by kernel_rfl) ?_
     refine AllR.cons ?_ AllR.nil
     refine A_op0 (ls' := #[true, true, true, true, true, true, true, true, true, true, true, true, true, true]) rfl (by kernel_rfl) (T_storeN (vs := [(Value.int .i64 x38_.main), (Value.int .i64 x38_.sub)]) rfl rfl z58 rfl (by simp [Value.oneCell']) H52_ 0 rfl (Nat.le_of_ble_eq_true (by rfl)) ?_)
     intro w55_ S57_ H56_
     have S58_ := Same.trans S54_ S57_
     refine ⟨⟨Holds.rd H56_ 2 rfl, Holds.rd H56_ 3 rfl, (Holds.ro_at H56_ 4 rfl)⟩, ?_⟩
     refine A_done (by kernel_rfl) ?_
     refine (X_then (hK32_ _ _ ?_))
     clear hK32_
     refine C_seq (fun K59_ hK59_ => ?_)
     refine C_reg ?_
     refine S_list (T_val (v := (Value.agg #[(Value.int .i64 x35_.main), (Value.int .i64 x35_.sub)])) (x_loadN (vs := [(Value.int .i64 x35_.main), (Value.int .i64 x35_.sub)]) rfl Try.underlying58 rfl z58 rfl (Rd.cells (Holds.rd H56_ 1 rfl) 0 rfl)) ?_)
     refine S_list (T_val (v := (Value.agg #[(Value.int .i64 x38_.main), (Value.int .i64 x38_.sub)])) (x_loadN (vs := [(Value.int .i64 x38_.main), (Value.int .i64 x38_.sub)]) rfl Try.underlying58 rfl z58 rfl (Rd.cells (Holds.rd H56_ 0 rfl) 0 rfl)) ?_)
     refine S_list (T_val (v := (Value.bool (!((decide (x35_.main = x38_.main)) && ((decide (x35_.sub = x38_.sub)) && (true)))))) (x_neqS rfl rfl (by kernel_rfl) (eq_struct Try.underlying58 (by kernel_rfl) (eqf_cons rfl (run_part1 Try.underlying2 rfl rfl) (run_part1 Try.underlying2 rfl rfl) (eq_int Try.underlying2) (eqf_cons rfl (run_part1 Try.underlying2 rfl rfl) (run_part1 Try.underlying2 rfl rfl) (eq_int Try.underlying2) (eqf_nil))))) ?_)
     refine wpList_nil ?_
     refine (X_then (hK59_ _ _ ?_))
     clear hK59_
     refine C_cond (b := !((decide (x35_.main = x38_.main)) && ((decide (x35_.sub = x38_.sub)) && (true)))) rfl (fun c60_t => ?_) (fun c60_f => ?_)
     ·skip
      refine C_seq (fun K61_ hK61_ => ?_)
      refine C_reg ?_
      refine S_list (T_val (v := (Value.bool false)) (x_assign rfl) ?_)
      refine wpList_nil ?_
      refine (X_then (hK61_ _ _ ?_))
      clear hK61_
      refine C_ret (X_blkR (X_thenR (X_thenR (X_blkR (X_thenR ?_)))))
      refine R_any (v := (Value.bool false)) (run_results1 rfl rfl) ?_
      have H62_ : Holds w55_ (ro R :: F) := (Holds.pkF H56_ [4] 4 :)
      exact ⟨_, _, rfl, (.inr ⟨rfl, rfl, (fun e_ => map_ne (f := id) hx36_ hx39_ (rv_ne (by first | (simp_all; done) | (simp_all; omega))) (by rw [e_.2]))⟩), S58_, H62_⟩
     ·skip
      refine C_skip (X_blkN (X_then (hK30_ _ _ ?_)))
      clear hK30_
      refine C_reg ?_
      refine S_list (T_val (v := (Value.int .i64 ((k : Int) + 1))) (x_bin rfl rfl (ib_add (IntWalk.i64_in _ (by omega)))) ?_)
      refine S_list (T_val (v := (Value.int .i64 ((k : Int) + 1))) (x_move rfl) ?_)
      refine wpList_nil ?_
      refine (X_then ?_)
      have H63_ : Holds w55_ (cl b7_ 106 [(Value.int .i64 a2), (Value.int .i64 b2), (Value.int .i64 c2), v2] :: cl b2_ 106 [(Value.int .i64 a1), (Value.int .i64 b1), (Value.int .i64 c1), v1] :: ro R :: F) := (Holds.pkF H56_ [2, 2, 2] 2 :)
      exact ⟨⟨k + 1, t4_v⟩, ⟨_, congrArg (fun e => mkA 40 e []) (ch (ch (ch (ch (ch rfl rfl) rfl) rfl) rfl) (congrArg (Value.int .i64) ((by first | rfl | omega | (simp; done) | (simp; omega)) : (k : Int) + 1 = ((k + 1 : Nat) : Int)))), H63_, S58_, (by first | assumption | omega | exact rfl), (by first | assumption | omega | exact rfl), (by first | assumption | omega | exact rfl), (map_snoc hq hx36_ hx39_ (rv_eq (by first | (simp_all; done) | (simp_all; omega))))⟩, by first | omega | (dsimp only; omega) | (simp; omega)⟩
    refine AllR.cons ?_ AllR.nil
    refine A_op (ls' := #[true, true, true, true, true, true, true, true, true, true, false, true, false, false]) rfl (by kernel_rfl) (T_alloc z58 H33_ ?_)
    intro b64_ w65_ S67_ H66_
    have S68_ := Same.trans (Same.trans S26_ (Same.drew _)) S67_
    refine ⟨⟨Holds.rd H66_ 1 rfl, Holds.rd H66_ 2 rfl, (Holds.ro_at H66_ 3 rfl)⟩, ?_⟩
    refine A_ready (i := 10) (rs := []) (by kernel_rfl) ?_
    refine AllR.cons ?_ AllR.nil
    refine A_op (ls' := #[true, true, true, true, true, true, true, true, true, true, true, true, false, false]) rfl (by kernel_rfl) (T_alloc z58 H66_ ?_)
    intro b69_ w70_ S72_ H71_
    have S73_ := Same.trans S68_ S72_
    refine ⟨⟨Holds.rd H71_ 2 rfl, Holds.rd H71_ 3 rfl, (Holds.ro_at H71_ 4 rfl)⟩, ?_⟩
    refine A_ready (i := 12) (rs := []) (by kernel_rfl) ?_
    refine AllR.cons ?_ AllR.nil
    refine A_op0 (ls' := #[true, true, true, true, true, true, true, true, true, true, true, true, true, false]) rfl (by kernel_rfl) (T_storeN (vs := [(Value.int .i64 x35_.main), (Value.int .i64 x35_.sub)]) rfl rfl z58 rfl (by simp [Value.oneCell']) H71_ 0 rfl (Nat.le_of_ble_eq_true (by rfl)) ?_)
    intro w74_ S76_ H75_
    replace H75_ : Holds w74_ (cl b69_ 58 [(Value.int .i64 x35_.main), (Value.int .i64 x35_.sub)] :: cl b64_ 58 [(Value.int .i64 0), (Value.int .i64 0)] :: cl b7_ 106 [(Value.int .i64 a2), (Value.int .i64 b2), (Value.int .i64 c2), v2] :: cl b2_ 106 [(Value.int .i64 a1), (Value.int .i64 b1), (Value.int .i64 c1), v1] :: ro R :: F) := H75_
    have S77_ := Same.trans S73_ S76_
    refine ⟨⟨Holds.rd H75_ 2 rfl, Holds.rd H75_ 3 rfl, (Holds.ro_at H75_ 4 rfl)⟩, ?_⟩
    refine A_ready (i := 13) (rs := []) (by kernel_rfl) ?_
    refine AllR.cons ?_ AllR.nil
    refine A_op0 (ls' := #[true, true, true, true, true, true, true, true, true, true, true, true, true, true]) rfl (by kernel_rfl) (T_storeN (vs := [(Value.int .i64 x38_.main), (Value.int .i64 x38_.sub)]) rfl rfl z58 rfl (by simp [Value.oneCell']) H75_ 1 rfl (Nat.le_of_ble_eq_true (by rfl)) ?_)
    intro w78_ S80_ H79_
    have S81_ := Same.trans S77_ S80_
    refine ⟨⟨Holds.rd H79_ 2 rfl, Holds.rd H79_ 3 rfl, (Holds.ro_at H79_ 4 rfl)⟩, ?_⟩
    refine A_done (by kernel_rfl) ?_
    refine (X_then (hK32_ _ _ ?_))
    clear hK32_
    refine C_seq (fun K82_ hK82_ => ?_)
    refine C_reg ?_
    refine S_list (T_val (v := (Value.agg #[(Value.int .i64 x35_.main), (Value.int .i64 x35_.sub)])) (x_loadN (vs := [(Value.int .i64 x35_.main), (Value.int .i64 x35_.sub)]) rfl Try.underlying58 rfl z58 rfl (Rd.cells (Holds.rd H79_ 0 rfl) 0 rfl)) ?_)
    refine S_list (T_val (v := (Value.agg #[(Value.int .i64 x38_.main), (Value.int .i64 x38_.sub)])) (x_loadN (vs := [(Value.int .i64 x38_.main), (Value.int .i64 x38_.sub)]) rfl Try.underlying58 rfl z58 rfl (Rd.cells (Holds.rd H79_ 1 rfl) 0 rfl)) ?_)
    refine S_list (T_val (v := (Value.bool (!((decide (x35_.main = x38_.main)) && ((decide (x35_.sub = x38_.sub)) && (true)))))) (x_neqS rfl rfl (by kernel_rfl) (eq_struct Try.underlying58 (by kernel_rfl) (eqf_cons rfl (run_part1 Try.underlying2 rfl rfl) (run_part1 Try.underlying2 rfl rfl) (eq_int Try.underlying2) (eqf_cons rfl (run_part1 Try.underlying2 rfl rfl) (run_part1 Try.underlying2 rfl rfl) (eq_int Try.underlying2) (eqf_nil))))) ?_)
    refine wpList_nil ?_
    refine (X_then (hK82_ _ _ ?_))
    clear hK82_
    refine C_cond (b := !((decide (x35_.main = x38_.main)) && ((decide (x35_.sub = x38_.sub)) && (true)))) rfl (fun c83_t => ?_) (fun c83_f => ?_)
    ·skip
     refine C_seq (fun K84_ hK84_ => ?_)
     refine C_reg ?_
     refine S_list (T_val (v := (Value.bool false)) (x_assign rfl) ?_)
     refine wpList_nil ?_
     refine (X_then (hK84_ _ _ ?_))
     clear hK84_
     refine C_ret (X_blkR (X_thenR (X_thenR (X_blkR (X_thenR ?_)))))
     refine R_any (v := (Value.bool false)) (run_results1 rfl rfl) ?_
     have H85_ : Holds w78_ (ro R :: F) := (Holds.pkF H79_ [4] 4 :)
     exact ⟨_, _, rfl, (.inr ⟨rfl, rfl, (fun e_ => map_ne (f := id) hx36_ hx39_ (rv_ne (by first | (simp_all; done) | (simp_all; omega))) (by rw [e_.2]))⟩), S81_, H85_⟩
    ·skip
     refine C_skip (X_blkN (X_then (hK30_ _ _ ?_)))
     clear hK30_
     refine C_reg ?_
     refine S_list (T_val (v := (Value.int .i64 ((k : Int) + 1))) (x_bin rfl rfl (ib_add (IntWalk.i64_in _ (by omega)))) ?_)
     refine S_list (T_val (v := (Value.int .i64 ((k : Int) + 1))) (x_move rfl) ?_)
     refine wpList_nil ?_
     refine (X_then ?_)
     have H86_ : Holds w78_ (cl b7_ 106 [(Value.int .i64 a2), (Value.int .i64 b2), (Value.int .i64 c2), v2] :: cl b2_ 106 [(Value.int .i64 a1), (Value.int .i64 b1), (Value.int .i64 c1), v1] :: ro R :: F) := (Holds.pkF H79_ [2, 2, 2] 2 :)
     exact ⟨⟨k + 1, t4_v⟩, ⟨_, congrArg (fun e => mkA 40 e []) (ch (ch (ch (ch (ch rfl rfl) rfl) rfl) rfl) (congrArg (Value.int .i64) ((by first | rfl | omega | (simp; done) | (simp; omega)) : (k : Int) + 1 = ((k + 1 : Nat) : Int)))), H86_, S81_, (by first | assumption | omega | exact rfl), (by first | assumption | omega | exact rfl), (by first | assumption | omega | exact rfl), (map_snoc hq hx36_ hx39_ (rv_eq (by first | (simp_all; done) | (simp_all; omega))))⟩, by first | omega | (dsimp only; omega) | (simp; omega)⟩
   ·have c29_fp : ¬ ((k : Int) < ((List.length K1) : Int)) := of_decide_eq_false c29_f
    refine C_exit (X_thenX (X_thenX (X_blkHit ?_)))
    refine (X_then (hK22_ _ _ ?_))
    clear hK22_
    refine C_seq (fun K87_ hK87_ => ?_)
    refine C_reg ?_
    refine S_list (T_val (v := (Value.bool true)) (x_assign rfl) ?_)
    refine wpList_nil ?_
    refine (X_then (hK87_ _ _ ?_))
    clear hK87_
    refine C_ret ?_
    refine R_any (v := (Value.bool true)) (run_results1 rfl rfl) ?_
    have H88_ : Holds w24_ (ro R :: F) := (Holds.pkF H25_ [2] 2 :)
    exact ⟨_, _, rfl, (.inl ⟨rfl, rfl, (⟨by first | assumption | (simp_all; done) | (simp_all; omega), by have e_ := map_all (f := id) hq (by omega) (by omega); simpa using e_⟩)⟩), S26_, H88_⟩
end Go.Proofs.Ytiblemgccgbhoaa
