/- How many requests there are. -/
import Derived.Test.YtlnihndjepjagaaCkA0
set_option linter.unusedVariables false
set_option linter.unusedSimpArgs false
namespace Go.Proofs.Ytlnihndjepjagaa
open Go Go.RowKit Gw

set_option maxHeartbeats 2000000 in
theorem ckManyL_step (R : HP) (v : Value) (L : List RT) (deep : Nat) (n__ : Nat) (hL : RS R 21 v (List.length L) (L.flatMap RT.cells)) (hR : RAts R L) (hl : L.length ≤ 1000000000000000) (hd : deep ≤ 10) (hn__ : (lsz L) ≤ n__) (ih : ∀ (R : HP) (v : Value) (L : List RT) (deep : Nat) (hL : RS R 21 v (List.length L) (L.flatMap RT.cells)) (hR : RAts R L) (hl : L.length ≤ 1000000000000000) (hd : deep ≤ 10) (hms : (lsz L) < n__), Tri Try.prog 38 #[v, (Value.int .i64 (deep : Int))] R [] (fun v__ post__ => v__ = (Value.int .i64 (manyL L deep 0)) ∧ post__ = [])) :
    Tri Try.prog 38 #[v, (Value.int .i64 (deep : Int))] R [] (fun v__ post__ => v__ = (Value.int .i64 (manyL L deep 0)) ∧ post__ = []) := by
 refine Tri.into (n := 69) (al := [v, (Value.int .i64 (deep : Int))]) Try.func38 rfl Try.ntmps38 rfl rfl fun w F H => ?_
 refine C_seq (fun K1_ hK1_ => ?_)
 refine C_reg ?_
 refine S_list (T_val (v := (Value.int .i64 0)) (x_assign rfl) ?_)
 refine wpList_nil ?_
 refine (X_then (hK1_ _ _ ?_))
 clear hK1_
 refine C_seq (fun K2_ hK2_ => ?_)
 refine C_reg ?_
 refine S_list (T_val (v := (Value.int .i64 0)) (x_assign rfl) ?_)
 refine wpList_nil ?_
 refine (X_then (hK2_ _ _ ?_))
 clear hK2_
 refine C_seq (fun K3_ hK3_ => ?_)
 refine C_seq (fun K4_ hK4_ => ?_)
 refine C_reg ?_
 refine S_list (T_val (v := v) (x_move rfl) ?_)
 refine S_list (T_val (v := (Value.int .i64 ((List.length L) : Int))) (x_lenRS rfl hL Try.underlying23) ?_)
 refine S_list (T_val (v := (Value.int .i64 0)) (x_move rfl) ?_)
 refine wpList_nil ?_
 refine (X_then (hK4_ _ _ ?_))
 clear hK4_
 refine C_block ?_
 refine C_loop (γ := Nat × Int × Int) (fun x__ a__ w1__ => match x__ with | ⟨k, n, t4_v⟩ => ∃ h : Env, a__ = mkA 69 (upd (upd (upd (upd (upd (upd h 1 (Value.int .i64 (deep : Int))) 4 (Value.int .i64 t4_v)) 5 (Value.int .i64 n)) 10 v) 11 (Value.int .i64 ((List.length L) : Int))) 12 (Value.int .i64 (k : Int))) [] ∧ Holds w1__ (ro R :: F) ∧ Same w w1__ ∧ (k ≤ L.length) ∧ (0 ≤ n ∧ n ≤ 200 + k) ∧ (manyL L deep 0 = manyL (L.drop k) deep n)) (fun x__ => match x__ with | ⟨k, n, t4_v⟩ => L.length - k) (⟨0, 0, 0⟩) ⟨_, congrArg (fun e => mkA 69 e []) (ch (ch (ch (ch (ch (ch rfl rfl) rfl) rfl) rfl) rfl) (congrArg (Value.int .i64) ((by first | rfl | omega | (simp; done) | (simp; omega)) : 0 = (0 : Int)))), H, (Same.refl w), (by first | assumption | omega | exact rfl), (by first | assumption | omega | exact rfl), (by rw [List.drop_zero])⟩ ?_
 rintro ⟨k, n, t4_v⟩ _ w5_ ⟨h, rfl, H6_, S7_, hk, hn, hin⟩
 refine C_seq (fun K8_ hK8_ => ?_)
 refine C_reg ?_
 refine S_list (T_val (v := (Value.bool (decide ((k : Int) < ((List.length L) : Int))))) (x_bin rfl rfl rfl) ?_)
 refine wpList_nil ?_
 refine (X_then (hK8_ _ _ ?_))
 clear hK8_
 refine C_seq (fun K9_ hK9_ => ?_)
 refine C_cond (b := decide ((k : Int) < ((List.length L) : Int))) rfl (fun c10_t => ?_) (fun c10_f => ?_)
 ·have c10_tp : (k : Int) < ((List.length L) : Int) := of_decide_eq_true c10_t
  refine C_skip (X_then (hK9_ _ _ ?_))
  clear hK9_
  refine C_seq (fun K11_ hK11_ => ?_)
  refine C_block ?_
  refine C_seq (fun K12_ hK12_ => ?_)
  refine C_reg ?_
  obtain ⟨x13_, hx14_, hm15_⟩ := elem_at L k (by omega)
  have hra16_ := hR x13_ hm15_
  have := hra16_.b
  have := RT.sz_mem hm15_
  have := RT.sz_tt x13_
  have := RT.sz_ee x13_
  refine S_list (T_val (v := (Value.pointer (some ⟨(sb v), so v + (k * 21 + 0), none⟩))) (x_idxRS (v := v) rfl hL rfl Try.underlying23 z25 (by omega) (by omega) (by omega : _ = k) rfl) ?_)
  refine S_list (T_val (v := (Value.agg #[(Value.int .i64 x13_.q.kind), (Value.string x13_.q.key), (Value.string x13_.q.end_), (Value.string x13_.q.value), (Value.int .i64 x13_.q.lease), (Value.int .i64 x13_.q.rev), (Value.int .i64 x13_.q.limit), (Value.int .i64 x13_.q.sortOrder), (Value.int .i64 x13_.q.sortTarget), (Value.int .i64 x13_.q.minMod), (Value.int .i64 x13_.q.maxMod), (Value.int .i64 x13_.q.minCreate), (Value.int .i64 x13_.q.maxCreate), (Value.bool x13_.q.keysOnly), (Value.bool x13_.q.countOnly), (Value.bool x13_.q.prev), (Value.bool x13_.q.ignoreValue), (Value.bool x13_.q.ignoreLease), x13_.q.cmps, x13_.q.then_, x13_.q.else_])) (x_loadN (vs := [(Value.int .i64 x13_.q.kind), (Value.string x13_.q.key), (Value.string x13_.q.end_), (Value.string x13_.q.value), (Value.int .i64 x13_.q.lease), (Value.int .i64 x13_.q.rev), (Value.int .i64 x13_.q.limit), (Value.int .i64 x13_.q.sortOrder), (Value.int .i64 x13_.q.sortTarget), (Value.int .i64 x13_.q.minMod), (Value.int .i64 x13_.q.maxMod), (Value.int .i64 x13_.q.minCreate), (Value.int .i64 x13_.q.maxCreate), (Value.bool x13_.q.keysOnly), (Value.bool x13_.q.countOnly), (Value.bool x13_.q.prev), (Value.bool x13_.q.ignoreValue), (Value.bool x13_.q.ignoreLease), x13_.q.cmps, x13_.q.then_, x13_.q.else_]) rfl Try.underlying25 rfl z25 rfl (RC.cells (RS.rc hL) (Holds.ro_at H6_ 0 rfl) (k * 21 + 0) (fm_cells RT.len hx14_ (i := 0) rfl))) ?_)
  refine S_list (T_alloc z25 H6_ ?_)
  intro b17_ w18_ S20_ H19_
  have S21_ := Same.trans S7_ S20_
  refine S_list0 (T_storeN (vs := [(Value.int .i64 x13_.q.kind), (Value.string x13_.q.key), (Value.string x13_.q.end_), (Value.string x13_.q.value), (Value.int .i64 x13_.q.lease), (Value.int .i64 x13_.q.rev), (Value.int .i64 x13_.q.limit), (Value.int .i64 x13_.q.sortOrder), (Value.int .i64 x13_.q.sortTarget), (Value.int .i64 x13_.q.minMod), (Value.int .i64 x13_.q.maxMod), (Value.int .i64 x13_.q.minCreate), (Value.int .i64 x13_.q.maxCreate), (Value.bool x13_.q.keysOnly), (Value.bool x13_.q.countOnly), (Value.bool x13_.q.prev), (Value.bool x13_.q.ignoreValue), (Value.bool x13_.q.ignoreLease), x13_.q.cmps, x13_.q.then_, x13_.q.else_]) rfl rfl z25 rfl (List.forall_mem_cons.2 ⟨rfl, (List.forall_mem_cons.2 ⟨rfl, (List.forall_mem_cons.2 ⟨rfl, (List.forall_mem_cons.2 ⟨rfl, (List.forall_mem_cons.2 ⟨rfl, (List.forall_mem_cons.2 ⟨rfl, (List.forall_mem_cons.2 ⟨rfl, (List.forall_mem_cons.2 ⟨rfl, (List.forall_mem_cons.2 ⟨rfl, (List.forall_mem_cons.2 ⟨rfl, (List.forall_mem_cons.2 ⟨rfl, (List.forall_mem_cons.2 ⟨rfl, (List.forall_mem_cons.2 ⟨rfl, (List.forall_mem_cons.2 ⟨rfl, (List.forall_mem_cons.2 ⟨rfl, (List.forall_mem_cons.2 ⟨rfl, (List.forall_mem_cons.2 ⟨rfl, (List.forall_mem_cons.2 ⟨rfl, (List.forall_mem_cons.2 ⟨(RS.one (hra16_.c)), (List.forall_mem_cons.2 ⟨(RS.one (hra16_.t)), (List.forall_mem_cons.2 ⟨(RS.one (hra16_.e)), (fun _ h__ => by cases h__)⟩)⟩)⟩)⟩)⟩)⟩)⟩)⟩)⟩)⟩)⟩)⟩)⟩)⟩)⟩)⟩)⟩)⟩)⟩)⟩)⟩) H19_ 0 rfl (Nat.le_of_ble_eq_true (by rfl)) ?_)
  intro w22_ S24_ H23_
  replace H23_ : Holds w22_ (cl b17_ 25 [(Value.int .i64 x13_.q.kind), (Value.string x13_.q.key), (Value.string x13_.q.end_), (Value.string x13_.q.value), (Value.int .i64 x13_.q.lease), (Value.int .i64 x13_.q.rev), (Value.int .i64 x13_.q.limit), (Value.int .i64 x13_.q.sortOrder), (Value.int .i64 x13_.q.sortTarget), (Value.int .i64 x13_.q.minMod), (Value.int .i64 x13_.q.maxMod), (Value.int .i64 x13_.q.minCreate), (Value.int .i64 x13_.q.maxCreate), (Value.bool x13_.q.keysOnly), (Value.bool x13_.q.countOnly), (Value.bool x13_.q.prev), (Value.bool x13_.q.ignoreValue), (Value.bool x13_.q.ignoreLease), x13_.q.cmps, x13_.q.then_, x13_.q.else_] :: ro R :: F) := H23_
  have S25_ := Same.trans S21_ S24_
  refine wpList_nil ?_
  refine (X_then (hK12_ _ _ ?_))
  clear hK12_
  refine C_seq (fun K26_ hK26_ => ?_)
  refine C_reg ?_
  refine S_list (T_val (v := (Value.int .i64 n)) (x_move rfl) ?_)
  refine S_list (T_val (v := (Value.int .i64 (n + 1))) (x_bin rfl rfl (ib_add (IntWalk.i64_in _ (by omega)))) ?_)
  refine S_list (T_val (v := (Value.int .i64 (n + 1))) (x_assign rfl) ?_)
  refine wpList_nil ?_
  refine (X_then (hK26_ _ _ ?_))
  clear hK26_
  refine C_seq (fun K27_ hK27_ => ?_)
  refine C_seq (fun K28_ hK28_ => ?_)
  refine C_reg ?_
  refine S_list (T_val (v := (Value.pointer (some ⟨b17_, 0, none⟩))) (by kernel_rfl) ?_)
  refine S_list (T_val (v := (Value.int .i64 x13_.q.kind)) (x_load1 rfl Try.underlying3 rfl ((Holds.rd H23_ 0 rfl) 0 (Value.int .i64 x13_.q.kind) rfl)) ?_)
  refine S_list (T_val (v := (Value.bool (decide (x13_.q.kind < 1)))) (x_bin rfl rfl rfl) ?_)
  refine S_list (T_val (v := (Value.bool (decide (x13_.q.kind < 1)))) (x_move rfl) ?_)
  rcases Bool.eq_false_or_eq_true (decide (x13_.q.kind < 1)) with c29_t | c29_f
  ·have c29_tp : x13_.q.kind < 1 := of_decide_eq_true c29_t
   refine S_no (j := 3) (dj := 21) (b := true) rfl rfl (congrArg Value.bool c29_t) (by decide) ?_
   refine S_no (j := 3) (dj := 21) (b := true) rfl rfl (congrArg Value.bool c29_t) (by decide) ?_
   refine S_no (j := 3) (dj := 21) (b := true) rfl rfl (congrArg Value.bool c29_t) (by decide) ?_
   refine S_list (T_pickT (v := (Value.bool true)) (congrArg Value.bool c29_t) rfl ?_)
   refine S_list (T_val (v := (Value.bool true)) (x_move rfl) ?_)
   refine S_no (j := 8) (dj := 26) (b := true) rfl rfl rfl (by decide) ?_
   refine S_no (j := 8) (dj := 26) (b := true) rfl rfl rfl (by decide) ?_
   refine S_no (j := 8) (dj := 26) (b := true) rfl rfl rfl (by decide) ?_
   refine S_no (j := 8) (dj := 26) (b := true) rfl rfl rfl (by decide) ?_
   refine S_noU (j := 12) (dj := 30) rfl rfl rfl ?_
   refine S_noU (j := 12) (dj := 30) rfl rfl rfl ?_
   refine S_no (j := 8) (dj := 26) (b := true) rfl rfl rfl (by decide) ?_
   refine S_list (T_pickT (v := (Value.bool true)) rfl rfl ?_)
   refine wpList_nil ?_
   refine (X_then (hK28_ _ _ ?_))
   clear hK28_
   refine C_condT rfl ?_
   refine C_seq (fun K30_ hK30_ => ?_)
   refine C_reg ?_
   refine S_list (T_val (v := (Value.int .i64 (-1))) (x_assign rfl) ?_)
   refine wpList_nil ?_
   refine (X_then (hK30_ _ _ ?_))
   clear hK30_
   refine C_ret (X_thenR (X_blkR (X_thenR (X_thenR (X_blkR (X_thenR ?_))))))
   refine R_any (v := (Value.int .i64 (-1))) (run_results1 rfl rfl) ?_
   have H31_ : Holds w22_ (ro R :: F) := (Holds.pkF H23_ [1] 1 :)
   exact ⟨_, _, rfl, ⟨(congrArg (Value.int .i64) ((by rw [hin, many_bad hx14_ (by rw [manyT_def]; first | exact if_pos (by omega) | (rw [if_neg (by omega), if_neg (by omega)]; exact if_pos (by omega)))]) : -1 = manyL L deep 0)), rfl⟩, S25_, H31_⟩
  ·have c29_fp : ¬ (x13_.q.kind < 1) := of_decide_eq_false c29_f
   refine S_yes (j := 3) (dj := 21) (b := false) rfl rfl (congrArg Value.bool c29_f) (T_val (v := (Value.pointer (some ⟨b17_, 0, none⟩))) (by kernel_rfl) ?_)
   refine S_yes (j := 3) (dj := 21) (b := false) rfl rfl (congrArg Value.bool c29_f) (T_val (v := (Value.int .i64 x13_.q.kind)) (x_load1 rfl Try.underlying3 rfl ((Holds.rd H23_ 0 rfl) 0 (Value.int .i64 x13_.q.kind) rfl)) ?_)
   refine S_yes (j := 3) (dj := 21) (b := false) rfl rfl (congrArg Value.bool c29_f) (T_val (v := (Value.bool (decide (4 < x13_.q.kind)))) (x_bin rfl rfl rfl) ?_)
   refine S_list (T_pickF (v := (Value.bool (decide (4 < x13_.q.kind)))) (congrArg Value.bool c29_f) rfl ?_)
   refine S_list (T_val (v := (Value.bool (decide (4 < x13_.q.kind)))) (x_move rfl) ?_)
   rcases Bool.eq_false_or_eq_true (decide (4 < x13_.q.kind)) with c32_t | c32_f
   ·have c32_tp : 4 < x13_.q.kind := of_decide_eq_true c32_t
    refine S_no (j := 8) (dj := 26) (b := true) rfl rfl (congrArg Value.bool c32_t) (by decide) ?_
    refine S_no (j := 8) (dj := 26) (b := true) rfl rfl (congrArg Value.bool c32_t) (by decide) ?_
    refine S_no (j := 8) (dj := 26) (b := true) rfl rfl (congrArg Value.bool c32_t) (by decide) ?_
    refine S_no (j := 8) (dj := 26) (b := true) rfl rfl (congrArg Value.bool c32_t) (by decide) ?_
    refine S_noU (j := 12) (dj := 30) rfl rfl rfl ?_
    refine S_noU (j := 12) (dj := 30) rfl rfl rfl ?_
    refine S_no (j := 8) (dj := 26) (b := true) rfl rfl (congrArg Value.bool c32_t) (by decide) ?_
    refine S_list (T_pickT (v := (Value.bool true)) (congrArg Value.bool c32_t) rfl ?_)
    refine wpList_nil ?_
    refine (X_then (hK28_ _ _ ?_))
    clear hK28_
    refine C_condT rfl ?_
    refine C_seq (fun K33_ hK33_ => ?_)
    refine C_reg ?_
    refine S_list (T_val (v := (Value.int .i64 (-1))) (x_assign rfl) ?_)
    refine wpList_nil ?_
    refine (X_then (hK33_ _ _ ?_))
    clear hK33_
    refine C_ret (X_thenR (X_blkR (X_thenR (X_thenR (X_blkR (X_thenR ?_))))))
    refine R_any (v := (Value.int .i64 (-1))) (run_results1 rfl rfl) ?_
    have H34_ : Holds w22_ (ro R :: F) := (Holds.pkF H23_ [1] 1 :)
    exact ⟨_, _, rfl, ⟨(congrArg (Value.int .i64) ((by rw [hin, many_bad hx14_ (by rw [manyT_def]; first | exact if_pos (by omega) | (rw [if_neg (by omega), if_neg (by omega)]; exact if_pos (by omega)))]) : -1 = manyL L deep 0)), rfl⟩, S25_, H34_⟩
   ·have c32_fp : ¬ (4 < x13_.q.kind) := of_decide_eq_false c32_f
    refine S_yes (j := 8) (dj := 26) (b := false) rfl rfl (congrArg Value.bool c32_f) (T_val (v := (Value.pointer (some ⟨b17_, 0, none⟩))) (by kernel_rfl) ?_)
    refine S_yes (j := 8) (dj := 26) (b := false) rfl rfl (congrArg Value.bool c32_f) (T_val (v := (Value.int .i64 x13_.q.kind)) (x_load1 rfl Try.underlying3 rfl ((Holds.rd H23_ 0 rfl) 0 (Value.int .i64 x13_.q.kind) rfl)) ?_)
    refine S_yes (j := 8) (dj := 26) (b := false) rfl rfl (congrArg Value.bool c32_f) (T_val (v := (Value.bool (decide (x13_.q.kind = 4)))) (x_bin rfl rfl rfl) ?_)
    refine S_yes (j := 8) (dj := 26) (b := false) rfl rfl (congrArg Value.bool c32_f) (T_val (v := (Value.bool (decide (x13_.q.kind = 4)))) (x_move rfl) ?_)
    rcases Bool.eq_false_or_eq_true (decide (x13_.q.kind = 4)) with c35_t | c35_f
    ·have c35_tp : x13_.q.kind = 4 := of_decide_eq_true c35_t
     refine S_yes (j := 12) (dj := 30) (b := true) rfl rfl (congrArg Value.bool c35_t) (T_val (v := (Value.int .i64 (deep : Int))) (x_move rfl) ?_)
     refine S_yes (j := 12) (dj := 30) (b := true) rfl rfl (congrArg Value.bool c35_t) (T_val (v := (Value.bool (decide ((deep : Int) = 0)))) (x_bin rfl rfl rfl) ?_)
     refine S_yes (j := 8) (dj := 26) (b := false) rfl rfl (congrArg Value.bool c32_f) (T_pickT (v := (Value.bool (decide ((deep : Int) = 0)))) (congrArg Value.bool c35_t) rfl ?_)
     refine S_list (T_pickF (v := (Value.bool (decide ((deep : Int) = 0)))) (congrArg Value.bool c32_f) rfl ?_)
     refine wpList_nil ?_
     refine (X_then (hK28_ _ _ ?_))
     clear hK28_
     refine C_cond (b := decide ((deep : Int) = 0)) rfl (fun c36_t => ?_) (fun c36_f => ?_)
     ·have c36_tp : (deep : Int) = 0 := of_decide_eq_true c36_t
      refine C_seq (fun K37_ hK37_ => ?_)
      refine C_reg ?_
      refine S_list (T_val (v := (Value.int .i64 (-1))) (x_assign rfl) ?_)
      refine wpList_nil ?_
      refine (X_then (hK37_ _ _ ?_))
      clear hK37_
      refine C_ret (X_thenR (X_blkR (X_thenR (X_thenR (X_blkR (X_thenR ?_))))))
      refine R_any (v := (Value.int .i64 (-1))) (run_results1 rfl rfl) ?_
      have H38_ : Holds w22_ (ro R :: F) := (Holds.pkF H23_ [1] 1 :)
      exact ⟨_, _, rfl, ⟨(congrArg (Value.int .i64) ((by rw [hin, many_bad hx14_ (by rw [manyT_def]; first | exact if_pos (by omega) | (rw [if_neg (by omega), if_neg (by omega)]; exact if_pos (by omega)))]) : -1 = manyL L deep 0)), rfl⟩, S25_, H38_⟩
     ·have c36_fp : ¬ ((deep : Int) = 0) := of_decide_eq_false c36_f
      refine C_skip (X_then (hK27_ _ _ ?_))
      clear hK27_
      refine C_seq (fun K39_ hK39_ => ?_)
      refine C_seq (fun K40_ hK40_ => ?_)
      refine C_reg ?_
      refine S_list (T_val (v := (Value.pointer (some ⟨b17_, 0, none⟩))) (by kernel_rfl) ?_)
      refine S_list (T_val (v := (Value.int .i64 x13_.q.kind)) (x_load1 rfl Try.underlying3 rfl ((Holds.rd H23_ 0 rfl) 0 (Value.int .i64 x13_.q.kind) rfl)) ?_)
      refine S_list (T_val (v := (Value.bool (decide (x13_.q.kind ≠ 4)))) (x_bin rfl rfl rfl) ?_)
      refine wpList_nil ?_
      refine (X_then (hK40_ _ _ ?_))
      clear hK40_
      refine C_cond (b := decide (x13_.q.kind ≠ 4)) rfl (fun c41_t => ?_) (fun c41_f => ?_)
      ·have c41_tp : x13_.q.kind ≠ 4 := of_decide_eq_true c41_t
       refine C_exit (X_thenX (X_blkHit ?_))
       refine (X_then (hK11_ _ _ ?_))
       clear hK11_
       refine C_reg ?_
       refine S_list (T_val (v := (Value.int .i64 ((k : Int) + 1))) (x_bin rfl rfl (ib_add (IntWalk.i64_in _ (by omega)))) ?_)
       refine S_list (T_val (v := (Value.int .i64 ((k : Int) + 1))) (x_move rfl) ?_)
       refine wpList_nil ?_
       refine (X_then ?_)
       have H42_ : Holds w22_ (ro R :: F) := (Holds.pkF H23_ [1] 1 :)
       exact ⟨⟨k + 1, n + 1, t4_v⟩, ⟨_, congrArg (fun e => mkA 69 e []) (ch (ch (ch (ch (ch (ch rfl rfl) rfl) rfl) rfl) rfl) (congrArg (Value.int .i64) ((by first | rfl | omega | (simp; done) | (simp; omega)) : (k : Int) + 1 = ((k + 1 : Nat) : Int)))), H42_, S25_, (by first | assumption | omega | exact rfl), (by first | assumption | omega | exact rfl), (by rw [hin, many_go hx14_ (by rw [manyT_def, if_neg (by omega), if_pos (by omega)]) (by omega)])⟩, by first | omega | (dsimp only; omega) | (simp; omega)⟩
      ·have c41_fp : ¬ (x13_.q.kind ≠ 4) := of_decide_eq_false c41_f
       refine C_skip (X_then (hK39_ _ _ ?_))
       clear hK39_
       refine C_seq (fun K43_ hK43_ => ?_)
       refine A_start (S := fun w => Rd b17_ [(Value.int .i64 x13_.q.kind), (Value.string x13_.q.key), (Value.string x13_.q.end_), (Value.string x13_.q.value), (Value.int .i64 x13_.q.lease), (Value.int .i64 x13_.q.rev), (Value.int .i64 x13_.q.limit), (Value.int .i64 x13_.q.sortOrder), (Value.int .i64 x13_.q.sortTarget), (Value.int .i64 x13_.q.minMod), (Value.int .i64 x13_.q.maxMod), (Value.int .i64 x13_.q.minCreate), (Value.int .i64 x13_.q.maxCreate), (Value.bool x13_.q.keysOnly), (Value.bool x13_.q.countOnly), (Value.bool x13_.q.prev), (Value.bool x13_.q.ignoreValue), (Value.bool x13_.q.ignoreLease), x13_.q.cmps, x13_.q.then_, x13_.q.else_] w ∧ Sub R (hp w)) (N := 12) foll rfl rfl ?_
       have H44_ := Holds.drew_ H23_
       have hq45_ := And.intro (Holds.rd H44_ 0 rfl) ((Holds.ro_at H44_ 1 rfl))
       refine A_tk 0 (v := (Value.pointer (some ⟨b17_, 19, none⟩))) rfl (by kernel_rfl) (fun w hS => by kernel_rfl) hq45_ ?_
       refine A_tk 1 (v := x13_.q.then_) rfl (by kernel_rfl) (fun w hS => x_load1 rfl Try.underlying23 rfl (hS.1 19 x13_.q.then_ rfl)) hq45_ ?_
       refine A_tk 2 (v := (Value.int .i64 (deep : Int))) rfl (by kernel_rfl) (fun w hS => x_move rfl) hq45_ ?_
       refine A_tk 3 (v := (Value.int .i64 ((deep : Int) - 1))) rfl (by kernel_rfl) (fun w hS => x_bin rfl rfl (ib_sub (IntWalk.i64_in _ (by omega)))) hq45_ ?_
       refine A_tk 5 (v := (Value.pointer (some ⟨b17_, 20, none⟩))) rfl (by kernel_rfl) (fun w hS => by kernel_rfl) hq45_ ?_
       refine A_tk 6 (v := x13_.q.else_) rfl (by kernel_rfl) (fun w hS => x_load1 rfl Try.underlying23 rfl (hS.1 20 x13_.q.else_ rfl)) hq45_ ?_
       refine A_tk 7 (v := (Value.int .i64 (deep : Int))) rfl (by kernel_rfl) (fun w hS => x_move rfl) hq45_ ?_
       refine A_tk 8 (v := (Value.int .i64 ((deep : Int) - 1))) rfl (by kernel_rfl) (fun w hS => x_bin rfl rfl (ib_sub (IntWalk.i64_in _ (by omega)))) hq45_ ?_
       refine A_ready (i := 4) (rs := []) (by kernel_rfl) ?_
       refine AllR.cons ?_ AllR.nil
       have H47_ := ((Holds.bring H44_ 1 rfl) :)
       refine A_op (ls' := #[true, true, true, true, true, true, true, true, true, false, false, false]) rfl (by kernel_rfl) (T_call (al := [x13_.q.then_, (Value.int .i64 ((deep - 1 : Nat) : Int))]) (pre := []) rfl (lcons rfl (lcons (congrArg (Value.int .i64) ((by first | rfl | omega | (simp; done) | (simp; omega)) : (deep : Int) - 1 = ((deep - 1 : Nat) : Int))) rfl)) cb38 (ih R x13_.q.then_ x13_.tt (deep - 1) (hra16_.t) (hra16_.tt) (by omega) (by first | assumption | omega) (by omega)) H47_ ?_)
       rintro v46_ p51_ w48_ ⟨rfl, rfl⟩ S50_ H49_
       have S52_ := Same.trans (Same.trans S25_ (Same.drew _)) S50_
       have hbd_tt := manyL_bd x13_.tt (deep - 1) 0 (Int.le_refl 0)
       simp only [Int.zero_add] at hbd_tt
       refine ⟨⟨Holds.rd H49_ 1 rfl, (Holds.ro_at H49_ 0 rfl)⟩, ?_⟩
       refine A_ready (i := 9) (rs := []) (by kernel_rfl) ?_
       refine AllR.cons ?_ AllR.nil
       refine A_op (ls' := #[true, true, true, true, true, true, true, true, true, true, false, false]) rfl (by kernel_rfl) (T_call (al := [x13_.q.else_, (Value.int .i64 ((deep - 1 : Nat) : Int))]) (pre := []) rfl (lcons rfl (lcons (congrArg (Value.int .i64) ((by first | rfl | omega | (simp; done) | (simp; omega)) : (deep : Int) - 1 = ((deep - 1 : Nat) : Int))) rfl)) cb38 (ih R x13_.q.else_ x13_.ee (deep - 1) (hra16_.e) (hra16_.ee) (by omega) (by first | assumption | omega) (by omega)) H49_ ?_)
       rintro v53_ p57_ w54_ ⟨rfl, rfl⟩ S56_ H55_
       replace H55_ : Holds w54_ (ro R :: cl b17_ 25 [(Value.int .i64 x13_.q.kind), (Value.string x13_.q.key), (Value.string x13_.q.end_), (Value.string x13_.q.value), (Value.int .i64 x13_.q.lease), (Value.int .i64 x13_.q.rev), (Value.int .i64 x13_.q.limit), (Value.int .i64 x13_.q.sortOrder), (Value.int .i64 x13_.q.sortTarget), (Value.int .i64 x13_.q.minMod), (Value.int .i64 x13_.q.maxMod), (Value.int .i64 x13_.q.minCreate), (Value.int .i64 x13_.q.maxCreate), (Value.bool x13_.q.keysOnly), (Value.bool x13_.q.countOnly), (Value.bool x13_.q.prev), (Value.bool x13_.q.ignoreValue), (Value.bool x13_.q.ignoreLease), x13_.q.cmps, x13_.q.then_, x13_.q.else_] :: F) := H55_
       have S58_ := Same.trans S52_ S56_
       have hbd_ee := manyL_bd x13_.ee (deep - 1) 0 (Int.le_refl 0)
       simp only [Int.zero_add] at hbd_ee
       refine ⟨⟨Holds.rd H55_ 1 rfl, (Holds.ro_at H55_ 0 rfl)⟩, ?_⟩
       have hq59_ := And.intro (Holds.rd H55_ 1 rfl) ((Holds.ro_at H55_ 0 rfl))
       refine A_tk 10 (v := (Value.int .i64 (manyL x13_.tt (deep - 1) 0))) rfl (by kernel_rfl) (fun w hS => x_assign rfl) hq59_ ?_
       refine A_tk 11 (v := (Value.int .i64 (manyL x13_.ee (deep - 1) 0))) rfl (by kernel_rfl) (fun w hS => x_assign rfl) hq59_ ?_
       refine A_done (by kernel_rfl) ?_
       refine (X_then (hK43_ _ _ ?_))
       clear hK43_
       refine C_seq (fun K60_ hK60_ => ?_)
       refine C_reg ?_
       refine S_list (T_val (v := (Value.int .i64 (n + 1))) (x_move rfl) ?_)
       refine S_list (T_val (v := (Value.int .i64 (manyL x13_.tt (deep - 1) 0))) (x_move rfl) ?_)
       refine S_list (T_val (v := (Value.int .i64 (manyL x13_.ee (deep - 1) 0))) (x_move rfl) ?_)
       refine S_list (T_val (v := (Value.int .i64 ((manyL x13_.tt (deep - 1) 0) + (manyL x13_.ee (deep - 1) 0)))) (x_bin rfl rfl (ib_add (IntWalk.i64_in _ (by omega)))) ?_)
       refine S_list (T_val (v := (Value.pointer (some ⟨b17_, 18, none⟩))) (by kernel_rfl) ?_)
       refine S_list (T_val (v := x13_.q.cmps) (x_load1 rfl Try.underlying22 rfl ((Holds.rd H55_ 1 rfl) 18 x13_.q.cmps rfl)) ?_)
       refine S_list (T_val (v := (Value.int .i64 ((List.length x13_.cc) : Int))) (x_lenRS rfl (hra16_.c) Try.underlying22) ?_)
       refine S_list (T_val (v := (Value.int .i64 (((manyL x13_.tt (deep - 1) 0) + (manyL x13_.ee (deep - 1) 0)) + ((List.length x13_.cc) : Int)))) (x_bin rfl rfl (ib_add (IntWalk.i64_in _ (by omega)))) ?_)
       refine S_list (T_val (v := (Value.int .i64 ((n + 1) + (((manyL x13_.tt (deep - 1) 0) + (manyL x13_.ee (deep - 1) 0)) + ((List.length x13_.cc) : Int))))) (x_bin rfl rfl (ib_add (IntWalk.i64_in _ (by omega)))) ?_)
       refine S_list (T_val (v := (Value.int .i64 ((n + 1) + (((manyL x13_.tt (deep - 1) 0) + (manyL x13_.ee (deep - 1) 0)) + ((List.length x13_.cc) : Int))))) (x_assign rfl) ?_)
       refine wpList_nil ?_
       refine (X_then (hK60_ _ _ ?_))
       clear hK60_
       refine C_seq (fun K61_ hK61_ => ?_)
       refine C_reg ?_
       refine S_list (T_val (v := (Value.int .i64 (manyL x13_.tt (deep - 1) 0))) (x_move rfl) ?_)
       refine S_list (T_val (v := (Value.bool (decide (manyL x13_.tt (deep - 1) 0 < 0)))) (x_bin rfl rfl rfl) ?_)
       refine S_list (T_val (v := (Value.bool (decide (manyL x13_.tt (deep - 1) 0 < 0)))) (x_move rfl) ?_)
       rcases Bool.eq_false_or_eq_true (decide (manyL x13_.tt (deep - 1) 0 < 0)) with c62_t | c62_f
       ·have c62_tp : manyL x13_.tt (deep - 1) 0 < 0 := of_decide_eq_true c62_t
        refine S_no (j := 2) (dj := 59) (b := true) rfl rfl (congrArg Value.bool c62_t) (by decide) ?_
        refine S_no (j := 2) (dj := 59) (b := true) rfl rfl (congrArg Value.bool c62_t) (by decide) ?_
        refine S_list (T_pickT (v := (Value.bool true)) (congrArg Value.bool c62_t) rfl ?_)
        refine S_list (T_val (v := (Value.bool true)) (x_move rfl) ?_)
        refine S_no (j := 6) (dj := 63) (b := true) rfl rfl rfl (by decide) ?_
        refine S_no (j := 6) (dj := 63) (b := true) rfl rfl rfl (by decide) ?_
        refine S_list (T_pickT (v := (Value.bool true)) rfl rfl ?_)
        refine wpList_nil ?_
        refine (X_then (hK61_ _ _ ?_))
        clear hK61_
        refine C_condT rfl ?_
        refine C_seq (fun K63_ hK63_ => ?_)
        refine C_reg ?_
        refine S_list (T_val (v := (Value.int .i64 (-1))) (x_assign rfl) ?_)
        refine wpList_nil ?_
        refine (X_then (hK63_ _ _ ?_))
        clear hK63_
        refine C_ret (X_blkR (X_thenR (X_thenR (X_blkR (X_thenR ?_)))))
        refine R_any (v := (Value.int .i64 (-1))) (run_results1 rfl rfl) ?_
        have H64_ : Holds w54_ (ro R :: F) := (Holds.pkF H55_ [0] 1 :)
        exact ⟨_, _, rfl, ⟨(congrArg (Value.int .i64) ((by rw [hin, many_bad hx14_ (by rw [manyT_def]; first | exact if_pos (by omega) | (rw [if_neg (by omega), if_neg (by omega)]; exact if_pos (by omega)))]) : -1 = manyL L deep 0)), rfl⟩, S58_, H64_⟩
       ·have c62_fp : ¬ (manyL x13_.tt (deep - 1) 0 < 0) := of_decide_eq_false c62_f
        refine S_yes (j := 2) (dj := 59) (b := false) rfl rfl (congrArg Value.bool c62_f) (T_val (v := (Value.int .i64 (manyL x13_.ee (deep - 1) 0))) (x_move rfl) ?_)
        refine S_yes (j := 2) (dj := 59) (b := false) rfl rfl (congrArg Value.bool c62_f) (T_val (v := (Value.bool (decide (manyL x13_.ee (deep - 1) 0 < 0)))) (x_bin rfl rfl rfl) ?_)
        refine S_list (T_pickF (v := (Value.bool (decide (manyL x13_.ee (deep - 1) 0 < 0)))) (congrArg Value.bool c62_f) rfl ?_)
        refine S_list (T_val (v := (Value.bool (decide (manyL x13_.ee (deep - 1) 0 < 0)))) (x_move rfl) ?_)
        rcases Bool.eq_false_or_eq_true (decide (manyL x13_.ee (deep - 1) 0 < 0)) with c65_t | c65_f
        ·have c65_tp : manyL x13_.ee (deep - 1) 0 < 0 := of_decide_eq_true c65_t
         refine S_no (j := 6) (dj := 63) (b := true) rfl rfl (congrArg Value.bool c65_t) (by decide) ?_
         refine S_no (j := 6) (dj := 63) (b := true) rfl rfl (congrArg Value.bool c65_t) (by decide) ?_
         refine S_list (T_pickT (v := (Value.bool true)) (congrArg Value.bool c65_t) rfl ?_)
         refine wpList_nil ?_
         refine (X_then (hK61_ _ _ ?_))
         clear hK61_
         refine C_condT rfl ?_
         refine C_seq (fun K66_ hK66_ => ?_)
         refine C_reg ?_
         refine S_list (T_val (v := (Value.int .i64 (-1))) (x_assign rfl) ?_)
         refine wpList_nil ?_
         refine (X_then (hK66_ _ _ ?_))
         clear hK66_
         refine C_ret (X_blkR (X_thenR (X_thenR (X_blkR (X_thenR ?_)))))
         refine R_any (v := (Value.int .i64 (-1))) (run_results1 rfl rfl) ?_
         have H67_ : Holds w54_ (ro R :: F) := (Holds.pkF H55_ [0] 1 :)
         exact ⟨_, _, rfl, ⟨(congrArg (Value.int .i64) ((by rw [hin, many_bad hx14_ (by rw [manyT_def]; first | exact if_pos (by omega) | (rw [if_neg (by omega), if_neg (by omega)]; exact if_pos (by omega)))]) : -1 = manyL L deep 0)), rfl⟩, S58_, H67_⟩
        ·have c65_fp : ¬ (manyL x13_.ee (deep - 1) 0 < 0) := of_decide_eq_false c65_f
         refine S_yes (j := 6) (dj := 63) (b := false) rfl rfl (congrArg Value.bool c65_f) (T_val (v := (Value.int .i64 ((n + 1) + (((manyL x13_.tt (deep - 1) 0) + (manyL x13_.ee (deep - 1) 0)) + ((List.length x13_.cc) : Int))))) (x_move rfl) ?_)
         refine S_yes (j := 6) (dj := 63) (b := false) rfl rfl (congrArg Value.bool c65_f) (T_val (v := (Value.bool (decide (200 < (n + 1) + (((manyL x13_.tt (deep - 1) 0) + (manyL x13_.ee (deep - 1) 0)) + ((List.length x13_.cc) : Int)))))) (x_bin rfl rfl rfl) ?_)
         refine S_list (T_pickF (v := (Value.bool (decide (200 < (n + 1) + (((manyL x13_.tt (deep - 1) 0) + (manyL x13_.ee (deep - 1) 0)) + ((List.length x13_.cc) : Int)))))) (congrArg Value.bool c65_f) rfl ?_)
         refine wpList_nil ?_
         refine (X_then (hK61_ _ _ ?_))
         clear hK61_
         refine C_cond (b := decide (200 < (n + 1) + (((manyL x13_.tt (deep - 1) 0) + (manyL x13_.ee (deep - 1) 0)) + ((List.length x13_.cc) : Int)))) rfl (fun c68_t => ?_) (fun c68_f => ?_)
         ·have c68_tp : 200 < (n + 1) + (((manyL x13_.tt (deep - 1) 0) + (manyL x13_.ee (deep - 1) 0)) + ((List.length x13_.cc) : Int)) := of_decide_eq_true c68_t
          refine C_seq (fun K69_ hK69_ => ?_)
          refine C_reg ?_
          refine S_list (T_val (v := (Value.int .i64 (-1))) (x_assign rfl) ?_)
          refine wpList_nil ?_
          refine (X_then (hK69_ _ _ ?_))
          clear hK69_
          refine C_ret (X_blkR (X_thenR (X_thenR (X_blkR (X_thenR ?_)))))
          refine R_any (v := (Value.int .i64 (-1))) (run_results1 rfl rfl) ?_
          have H70_ : Holds w54_ (ro R :: F) := (Holds.pkF H55_ [0] 1 :)
          exact ⟨_, _, rfl, ⟨(congrArg (Value.int .i64) ((by rw [hin, many_bad hx14_ (by rw [manyT_def]; first | exact if_pos (by omega) | (rw [if_neg (by omega), if_neg (by omega)]; exact if_pos (by omega)))]) : -1 = manyL L deep 0)), rfl⟩, S58_, H70_⟩
         ·have c68_fp : ¬ (200 < (n + 1) + (((manyL x13_.tt (deep - 1) 0) + (manyL x13_.ee (deep - 1) 0)) + ((List.length x13_.cc) : Int))) := of_decide_eq_false c68_f
          refine C_skip (X_blkN (X_then (hK11_ _ _ ?_)))
          clear hK11_
          refine C_reg ?_
          refine S_list (T_val (v := (Value.int .i64 ((k : Int) + 1))) (x_bin rfl rfl (ib_add (IntWalk.i64_in _ (by omega)))) ?_)
          refine S_list (T_val (v := (Value.int .i64 ((k : Int) + 1))) (x_move rfl) ?_)
          refine wpList_nil ?_
          refine (X_then ?_)
          have H71_ : Holds w54_ (ro R :: F) := (Holds.pkF H55_ [0] 1 :)
          exact ⟨⟨k + 1, (n + 1) + (((manyL x13_.tt (deep - 1) 0) + (manyL x13_.ee (deep - 1) 0)) + ((List.length x13_.cc) : Int)), t4_v⟩, ⟨_, congrArg (fun e => mkA 69 e []) (ch (ch (ch (ch (ch (ch rfl rfl) rfl) rfl) rfl) rfl) (congrArg (Value.int .i64) ((by first | rfl | omega | (simp; done) | (simp; omega)) : (k : Int) + 1 = ((k + 1 : Nat) : Int)))), H71_, S58_, (by first | assumption | omega | exact rfl), (by first | assumption | omega | exact rfl), (by rw [hin, many_go hx14_ (by rw [manyT_def, if_neg (by omega), if_neg (by omega), if_neg (by omega)]) (by omega)])⟩, by first | omega | (dsimp only; omega) | (simp; omega)⟩
    ·have c35_fp : ¬ (x13_.q.kind = 4) := of_decide_eq_false c35_f
     refine S_no (j := 12) (dj := 30) (b := false) rfl rfl (congrArg Value.bool c35_f) (by decide) ?_
     refine S_no (j := 12) (dj := 30) (b := false) rfl rfl (congrArg Value.bool c35_f) (by decide) ?_
     refine S_yes (j := 8) (dj := 26) (b := false) rfl rfl (congrArg Value.bool c32_f) (T_pickF (v := (Value.bool false)) (congrArg Value.bool c35_f) rfl ?_)
     refine S_list (T_pickF (v := (Value.bool false)) (congrArg Value.bool c32_f) rfl ?_)
     refine wpList_nil ?_
     refine (X_then (hK28_ _ _ ?_))
     clear hK28_
     refine C_condF rfl ?_
     refine C_skip (X_then (hK27_ _ _ ?_))
     clear hK27_
     refine C_seq (fun K72_ hK72_ => ?_)
     refine C_seq (fun K73_ hK73_ => ?_)
     refine C_reg ?_
     refine S_list (T_val (v := (Value.pointer (some ⟨b17_, 0, none⟩))) (by kernel_rfl) ?_)
     refine S_list (T_val (v := (Value.int .i64 x13_.q.kind)) (x_load1 rfl Try.underlying3 rfl ((Holds.rd H23_ 0 rfl) 0 (Value.int .i64 x13_.q.kind) rfl)) ?_)
     refine S_list (T_val (v := (Value.bool (decide (x13_.q.kind ≠ 4)))) (x_bin rfl rfl rfl) ?_)
     refine wpList_nil ?_
     refine (X_then (hK73_ _ _ ?_))
     clear hK73_
     refine C_cond (b := decide (x13_.q.kind ≠ 4)) rfl (fun c74_t => ?_) (fun c74_f => ?_)
     ·have c74_tp : x13_.q.kind ≠ 4 := of_decide_eq_true c74_t
      refine C_exit (X_thenX (X_blkHit ?_))
      refine (X_then (hK11_ _ _ ?_))
      clear hK11_
      refine C_reg ?_
      refine S_list (T_val (v := (Value.int .i64 ((k : Int) + 1))) (x_bin rfl rfl (ib_add (IntWalk.i64_in _ (by omega)))) ?_)
      refine S_list (T_val (v := (Value.int .i64 ((k : Int) + 1))) (x_move rfl) ?_)
      refine wpList_nil ?_
      refine (X_then ?_)
      have H75_ : Holds w22_ (ro R :: F) := (Holds.pkF H23_ [1] 1 :)
      exact ⟨⟨k + 1, n + 1, t4_v⟩, ⟨_, congrArg (fun e => mkA 69 e []) (ch (ch (ch (ch (ch (ch rfl rfl) rfl) rfl) rfl) rfl) (congrArg (Value.int .i64) ((by first | rfl | omega | (simp; done) | (simp; omega)) : (k : Int) + 1 = ((k + 1 : Nat) : Int)))), H75_, S25_, (by first | assumption | omega | exact rfl), (by first | assumption | omega | exact rfl), (by rw [hin, many_go hx14_ (by rw [manyT_def, if_neg (by omega), if_pos (by omega)]) (by omega)])⟩, by first | omega | (dsimp only; omega) | (simp; omega)⟩
     ·have c74_fp : ¬ (x13_.q.kind ≠ 4) := of_decide_eq_false c74_f
      refine C_skip (X_then (hK72_ _ _ ?_))
      clear hK72_
      refine C_seq (fun K76_ hK76_ => ?_)
      refine A_start (S := fun w => Rd b17_ [(Value.int .i64 x13_.q.kind), (Value.string x13_.q.key), (Value.string x13_.q.end_), (Value.string x13_.q.value), (Value.int .i64 x13_.q.lease), (Value.int .i64 x13_.q.rev), (Value.int .i64 x13_.q.limit), (Value.int .i64 x13_.q.sortOrder), (Value.int .i64 x13_.q.sortTarget), (Value.int .i64 x13_.q.minMod), (Value.int .i64 x13_.q.maxMod), (Value.int .i64 x13_.q.minCreate), (Value.int .i64 x13_.q.maxCreate), (Value.bool x13_.q.keysOnly), (Value.bool x13_.q.countOnly), (Value.bool x13_.q.prev), (Value.bool x13_.q.ignoreValue), (Value.bool x13_.q.ignoreLease), x13_.q.cmps, x13_.q.then_, x13_.q.else_] w ∧ Sub R (hp w)) (N := 12) foll rfl rfl ?_
      have H77_ := Holds.drew_ H23_
      have hq78_ := And.intro (Holds.rd H77_ 0 rfl) ((Holds.ro_at H77_ 1 rfl))
      refine A_tk 0 (v := (Value.pointer (some ⟨b17_, 19, none⟩))) rfl (by kernel_rfl) (fun w hS => by kernel_rfl) hq78_ ?_
      refine A_tk 1 (v := x13_.q.then_) rfl (by kernel_rfl) (fun w hS => x_load1 rfl Try.underlying23 rfl (hS.1 19 x13_.q.then_ rfl)) hq78_ ?_
      refine A_tk 2 (v := (Value.int .i64 (deep : Int))) rfl (by kernel_rfl) (fun w hS => x_move rfl) hq78_ ?_
      refine A_tk 3 (v := (Value.int .i64 ((deep : Int) - 1))) rfl (by kernel_rfl) (fun w hS => x_bin rfl rfl (ib_sub (IntWalk.i64_in _ (by omega)))) hq78_ ?_
      refine A_tk 5 (v := (Value.pointer (some ⟨b17_, 20, none⟩))) rfl (by kernel_rfl) (fun w hS => by kernel_rfl) hq78_ ?_
      refine A_tk 6 (v := x13_.q.else_) rfl (by kernel_rfl) (fun w hS => x_load1 rfl Try.underlying23 rfl (hS.1 20 x13_.q.else_ rfl)) hq78_ ?_
      refine A_tk 7 (v := (Value.int .i64 (deep : Int))) rfl (by kernel_rfl) (fun w hS => x_move rfl) hq78_ ?_
      refine A_tk 8 (v := (Value.int .i64 ((deep : Int) - 1))) rfl (by kernel_rfl) (fun w hS => x_bin rfl rfl (ib_sub (IntWalk.i64_in _ (by omega)))) hq78_ ?_
      refine A_ready (i := 4) (rs := []) (by kernel_rfl) ?_
      refine AllR.cons ?_ AllR.nil
      have H80_ := ((Holds.bring H77_ 1 rfl) :)
      refine A_op (ls' := #[true, true, true, true, true, true, true, true, true, false, false, false]) rfl (by kernel_rfl) (T_call (al := [x13_.q.then_, (Value.int .i64 ((deep - 1 : Nat) : Int))]) (pre := []) rfl (lcons rfl (lcons (congrArg (Value.int .i64) ((by first | rfl | omega | (simp; done) | (simp; omega)) : (deep : Int) - 1 = ((deep - 1 : Nat) : Int))) rfl)) cb38 (ih R x13_.q.then_ x13_.tt (deep - 1) (hra16_.t) (hra16_.tt) (by omega) (by first | assumption | omega) (by omega)) H80_ ?_)
      rintro v79_ p84_ w81_ ⟨rfl, rfl⟩ S83_ H82_
      have S85_ := Same.trans (Same.trans S25_ (Same.drew _)) S83_
      have hbd_tt := manyL_bd x13_.tt (deep - 1) 0 (Int.le_refl 0)
      simp only [Int.zero_add] at hbd_tt
      refine ⟨⟨Holds.rd H82_ 1 rfl, (Holds.ro_at H82_ 0 rfl)⟩, ?_⟩
      refine A_ready (i := 9) (rs := []) (by kernel_rfl) ?_
      refine AllR.cons ?_ AllR.nil
      refine A_op (ls' := #[true, true, true, true, true, true, true, true, true, true, false, false]) rfl (by kernel_rfl) (T_call (al := [x13_.q.else_, (Value.int .i64 ((deep - 1 : Nat) : Int))]) (pre := []) rfl (lcons rfl (lcons (congrArg (Value.int .i64) ((by first | rfl | omega | (simp; done) | (simp; omega)) : (deep : Int) - 1 = ((deep - 1 : Nat) : Int))) rfl)) cb38 (ih R x13_.q.else_ x13_.ee (deep - 1) (hra16_.e) (hra16_.ee) (by omega) (by first | assumption | omega) (by omega)) H82_ ?_)
      rintro v86_ p90_ w87_ ⟨rfl, rfl⟩ S89_ H88_
      replace H88_ : Holds w87_ (ro R :: cl b17_ 25 [(Value.int .i64 x13_.q.kind), (Value.string x13_.q.key), (Value.string x13_.q.end_), (Value.string x13_.q.value), (Value.int .i64 x13_.q.lease), (Value.int .i64 x13_.q.rev), (Value.int .i64 x13_.q.limit), (Value.int .i64 x13_.q.sortOrder), (Value.int .i64 x13_.q.sortTarget), (Value.int .i64 x13_.q.minMod), (Value.int .i64 x13_.q.maxMod), (Value.int .i64 x13_.q.minCreate), (Value.int .i64 x13_.q.maxCreate), (Value.bool x13_.q.keysOnly), (Value.bool x13_.q.countOnly), (Value.bool x13_.q.prev), (Value.bool x13_.q.ignoreValue), (Value.bool x13_.q.ignoreLease), x13_.q.cmps, x13_.q.then_, x13_.q.else_] :: F) := H88_
      have S91_ := Same.trans S85_ S89_
      have hbd_ee := manyL_bd x13_.ee (deep - 1) 0 (Int.le_refl 0)
      simp only [Int.zero_add] at hbd_ee
      refine ⟨⟨Holds.rd H88_ 1 rfl, (Holds.ro_at H88_ 0 rfl)⟩, ?_⟩
      have hq92_ := And.intro (Holds.rd H88_ 1 rfl) ((Holds.ro_at H88_ 0 rfl))
      refine A_tk 10 (v := (Value.int .i64 (manyL x13_.tt (deep - 1) 0))) rfl (by kernel_rfl) (fun w hS => x_assign rfl) hq92_ ?_
      refine A_tk 11 (v := (Value.int .i64 (manyL x13_.ee (deep - 1) 0))) rfl (by kernel_rfl) (fun w hS => x_assign rfl) hq92_ ?_
      refine A_done (by kernel_rfl) ?_
      refine (X_then (hK76_ _ _ ?_))
      clear hK76_
      refine C_seq (fun K93_ hK93_ => ?_)
      refine C_reg ?_
      refine S_list (T_val (v := (Value.int .i64 (n + 1))) (x_move rfl) ?_)
      refine S_list (T_val (v := (Value.int .i64 (manyL x13_.tt (deep - 1) 0))) (x_move rfl) ?_)
      refine S_list (T_val (v := (Value.int .i64 (manyL x13_.ee (deep - 1) 0))) (x_move rfl) ?_)
      refine S_list (T_val (v := (Value.int .i64 ((manyL x13_.tt (deep - 1) 0) + (manyL x13_.ee (deep - 1) 0)))) (x_bin rfl rfl (ib_add (IntWalk.i64_in _ (by omega)))) ?_)
      refine S_list (T_val (v := (Value.pointer (some ⟨b17_, 18, none⟩))) (by kernel_rfl) ?_)
      refine S_list (T_val (v := x13_.q.cmps) (x_load1 rfl Try.underlying22 rfl ((Holds.rd H88_ 1 rfl) 18 x13_.q.cmps rfl)) ?_)
      refine S_list (T_val (v := (Value.int .i64 ((List.length x13_.cc) : Int))) (x_lenRS rfl (hra16_.c) Try.underlying22) ?_)
      refine S_list (T_val (v := (Value.int .i64 (((manyL x13_.tt (deep - 1) 0) + (manyL x13_.ee (deep - 1) 0)) + ((List.length x13_.cc) : Int)))) (x_bin rfl rfl (ib_add (IntWalk.i64_in _ (by omega)))) ?_)
      refine S_list (T_val (v := (Value.int .i64 ((n + 1) + (((manyL x13_.tt (deep - 1) 0) + (manyL x13_.ee (deep - 1) 0)) + ((List.length x13_.cc) : Int))))) (x_bin rfl rfl (ib_add (IntWalk.i64_in _ (by omega)))) ?_)
      refine S_list (T_val (v := (Value.int .i64 ((n + 1) + (((manyL x13_.tt (deep - 1) 0) + (manyL x13_.ee (deep - 1) 0)) + ((List.length x13_.cc) : Int))))) (x_assign rfl) ?_)
      refine wpList_nil ?_
      refine (X_then (hK93_ _ _ ?_))
      clear hK93_
      refine C_seq (fun K94_ hK94_ => ?_)
      refine C_reg ?_
      refine S_list (T_val (v := (Value.int .i64 (manyL x13_.tt (deep - 1) 0))) (x_move rfl) ?_)
      refine S_list (T_val (v := (Value.bool (decide (manyL x13_.tt (deep - 1) 0 < 0)))) (x_bin rfl rfl rfl) ?_)
      refine S_list (T_val (v := (Value.bool (decide (manyL x13_.tt (deep - 1) 0 < 0)))) (x_move rfl) ?_)
      rcases Bool.eq_false_or_eq_true (decide (manyL x13_.tt (deep - 1) 0 < 0)) with c95_t | c95_f
      ·have c95_tp : manyL x13_.tt (deep - 1) 0 < 0 := of_decide_eq_true c95_t
       refine S_no (j := 2) (dj := 59) (b := true) rfl rfl (congrArg Value.bool c95_t) (by decide) ?_
       refine S_no (j := 2) (dj := 59) (b := true) rfl rfl (congrArg Value.bool c95_t) (by decide) ?_
       refine S_list (T_pickT (v := (Value.bool true)) (congrArg Value.bool c95_t) rfl ?_)
       refine S_list (T_val (v := (Value.bool true)) (x_move rfl) ?_)
       refine S_no (j := 6) (dj := 63) (b := true) rfl rfl rfl (by decide) ?_
       refine S_no (j := 6) (dj := 63) (b := true) rfl rfl rfl (by decide) ?_
       refine S_list (T_pickT (v := (Value.bool true)) rfl rfl ?_)
       refine wpList_nil ?_
       refine (X_then (hK94_ _ _ ?_))
       clear hK94_
       refine C_condT rfl ?_
       refine C_seq (fun K96_ hK96_ => ?_)
       refine C_reg ?_
       refine S_list (T_val (v := (Value.int .i64 (-1))) (x_assign rfl) ?_)
       refine wpList_nil ?_
       refine (X_then (hK96_ _ _ ?_))
       clear hK96_
       refine C_ret (X_blkR (X_thenR (X_thenR (X_blkR (X_thenR ?_)))))
       refine R_any (v := (Value.int .i64 (-1))) (run_results1 rfl rfl) ?_
       have H97_ : Holds w87_ (ro R :: F) := (Holds.pkF H88_ [0] 1 :)
       exact ⟨_, _, rfl, ⟨(congrArg (Value.int .i64) ((by rw [hin, many_bad hx14_ (by rw [manyT_def]; first | exact if_pos (by omega) | (rw [if_neg (by omega), if_neg (by omega)]; exact if_pos (by omega)))]) : -1 = manyL L deep 0)), rfl⟩, S91_, H97_⟩
      ·have c95_fp : ¬ (manyL x13_.tt (deep - 1) 0 < 0) := of_decide_eq_false c95_f
       refine S_yes (j := 2) (dj := 59) (b := false) rfl rfl (congrArg Value.bool c95_f) (T_val (v := (Value.int .i64 (manyL x13_.ee (deep - 1) 0))) (x_move rfl) ?_)
       refine S_yes (j := 2) (dj := 59) (b := false) rfl rfl (congrArg Value.bool c95_f) (T_val (v := (Value.bool (decide (manyL x13_.ee (deep - 1) 0 < 0)))) (x_bin rfl rfl rfl) ?_)
       refine S_list (T_pickF (v := (Value.bool (decide (manyL x13_.ee (deep - 1) 0 < 0)))) (congrArg Value.bool c95_f) rfl ?_)
       refine S_list (T_val (v := (Value.bool (decide (manyL x13_.ee (deep - 1) 0 < 0)))) (x_move rfl) ?_)
       rcases Bool.eq_false_or_eq_true (decide (manyL x13_.ee (deep - 1) 0 < 0)) with c98_t | c98_f
       ·have c98_tp : manyL x13_.ee (deep - 1) 0 < 0 := of_decide_eq_true c98_t
        refine S_no (j := 6) (dj := 63) (b := true) rfl rfl (congrArg Value.bool c98_t) (by decide) ?_
        refine S_no (j := 6) (dj := 63) (b := true) rfl rfl (congrArg Value.bool c98_t) (by decide) ?_
        refine S_list (T_pickT (v := (Value.bool true)) (congrArg Value.bool c98_t) rfl ?_)
        refine wpList_nil ?_
        refine (X_then (hK94_ _ _ ?_))
        clear hK94_
        refine C_condT rfl ?_
        refine C_seq (fun K99_ hK99_ => ?_)
        refine C_reg ?_
        refine S_list (T_val (v := (Value.int .i64 (-1))) (x_assign rfl) ?_)
        refine wpList_nil ?_
        refine (X_then (hK99_ _ _ ?_))
        clear hK99_
        refine C_ret (X_blkR (X_thenR (X_thenR (X_blkR (X_thenR ?_)))))
        refine R_any (v := (Value.int .i64 (-1))) (run_results1 rfl rfl) ?_
        have H100_ : Holds w87_ (ro R :: F) := (Holds.pkF H88_ [0] 1 :)
        exact ⟨_, _, rfl, ⟨(congrArg (Value.int .i64) ((by rw [hin, many_bad hx14_ (by rw [manyT_def]; first | exact if_pos (by omega) | (rw [if_neg (by omega), if_neg (by omega)]; exact if_pos (by omega)))]) : -1 = manyL L deep 0)), rfl⟩, S91_, H100_⟩
       ·have c98_fp : ¬ (manyL x13_.ee (deep - 1) 0 < 0) := of_decide_eq_false c98_f
        refine S_yes (j := 6) (dj := 63) (b := false) rfl rfl (congrArg Value.bool c98_f) (T_val (v := (Value.int .i64 ((n + 1) + (((manyL x13_.tt (deep - 1) 0) + (manyL x13_.ee (deep - 1) 0)) + ((List.length x13_.cc) : Int))))) (x_move rfl) ?_)
        refine S_yes (j := 6) (dj := 63) (b := false) rfl rfl (congrArg Value.bool c98_f) (T_val (v := (Value.bool (decide (200 < (n + 1) + (((manyL x13_.tt (deep - 1) 0) + (manyL x13_.ee (deep - 1) 0)) + ((List.length x13_.cc) : Int)))))) (x_bin rfl rfl rfl) ?_)
        refine S_list (T_pickF (v := (Value.bool (decide (200 < (n + 1) + (((manyL x13_.tt (deep - 1) 0) + (manyL x13_.ee (deep - 1) 0)) + ((List.length x13_.cc) : Int)))))) (congrArg Value.bool c98_f) rfl ?_)
        refine wpList_nil ?_
        refine (X_then (hK94_ _ _ ?_))
        clear hK94_
        refine C_cond (b := decide (200 < (n + 1) + (((manyL x13_.tt (deep - 1) 0) + (manyL x13_.ee (deep - 1) 0)) + ((List.length x13_.cc) : Int)))) rfl (fun c101_t => ?_) (fun c101_f => ?_)
        ·have c101_tp : 200 < (n + 1) + (((manyL x13_.tt (deep - 1) 0) + (manyL x13_.ee (deep - 1) 0)) + ((List.length x13_.cc) : Int)) := of_decide_eq_true c101_t
         refine C_seq (fun K102_ hK102_ => ?_)
         refine C_reg ?_
         refine S_list (T_val (v := (Value.int .i64 (-1))) (x_assign rfl) ?_)
         refine wpList_nil ?_
         refine (X_then (hK102_ _ _ ?_))
         clear hK102_
         refine C_ret (X_blkR (X_thenR (X_thenR (X_blkR (X_thenR ?_)))))
         refine R_any (v := (Value.int .i64 (-1))) (run_results1 rfl rfl) ?_
         have H103_ : Holds w87_ (ro R :: F) := (Holds.pkF H88_ [0] 1 :)
         exact ⟨_, _, rfl, ⟨(congrArg (Value.int .i64) ((by rw [hin, many_bad hx14_ (by rw [manyT_def]; first | exact if_pos (by omega) | (rw [if_neg (by omega), if_neg (by omega)]; exact if_pos (by omega)))]) : -1 = manyL L deep 0)), rfl⟩, S91_, H103_⟩
        ·have c101_fp : ¬ (200 < (n + 1) + (((manyL x13_.tt (deep - 1) 0) + (manyL x13_.ee (deep - 1) 0)) + ((List.length x13_.cc) : Int))) := of_decide_eq_false c101_f
         refine C_skip (X_blkN (X_then (hK11_ _ _ ?_)))
         clear hK11_
         refine C_reg ?_
         refine S_list (T_val (v := (Value.int .i64 ((k : Int) + 1))) (x_bin rfl rfl (ib_add (IntWalk.i64_in _ (by omega)))) ?_)
         refine S_list (T_val (v := (Value.int .i64 ((k : Int) + 1))) (x_move rfl) ?_)
         refine wpList_nil ?_
         refine (X_then ?_)
         have H104_ : Holds w87_ (ro R :: F) := (Holds.pkF H88_ [0] 1 :)
         exact ⟨⟨k + 1, (n + 1) + (((manyL x13_.tt (deep - 1) 0) + (manyL x13_.ee (deep - 1) 0)) + ((List.length x13_.cc) : Int)), t4_v⟩, ⟨_, congrArg (fun e => mkA 69 e []) (ch (ch (ch (ch (ch (ch rfl rfl) rfl) rfl) rfl) rfl) (congrArg (Value.int .i64) ((by first | rfl | omega | (simp; done) | (simp; omega)) : (k : Int) + 1 = ((k + 1 : Nat) : Int)))), H104_, S91_, (by first | assumption | omega | exact rfl), (by first | assumption | omega | exact rfl), (by rw [hin, many_go hx14_ (by rw [manyT_def, if_neg (by omega), if_neg (by omega), if_neg (by omega)]) (by omega)])⟩, by first | omega | (dsimp only; omega) | (simp; omega)⟩
 ·have c10_fp : ¬ ((k : Int) < ((List.length L) : Int)) := of_decide_eq_false c10_f
  refine C_exit (X_thenX (X_thenX (X_blkHit ?_)))
  refine (X_then (hK3_ _ _ ?_))
  clear hK3_
  refine C_seq (fun K105_ hK105_ => ?_)
  refine C_reg ?_
  refine S_list (T_val (v := (Value.int .i64 n)) (x_move rfl) ?_)
  refine S_list (T_val (v := (Value.int .i64 n)) (x_assign rfl) ?_)
  refine wpList_nil ?_
  refine (X_then (hK105_ _ _ ?_))
  clear hK105_
  refine C_ret ?_
  refine R_any (v := (Value.int .i64 n)) (run_results1 rfl rfl) ?_
  exact ⟨_, _, rfl, ⟨(congrArg (Value.int .i64) ((by rw [hin, many_end (by omega)]) : n = manyL L deep 0)), rfl⟩, S7_, H6_⟩

theorem ckManyL (R : HP) (v : Value) (L : List RT) (deep : Nat) (hL : RS R 21 v (List.length L) (L.flatMap RT.cells)) (hR : RAts R L) (hl : L.length ≤ 1000000000000000) (hd : deep ≤ 10) : Tri Try.prog 38 #[v, (Value.int .i64 (deep : Int))] R [] (fun v__ post__ => v__ = (Value.int .i64 (manyL L deep 0)) ∧ post__ = []) := by
  have key : ∀ (n__ : Nat) (R : HP) (v : Value) (L : List RT) (deep : Nat) (hL : RS R 21 v (List.length L) (L.flatMap RT.cells)) (hR : RAts R L) (hl : L.length ≤ 1000000000000000) (hd : deep ≤ 10) (hn__ : lsz L = n__), Tri Try.prog 38 #[v, (Value.int .i64 (deep : Int))] R [] (fun v__ post__ => v__ = (Value.int .i64 (manyL L deep 0)) ∧ post__ = []) := by
    intro n__
    induction n__ using Nat.strongRecOn with
    | ind n__ ih => intro R v L deep hL hR hl hd hn__; exact ckManyL_step R v L deep n__ hL hR hl hd (Nat.le_of_eq hn__) (fun R v L deep hL hR hl hd hms => ih _ hms R v L deep hL hR hl hd rfl)
  exact key _ R v L deep hL hR hl hd rfl
end Go.Proofs.Ytlnihndjepjagaa
