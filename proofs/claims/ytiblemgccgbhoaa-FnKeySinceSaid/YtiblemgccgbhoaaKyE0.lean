/- Changes that stay. -/
import Derived.Test.YtiblemgccgbhoaaKyD0
set_option linter.unusedVariables false
set_option linter.unusedSimpArgs false
namespace Go.Proofs.Ytiblemgccgbhoaa
open Go Go.RowKit Gw

set_option maxHeartbeats 400000 in
theorem kStays (R : HP) (v : Value) (L : List VR) (i : Nat) (at_ : Int) (x : VR) (hL : RS R 6 v (List.length L) (L.flatMap VR.cells)) (hl : L.length ≤ 10000) (hi : i < L.length) (hx : L[i]? = some x) :
    Tri Try.prog 53 #[v, (Value.int .i64 (i : Int)), (Value.int .i64 at_)] R [] (fun v__ post__ => v__ = (Value.bool (vStay L at_ i x)) ∧ post__ = []) := by
 refine Tri.into (n := 36) (al := [v, (Value.int .i64 (i : Int)), (Value.int .i64 at_)]) Try.func53 rfl Try.ntmps53 rfl rfl fun w F H => ?_
 refine C_seq (fun K1_ hK1_ => ?_)
 refine C_reg ?_
 refine S_list (T_val (v := (Value.bool false)) (x_assign rfl) ?_)
 refine wpList_nil ?_
 refine (X_then (hK1_ _ _ ?_))
 clear hK1_
 refine C_seq (fun K2_ hK2_ => ?_)
 refine C_reg ?_
 refine S_list (T_val (v := v) (x_move rfl) ?_)
 refine S_list (T_val (v := (Value.int .i64 (i : Int))) (x_move rfl) ?_)
 refine S_list (T_val (v := (Value.pointer (some ⟨(sb v), so v + (i * 6 + 0), none⟩))) (x_idxRS (v := v) rfl hL rfl Try.underlying23 z66 (by omega) (by omega) (by omega : _ = i) rfl) ?_)
 refine S_list (T_val (v := (Value.agg #[(Value.int .i64 x.rev_Main), (Value.int .i64 x.rev_Sub), (Value.int .i64 x.created_Main), (Value.int .i64 x.created_Sub), (Value.int .i64 x.ver), (Value.bool x.gone)])) (x_loadN (vs := [(Value.int .i64 x.rev_Main), (Value.int .i64 x.rev_Sub), (Value.int .i64 x.created_Main), (Value.int .i64 x.created_Sub), (Value.int .i64 x.ver), (Value.bool x.gone)]) rfl Try.underlying66 rfl z66 rfl (RC.cells (RS.rc hL) (Holds.ro_at H 0 rfl) (i * 6 + 0) (fm_cells VR.len hx (i := 0) rfl))) ?_)
 refine S_list (T_alloc z66 H ?_)
 intro b6_ w7_ S9_ H8_
 have S10_ := Same.trans (Same.refl w) S9_
 refine S_list0 (T_storeN (vs := [(Value.int .i64 x.rev_Main), (Value.int .i64 x.rev_Sub), (Value.int .i64 x.created_Main), (Value.int .i64 x.created_Sub), (Value.int .i64 x.ver), (Value.bool x.gone)]) rfl rfl z66 rfl (by simp [Value.oneCell']) H8_ 0 rfl (Nat.le_of_ble_eq_true (by rfl)) ?_)
 intro w11_ S13_ H12_
 replace H12_ : Holds w11_ (cl b6_ 66 [(Value.int .i64 x.rev_Main), (Value.int .i64 x.rev_Sub), (Value.int .i64 x.created_Main), (Value.int .i64 x.created_Sub), (Value.int .i64 x.ver), (Value.bool x.gone)] :: ro R :: F) := H12_
 have S14_ := Same.trans S10_ S13_
 refine wpList_nil ?_
 refine (X_then (hK2_ _ _ ?_))
 clear hK2_
 refine C_seq (fun K15_ hK15_ => ?_)
 refine C_reg ?_
 refine S_list (T_val (v := (Value.pointer (some ⟨b6_, 0, none⟩))) (by kernel_rfl) ?_)
 refine S_list (T_val (v := (Value.pointer (some ⟨b6_, 0, none⟩))) (by kernel_rfl) ?_)
 refine S_list (T_val (v := (Value.int .i64 x.rev_Main)) (x_load1 rfl Try.underlying2 rfl ((Holds.rd H12_ 0 rfl) 0 (Value.int .i64 x.rev_Main) rfl)) ?_)
 refine S_list (T_val (v := (Value.int .i64 at_)) (x_move rfl) ?_)
 refine S_list (T_val (v := (Value.bool (decide (at_ < x.rev_Main)))) (x_bin rfl rfl rfl) ?_)
 refine S_list (T_val (v := (Value.bool (decide (at_ < x.rev_Main)))) (x_move rfl) ?_)
 rcases Bool.eq_false_or_eq_true (decide (at_ < x.rev_Main)) with c16_t | c16_f
 ·have c16_tp : at_ < x.rev_Main := of_decide_eq_true c16_t
  refine S_no (j := 5) (dj := 17) (b := true) rfl rfl (congrArg Value.bool c16_t) (by decide) ?_
  refine S_no (j := 5) (dj := 17) (b := true) rfl rfl (congrArg Value.bool c16_t) (by decide) ?_
  refine S_no (j := 5) (dj := 17) (b := true) rfl rfl (congrArg Value.bool c16_t) (by decide) ?_
  refine S_no (j := 5) (dj := 17) (b := true) rfl rfl (congrArg Value.bool c16_t) (by decide) ?_
  refine S_no (j := 5) (dj := 17) (b := true) rfl rfl (congrArg Value.bool c16_t) (by decide) ?_
  refine S_no (j := 5) (dj := 17) (b := true) rfl rfl (congrArg Value.bool c16_t) (by decide) ?_
  refine S_noU (j := 11) (dj := 23) rfl rfl rfl ?_
  refine S_noU (j := 11) (dj := 23) rfl rfl rfl ?_
  refine S_noU (j := 11) (dj := 23) rfl rfl rfl ?_
  refine S_noU (j := 11) (dj := 23) rfl rfl rfl ?_
  refine S_noU (j := 15) (dj := 27) rfl rfl rfl ?_
  refine S_noU (j := 15) (dj := 27) rfl rfl rfl ?_
  refine S_noU (j := 15) (dj := 27) rfl rfl rfl ?_
  refine S_noU (j := 15) (dj := 27) rfl rfl rfl ?_
  refine S_noU (j := 15) (dj := 27) rfl rfl rfl ?_
  refine S_noU (j := 11) (dj := 23) rfl rfl rfl ?_
  refine S_no (j := 5) (dj := 17) (b := true) rfl rfl (congrArg Value.bool c16_t) (by decide) ?_
  refine S_list (T_pickT (v := (Value.bool true)) (congrArg Value.bool c16_t) rfl ?_)
  refine S_list (T_val (v := (Value.bool true)) (x_assign rfl) ?_)
  refine wpList_nil ?_
  refine (X_then (hK15_ _ _ ?_))
  clear hK15_
  refine C_ret ?_
  refine R_any (v := (Value.bool true)) (run_results1 rfl rfl) ?_
  have H17_ : Holds w11_ (ro R :: F) := (Holds.pkF H12_ [1] 1 :)
  exact ⟨_, _, rfl, ⟨(congrArg Value.bool ((by unfold vStay; exact (decide_eq_true (by first | (simp_all; done) | (simp_all; omega))).symm) : true = (vStay L at_ i x))), rfl⟩, S14_, H17_⟩
 ·have c16_fp : ¬ (at_ < x.rev_Main) := of_decide_eq_false c16_f
  refine S_yes (j := 5) (dj := 17) (b := false) rfl rfl (congrArg Value.bool c16_f) (T_val (v := (Value.int .i64 (i : Int))) (x_move rfl) ?_)
  refine S_yes (j := 5) (dj := 17) (b := false) rfl rfl (congrArg Value.bool c16_f) (T_val (v := v) (x_move rfl) ?_)
  refine S_yes (j := 5) (dj := 17) (b := false) rfl rfl (congrArg Value.bool c16_f) (T_val (v := (Value.int .i64 at_)) (x_move rfl) ?_)
  have H19_ := ((Holds.bring H12_ 1 rfl) :)
  refine S_yes (j := 5) (dj := 17) (b := false) rfl rfl (congrArg Value.bool c16_f) (T_call (al := [v, (Value.int .i64 at_)]) (pre := []) rfl rfl cb52 (kLast R v L at_ hL (by first | assumption | omega)) H19_ ?_)
  rintro v18_ p23_ w20_ ⟨rfl, rfl⟩ S22_ H21_
  have S24_ := Same.trans S14_ S22_
  refine S_yes (j := 5) (dj := 17) (b := false) rfl rfl (congrArg Value.bool c16_f) (T_val (v := (Value.bool (decide ((i : Int) = (vLastN L at_ L.length : Int) - 1)))) (x_bin rfl rfl rfl) ?_)
  refine S_yes (j := 5) (dj := 17) (b := false) rfl rfl (congrArg Value.bool c16_f) (T_val (v := (Value.bool (decide ((i : Int) = (vLastN L at_ L.length : Int) - 1)))) (x_move rfl) ?_)
  rcases Bool.eq_false_or_eq_true (decide ((i : Int) = (vLastN L at_ L.length : Int) - 1)) with c25_t | c25_f
  ·have c25_tp : (i : Int) = (vLastN L at_ L.length : Int) - 1 := of_decide_eq_true c25_t
   refine S_yes (j := 11) (dj := 23) (b := true) rfl rfl (congrArg Value.bool c25_t) (T_val (v := (Value.pointer (some ⟨b6_, 5, none⟩))) (by kernel_rfl) ?_)
   refine S_yes (j := 11) (dj := 23) (b := true) rfl rfl (congrArg Value.bool c25_t) (T_val (v := (Value.bool x.gone)) (x_load1 rfl Try.underlying4 rfl ((Holds.rd H21_ 1 rfl) 5 (Value.bool x.gone) rfl)) ?_)
   refine S_yes (j := 11) (dj := 23) (b := true) rfl rfl (congrArg Value.bool c25_t) (T_val (v := (Value.bool (!x.gone))) (x_not rfl) ?_)
   refine S_yes (j := 11) (dj := 23) (b := true) rfl rfl (congrArg Value.bool c25_t) (T_val (v := (Value.bool (!x.gone))) (x_move rfl) ?_)
   rcases Bool.eq_false_or_eq_true (!x.gone) with c26_t | c26_f
   ·skip
    refine S_no (j := 15) (dj := 27) (b := true) rfl rfl (congrArg Value.bool c26_t) (by decide) ?_
    refine S_no (j := 15) (dj := 27) (b := true) rfl rfl (congrArg Value.bool c26_t) (by decide) ?_
    refine S_no (j := 15) (dj := 27) (b := true) rfl rfl (congrArg Value.bool c26_t) (by decide) ?_
    refine S_no (j := 15) (dj := 27) (b := true) rfl rfl (congrArg Value.bool c26_t) (by decide) ?_
    refine S_no (j := 15) (dj := 27) (b := true) rfl rfl (congrArg Value.bool c26_t) (by decide) ?_
    refine S_yes (j := 11) (dj := 23) (b := true) rfl rfl (congrArg Value.bool c25_t) (T_pickT (v := (Value.bool true)) (congrArg Value.bool c26_t) rfl ?_)
    refine S_yes (j := 5) (dj := 17) (b := false) rfl rfl (congrArg Value.bool c16_f) (T_pickT (v := (Value.bool true)) (congrArg Value.bool c25_t) rfl ?_)
    refine S_list (T_pickF (v := (Value.bool true)) (congrArg Value.bool c16_f) rfl ?_)
    refine S_list (T_val (v := (Value.bool true)) (x_assign rfl) ?_)
    refine wpList_nil ?_
    refine (X_then (hK15_ _ _ ?_))
    clear hK15_
    refine C_ret ?_
    refine R_any (v := (Value.bool true)) (run_results1 rfl rfl) ?_
    have H27_ : Holds w20_ (ro R :: F) := (Holds.pkF H21_ [0] 1 :)
    exact ⟨_, _, rfl, ⟨(congrArg Value.bool ((by unfold vStay; exact (decide_eq_true (by first | (simp_all; done) | (simp_all; omega))).symm) : true = (vStay L at_ i x))), rfl⟩, S24_, H27_⟩
   ·skip
    refine S_yes (j := 15) (dj := 27) (b := false) rfl rfl (congrArg Value.bool c26_f) (T_val (v := (Value.pointer (some ⟨b6_, 0, none⟩))) (by kernel_rfl) ?_)
    refine S_yes (j := 15) (dj := 27) (b := false) rfl rfl (congrArg Value.bool c26_f) (T_val (v := (Value.pointer (some ⟨b6_, 0, none⟩))) (by kernel_rfl) ?_)
    refine S_yes (j := 15) (dj := 27) (b := false) rfl rfl (congrArg Value.bool c26_f) (T_val (v := (Value.int .i64 x.rev_Main)) (x_load1 rfl Try.underlying2 rfl ((Holds.rd H21_ 1 rfl) 0 (Value.int .i64 x.rev_Main) rfl)) ?_)
    refine S_yes (j := 15) (dj := 27) (b := false) rfl rfl (congrArg Value.bool c26_f) (T_val (v := (Value.int .i64 at_)) (x_move rfl) ?_)
    refine S_yes (j := 15) (dj := 27) (b := false) rfl rfl (congrArg Value.bool c26_f) (T_val (v := (Value.bool (decide (x.rev_Main = at_)))) (x_bin rfl rfl rfl) ?_)
    refine S_yes (j := 11) (dj := 23) (b := true) rfl rfl (congrArg Value.bool c25_t) (T_pickF (v := (Value.bool (decide (x.rev_Main = at_)))) (congrArg Value.bool c26_f) rfl ?_)
    refine S_yes (j := 5) (dj := 17) (b := false) rfl rfl (congrArg Value.bool c16_f) (T_pickT (v := (Value.bool (decide (x.rev_Main = at_)))) (congrArg Value.bool c25_t) rfl ?_)
    refine S_list (T_pickF (v := (Value.bool (decide (x.rev_Main = at_)))) (congrArg Value.bool c16_f) rfl ?_)
    refine S_list (T_val (v := (Value.bool (decide (x.rev_Main = at_)))) (x_assign rfl) ?_)
    refine wpList_nil ?_
    refine (X_then (hK15_ _ _ ?_))
    clear hK15_
    refine C_ret ?_
    refine R_any (v := (Value.bool (decide (x.rev_Main = at_)))) (run_results1 rfl rfl) ?_
    have H28_ : Holds w20_ (ro R :: F) := (Holds.pkF H21_ [0] 1 :)
    exact ⟨_, _, rfl, ⟨(congrArg Value.bool ((by unfold vStay; exact decide_eq_decide.2 (by first | (simp_all; done) | (simp_all; omega))) : (decide (x.rev_Main = at_)) = (vStay L at_ i x))), rfl⟩, S24_, H28_⟩
  ·have c25_fp : ¬ ((i : Int) = (vLastN L at_ L.length : Int) - 1) := of_decide_eq_false c25_f
   refine S_no (j := 11) (dj := 23) (b := false) rfl rfl (congrArg Value.bool c25_f) (by decide) ?_
   refine S_no (j := 11) (dj := 23) (b := false) rfl rfl (congrArg Value.bool c25_f) (by decide) ?_
   refine S_no (j := 11) (dj := 23) (b := false) rfl rfl (congrArg Value.bool c25_f) (by decide) ?_
   refine S_no (j := 11) (dj := 23) (b := false) rfl rfl (congrArg Value.bool c25_f) (by decide) ?_
   refine S_noU (j := 15) (dj := 27) rfl rfl rfl ?_
   refine S_noU (j := 15) (dj := 27) rfl rfl rfl ?_
   refine S_noU (j := 15) (dj := 27) rfl rfl rfl ?_
   refine S_noU (j := 15) (dj := 27) rfl rfl rfl ?_
   refine S_noU (j := 15) (dj := 27) rfl rfl rfl ?_
   refine S_no (j := 11) (dj := 23) (b := false) rfl rfl (congrArg Value.bool c25_f) (by decide) ?_
   refine S_yes (j := 5) (dj := 17) (b := false) rfl rfl (congrArg Value.bool c16_f) (T_pickF (v := (Value.bool false)) (congrArg Value.bool c25_f) rfl ?_)
   refine S_list (T_pickF (v := (Value.bool false)) (congrArg Value.bool c16_f) rfl ?_)
   refine S_list (T_val (v := (Value.bool false)) (x_assign rfl) ?_)
   refine wpList_nil ?_
   refine (X_then (hK15_ _ _ ?_))
   clear hK15_
   refine C_ret ?_
   refine R_any (v := (Value.bool false)) (run_results1 rfl rfl) ?_
   have H29_ : Holds w20_ (ro R :: F) := (Holds.pkF H21_ [0] 1 :)
   exact ⟨_, _, rfl, ⟨(congrArg Value.bool ((by unfold vStay; exact (decide_eq_false (by first | (simp_all; done) | (simp_all; omega))).symm) : false = (vStay L at_ i x))), rfl⟩, S24_, H29_⟩

set_option maxHeartbeats 400000 in
theorem kCompacted (R : HP) (v : Value) (L : List VR) (at_ : Int) (hL : RS R 6 v (List.length L) (L.flatMap VR.cells)) (hl : L.length ≤ 10000) :
    Tri Try.prog 31 #[v, (Value.int .i64 at_)] R [] (fun v__ post__ => ∃ (v' : Value), v__ = v' ∧ post__ = [sl 66 6 v' (List.length (vSieve L (vStay L at_) L.length)) ((vSieve L (vStay L at_) L.length).flatMap VR.cells)]) := by
 refine Tri.into (n := 25) (al := [v, (Value.int .i64 at_)]) Try.func31 rfl Try.ntmps31 rfl rfl fun w F H => ?_
 refine C_seq (fun K1_ hK1_ => ?_)
 refine C_reg ?_
 refine S_list (T_val (v := (Value.slice none 0 0)) (x_assign rfl) ?_)
 refine wpList_nil ?_
 refine (X_then (hK1_ _ _ ?_))
 clear hK1_
 refine C_seq (fun K2_ hK2_ => ?_)
 refine C_reg ?_
 refine S_list (T_val (v := (Value.slice none 0 0)) (x_assign rfl) ?_)
 refine wpList_nil ?_
 refine (X_then (hK2_ _ _ ?_))
 clear hK2_
 refine C_seq (fun K3_ hK3_ => ?_)
 refine C_seq (fun K4_ hK4_ => ?_)
 refine C_reg ?_
 refine S_list (T_val (v := v) (x_move rfl) ?_)
 refine S_list (T_val (v := (Value.int .i64 ((List.length L) : Int))) (x_lenRS rfl hL Try.underlying23) ?_)
 refine S_list (T_val (v := (Value.int .i64 0)) (x_move rfl) ?_)
 refine wpList_nil ?_
 refine (X_then (hK4_ _ _ ?_))
 clear hK4_
 refine C_block ?_
 have H5_ : Holds w (sl 66 6 (Value.slice none 0 0) (List.length (vSieve L (vStay L at_) 0)) ((vSieve L (vStay L at_) 0).flatMap VR.cells) :: ro R :: F) := Holds.add_nil H 66 6
 refine C_loop (γ := Nat × Value) (fun x__ a__ w1__ => match x__ with | ⟨k, v1⟩ => ∃ h : Env, a__ = mkA 25 (upd (upd (upd (upd (upd (upd (upd h 0 v) 1 (Value.int .i64 at_)) 4 (Value.slice none 0 0)) 5 v1) 8 v) 9 (Value.int .i64 ((List.length L) : Int))) 10 (Value.int .i64 (k : Int))) [] ∧ Holds w1__ (sl 66 6 v1 (List.length (vSieve L (vStay L at_) k)) ((vSieve L (vStay L at_) k).flatMap VR.cells) :: ro R :: F) ∧ Same w w1__ ∧ (k ≤ L.length)) (fun x__ => match x__ with | ⟨k, v1⟩ => L.length - k) (⟨0, (Value.slice none 0 0)⟩) ⟨_, congrArg (fun e => mkA 25 e []) (ch (ch (ch (ch (ch (ch (ch rfl rfl) rfl) rfl) (rfl : (Value.slice none 0 0) = ((Value.slice none 0 0)))) rfl) rfl) (congrArg (Value.int .i64) ((by first | rfl | omega | (simp; done) | (simp; omega)) : 0 = (0 : Int)))), H5_, (Same.refl w), (by first | assumption | omega | exact rfl)⟩ ?_
 rintro ⟨k, v1⟩ _ w6_ ⟨h, rfl, H7_, S8_, hk⟩
 refine C_seq (fun K9_ hK9_ => ?_)
 refine C_reg ?_
 refine S_list (T_val (v := (Value.bool (decide ((k : Int) < ((List.length L) : Int))))) (x_bin rfl rfl rfl) ?_)
 refine wpList_nil ?_
 refine (X_then (hK9_ _ _ ?_))
 clear hK9_
 refine C_seq (fun K10_ hK10_ => ?_)
 refine C_cond (b := decide ((k : Int) < ((List.length L) : Int))) rfl (fun c11_t => ?_) (fun c11_f => ?_)
 ·have c11_tp : (k : Int) < ((List.length L) : Int) := of_decide_eq_true c11_t
  refine C_skip (X_then (hK10_ _ _ ?_))
  clear hK10_
  refine C_seq (fun K12_ hK12_ => ?_)
  refine C_block ?_
  refine C_seq (fun K13_ hK13_ => ?_)
  refine C_reg ?_
  refine S_list (T_val (v := (Value.int .i64 (k : Int))) (x_move rfl) ?_)
  obtain ⟨x14_, hx15_, hm16_⟩ := elem_at L k (by omega)
  refine S_list (T_val (v := (Value.pointer (some ⟨(sb v), so v + (k * 6 + 0), none⟩))) (x_idxRS (v := v) rfl hL rfl Try.underlying23 z66 (by omega) (by omega) (by omega : _ = k) rfl) ?_)
  refine S_list (T_val (v := (Value.agg #[(Value.int .i64 x14_.rev_Main), (Value.int .i64 x14_.rev_Sub), (Value.int .i64 x14_.created_Main), (Value.int .i64 x14_.created_Sub), (Value.int .i64 x14_.ver), (Value.bool x14_.gone)])) (x_loadN (vs := [(Value.int .i64 x14_.rev_Main), (Value.int .i64 x14_.rev_Sub), (Value.int .i64 x14_.created_Main), (Value.int .i64 x14_.created_Sub), (Value.int .i64 x14_.ver), (Value.bool x14_.gone)]) rfl Try.underlying66 rfl z66 rfl (RC.cells (RS.rc hL) (Holds.ro_at H7_ 1 rfl) (k * 6 + 0) (fm_cells VR.len hx15_ (i := 0) rfl))) ?_)
  refine S_list (T_alloc z66 H7_ ?_)
  intro b17_ w18_ S20_ H19_
  have S21_ := Same.trans S8_ S20_
  refine S_list (T_val (v := (Value.int .i64 (k : Int))) (x_assign rfl) ?_)
  refine S_list0 (T_storeN (vs := [(Value.int .i64 x14_.rev_Main), (Value.int .i64 x14_.rev_Sub), (Value.int .i64 x14_.created_Main), (Value.int .i64 x14_.created_Sub), (Value.int .i64 x14_.ver), (Value.bool x14_.gone)]) rfl rfl z66 rfl (by simp [Value.oneCell']) H19_ 0 rfl (Nat.le_of_ble_eq_true (by rfl)) ?_)
  intro w22_ S24_ H23_
  replace H23_ : Holds w22_ (cl b17_ 66 [(Value.int .i64 x14_.rev_Main), (Value.int .i64 x14_.rev_Sub), (Value.int .i64 x14_.created_Main), (Value.int .i64 x14_.created_Sub), (Value.int .i64 x14_.ver), (Value.bool x14_.gone)] :: sl 66 6 v1 (List.length (vSieve L (vStay L at_) k)) ((vSieve L (vStay L at_) k).flatMap VR.cells) :: ro R :: F) := H23_
  have S25_ := Same.trans S21_ S24_
  refine wpList_nil ?_
  refine (X_then (hK13_ _ _ ?_))
  clear hK13_
  refine C_seq (fun K26_ hK26_ => ?_)
  refine C_reg ?_
  refine S_list (T_val (v := v) (x_move rfl) ?_)
  refine S_list (T_val (v := (Value.int .i64 (k : Int))) (x_move rfl) ?_)
  refine S_list (T_val (v := (Value.int .i64 at_)) (x_move rfl) ?_)
  have H28_ := ((Holds.bring H23_ 2 rfl) :)
  refine S_list (T_call (al := [v, (Value.int .i64 (k : Int)), (Value.int .i64 at_)]) (pre := []) rfl rfl cb53 (kStays R v L k at_ x14_ hL (by first | assumption | omega) (by first | assumption | omega) (hx15_)) H28_ ?_)
  rintro v27_ p32_ w29_ ⟨rfl, rfl⟩ S31_ H30_
  have S33_ := Same.trans S25_ S31_
  refine wpList_nil ?_
  refine (X_then (hK26_ _ _ ?_))
  clear hK26_
  refine C_cond (b := vStay L at_ k x14_) rfl (fun c34_t => ?_) (fun c34_f => ?_)
  ·skip
   refine C_reg ?_
   refine S_list (T_val (v := v1) (x_move rfl) ?_)
   refine S_list (T_val (v := (Value.agg #[(Value.int .i64 x14_.rev_Main), (Value.int .i64 x14_.rev_Sub), (Value.int .i64 x14_.created_Main), (Value.int .i64 x14_.created_Sub), (Value.int .i64 x14_.ver), (Value.bool x14_.gone)])) (x_loadN (vs := [(Value.int .i64 x14_.rev_Main), (Value.int .i64 x14_.rev_Sub), (Value.int .i64 x14_.created_Main), (Value.int .i64 x14_.created_Sub), (Value.int .i64 x14_.ver), (Value.bool x14_.gone)]) rfl Try.underlying66 rfl z66 rfl (Rd.cells (Holds.rd H30_ 1 rfl) 0 rfl)) ?_)
   refine S_list (T_new (obj := .cells #[(Value.int .i64 x14_.rev_Main), (Value.int .i64 x14_.rev_Sub), (Value.int .i64 x14_.created_Main), (Value.int .i64 x14_.created_Sub), (Value.int .i64 x14_.ver), (Value.bool x14_.gone)] 66) (f := fun b__ => .slice (some ⟨b__, 0, none⟩) 1 1) (A := fun b__ => cl b__ 66 [(Value.int .i64 x14_.rev_Main), (Value.int .i64 x14_.rev_Sub), (Value.int .i64 x14_.created_Main), (Value.int .i64 x14_.created_Sub), (Value.int .i64 x14_.ver), (Value.bool x14_.gone)]) (by kernel_rfl) (fun l h => h.alloc _ _) H30_ ?_)
   intro b35_ w36_ S38_ H37_
   replace H37_ : Holds w36_ (cl b35_ 66 [(Value.int .i64 x14_.rev_Main), (Value.int .i64 x14_.rev_Sub), (Value.int .i64 x14_.created_Main), (Value.int .i64 x14_.created_Sub), (Value.int .i64 x14_.ver), (Value.bool x14_.gone)] :: ro R :: cl b17_ 66 [(Value.int .i64 x14_.rev_Main), (Value.int .i64 x14_.rev_Sub), (Value.int .i64 x14_.created_Main), (Value.int .i64 x14_.created_Sub), (Value.int .i64 x14_.ver), (Value.bool x14_.gone)] :: sl 66 6 v1 (List.length (vSieve L (vStay L at_) k)) ((vSieve L (vStay L at_) k).flatMap VR.cells) :: F) := H37_
   have S39_ := Same.trans S33_ S38_
   refine S_list (T_append rfl rfl Try.underlying23 z66 rfl (by decide) H37_ 3 rfl (Holds.cl_src H37_ 0 rfl Try.underlying23 (by simp [Value.oneCell']) rfl) (by have hq_ := vSieve_len L (vStay L at_) k; first | omega | (simp only [List.length_map]; omega)) ?_)
   intro v40_ w41_ S43_ H42_
   have S44_ := Same.trans S39_ S43_
   refine S_list (T_val (v := v40_) (x_assign rfl) ?_)
   refine wpList_nil ?_
   refine (X_blkN (X_then (hK12_ _ _ ?_)))
   clear hK12_
   refine C_reg ?_
   refine S_list (T_val (v := (Value.int .i64 ((k : Int) + 1))) (x_bin rfl rfl (ib_add (IntWalk.i64_in _ (by omega)))) ?_)
   refine S_list (T_val (v := (Value.int .i64 ((k : Int) + 1))) (x_move rfl) ?_)
   refine wpList_nil ?_
   refine (X_then ?_)
   have H45_ := Holds.resl H42_ 3 rfl ((by rw [vSieve_yes hx15_ (by first | (simp_all; done) | (simp_all; omega))] <;> simp [VR.cells, RV.cells, VR.rv]) : ((vSieve L (vStay L at_) k).flatMap VR.cells) ++ [(Value.int .i64 x14_.rev_Main), (Value.int .i64 x14_.rev_Sub), (Value.int .i64 x14_.created_Main), (Value.int .i64 x14_.created_Sub), (Value.int .i64 x14_.ver), (Value.bool x14_.gone)] = (vSieve L (vStay L at_) (k + 1)).flatMap VR.cells) ((by rw [vSieve_yes hx15_ (by first | (simp_all; done) | (simp_all; omega))] <;> simp [VR.cells, RV.cells, VR.rv]) : (List.length (vSieve L (vStay L at_) k)) + 1 = (List.length (vSieve L (vStay L at_) (k + 1))))
   have H46_ : Holds w41_ (sl 66 6 v40_ (List.length (vSieve L (vStay L at_) (k + 1))) ((vSieve L (vStay L at_) (k + 1)).flatMap VR.cells) :: ro R :: F) := (Holds.pkF H45_ [3, 1] 2 :)
   exact ⟨⟨k + 1, v40_⟩, ⟨_, congrArg (fun e => mkA 25 e []) (ch (ch (ch (ch (ch (ch (ch rfl rfl) rfl) rfl) rfl) rfl) rfl) (congrArg (Value.int .i64) ((by first | rfl | omega | (simp; done) | (simp; omega)) : (k : Int) + 1 = ((k + 1 : Nat) : Int)))), H46_, S44_, (by first | assumption | omega | exact rfl)⟩, by first | omega | (dsimp only; omega) | (simp; omega)⟩
  ·skip
   refine C_skip (X_blkN (X_then (hK12_ _ _ ?_)))
   clear hK12_
   refine C_reg ?_
   refine S_list (T_val (v := (Value.int .i64 ((k : Int) + 1))) (x_bin rfl rfl (ib_add (IntWalk.i64_in _ (by omega)))) ?_)
   refine S_list (T_val (v := (Value.int .i64 ((k : Int) + 1))) (x_move rfl) ?_)
   refine wpList_nil ?_
   refine (X_then ?_)
   have H47_ := Holds.resl H30_ 2 rfl ((by rw [vSieve_no hx15_ (by first | (simp_all; done) | (simp_all; omega))] <;> simp [VR.cells, RV.cells, VR.rv]) : (vSieve L (vStay L at_) k).flatMap VR.cells = (vSieve L (vStay L at_) (k + 1)).flatMap VR.cells) ((by rw [vSieve_no hx15_ (by first | (simp_all; done) | (simp_all; omega))] <;> simp [VR.cells, RV.cells, VR.rv]) : (List.length (vSieve L (vStay L at_) k)) = (List.length (vSieve L (vStay L at_) (k + 1))))
   have H48_ : Holds w29_ (sl 66 6 v1 (List.length (vSieve L (vStay L at_) (k + 1))) ((vSieve L (vStay L at_) (k + 1)).flatMap VR.cells) :: ro R :: F) := (Holds.pkF H47_ [2, 0] 1 :)
   exact ⟨⟨k + 1, v1⟩, ⟨_, congrArg (fun e => mkA 25 e []) (ch (ch (ch (ch (ch (ch (ch rfl rfl) rfl) rfl) rfl) rfl) rfl) (congrArg (Value.int .i64) ((by first | rfl | omega | (simp; done) | (simp; omega)) : (k : Int) + 1 = ((k + 1 : Nat) : Int)))), H48_, S33_, (by first | assumption | omega | exact rfl)⟩, by first | omega | (dsimp only; omega) | (simp; omega)⟩
 ·have c11_fp : ¬ ((k : Int) < ((List.length L) : Int)) := of_decide_eq_false c11_f
  refine C_exit (X_thenX (X_thenX (X_blkHit ?_)))
  refine (X_then (hK3_ _ _ ?_))
  clear hK3_
  refine C_seq (fun K49_ hK49_ => ?_)
  refine C_reg ?_
  refine S_list (T_val (v := v1) (x_move rfl) ?_)
  refine S_list (T_val (v := v1) (x_assign rfl) ?_)
  refine wpList_nil ?_
  refine (X_then (hK49_ _ _ ?_))
  clear hK49_
  refine C_ret ?_
  refine R_any (v := v1) (run_results1 rfl rfl) ?_
  have H50_ := Holds.resl H7_ 0 rfl ((by rw [show k = L.length by omega]) : (vSieve L (vStay L at_) k).flatMap VR.cells = (vSieve L (vStay L at_) L.length).flatMap VR.cells) ((by rw [show k = L.length by omega]) : (List.length (vSieve L (vStay L at_) k)) = (List.length (vSieve L (vStay L at_) L.length)))
  have H51_ : Holds w6_ (ro R :: sl 66 6 v1 (List.length (vSieve L (vStay L at_) L.length)) ((vSieve L (vStay L at_) L.length).flatMap VR.cells) :: F) := (Holds.pkF H50_ [1, 0] 0 :)
  exact ⟨_, _, rfl, ⟨v1, rfl, rfl⟩, S8_, H51_⟩

set_option maxHeartbeats 400000 in
theorem kKept (R : HP) (v : Value) (L : List VR) (at_ : Int) (ends : Bool) (hL : RS R 6 v (List.length L) (L.flatMap VR.cells)) (hl : L.length ≤ 10000) :
    Tri Try.prog 30 #[v, (Value.int .i64 at_), (Value.bool ends)] R [] (fun v__ post__ => ∃ (v' : Value), v__ = v' ∧ post__ = [sl 31 2 v' (List.length ((vSieve L (fun i v => decide (v.rev_Main ≤ at_) && vStay L at_ i v && (ends || !v.gone)) L.length).map VR.rv)) (((vSieve L (fun i v => decide (v.rev_Main ≤ at_) && vStay L at_ i v && (ends || !v.gone)) L.length).map VR.rv).flatMap RV.cells)]) := by
 refine Tri.into (n := 43) (al := [v, (Value.int .i64 at_), (Value.bool ends)]) Try.func30 rfl Try.ntmps30 rfl rfl fun w F H => ?_
 refine C_seq (fun K1_ hK1_ => ?_)
 refine C_reg ?_
 refine S_list (T_val (v := (Value.slice none 0 0)) (x_assign rfl) ?_)
 refine wpList_nil ?_
 refine (X_then (hK1_ _ _ ?_))
 clear hK1_
 refine C_seq (fun K2_ hK2_ => ?_)
 refine C_reg ?_
 refine S_list (T_val (v := (Value.slice none 0 0)) (x_assign rfl) ?_)
 refine wpList_nil ?_
 refine (X_then (hK2_ _ _ ?_))
 clear hK2_
 refine C_seq (fun K3_ hK3_ => ?_)
 refine C_seq (fun K4_ hK4_ => ?_)
 refine C_reg ?_
 refine S_list (T_val (v := v) (x_move rfl) ?_)
 refine S_list (T_val (v := (Value.int .i64 ((List.length L) : Int))) (x_lenRS rfl hL Try.underlying23) ?_)
 refine S_list (T_val (v := (Value.int .i64 0)) (x_move rfl) ?_)
 refine wpList_nil ?_
 refine (X_then (hK4_ _ _ ?_))
 clear hK4_
 refine C_block ?_
 have H5_ : Holds w (sl 31 2 (Value.slice none 0 0) (List.length ((vSieve L (fun i v => decide (v.rev_Main ≤ at_) && vStay L at_ i v && (ends || !v.gone)) 0).map VR.rv)) (((vSieve L (fun i v => decide (v.rev_Main ≤ at_) && vStay L at_ i v && (ends || !v.gone)) 0).map VR.rv).flatMap RV.cells) :: ro R :: F) := Holds.add_nil H 31 2
 refine C_loop (γ := Nat × Value) (fun x__ a__ w1__ => match x__ with | ⟨k, v1⟩ => ∃ h : Env, a__ = mkA 43 (upd (upd (upd (upd (upd (upd (upd (upd h 0 v) 1 (Value.int .i64 at_)) 2 (Value.bool ends)) 6 (Value.slice none 0 0)) 7 v1) 10 v) 11 (Value.int .i64 ((List.length L) : Int))) 12 (Value.int .i64 (k : Int))) [] ∧ Holds w1__ (sl 31 2 v1 (List.length ((vSieve L (fun i v => decide (v.rev_Main ≤ at_) && vStay L at_ i v && (ends || !v.gone)) k).map VR.rv)) (((vSieve L (fun i v => decide (v.rev_Main ≤ at_) && vStay L at_ i v && (ends || !v.gone)) k).map VR.rv).flatMap RV.cells) :: ro R :: F) ∧ Same w w1__ ∧ (k ≤ L.length)) (fun x__ => match x__ with | ⟨k, v1⟩ => L.length - k) (⟨0, (Value.slice none 0 0)⟩) ⟨_, congrArg (fun e => mkA 43 e []) (ch (ch (ch (ch (ch (ch (ch (ch rfl rfl) rfl) rfl) rfl) (rfl : (Value.slice none 0 0) = ((Value.slice none 0 0)))) rfl) rfl) (congrArg (Value.int .i64) ((by first | rfl | omega | (simp; done) | (simp; omega)) : 0 = (0 : Int)))), H5_, (Same.refl w), (by first | assumption | omega | exact rfl)⟩ ?_
 rintro ⟨k, v1⟩ _ w6_ ⟨h, rfl, H7_, S8_, hk⟩
 refine C_seq (fun K9_ hK9_ => ?_)
 refine C_reg ?_
 refine S_list (T_val (v := (Value.bool (decide ((k : Int) < ((List.length L) : Int))))) (x_bin rfl rfl rfl) ?_)
 refine wpList_nil ?_
 refine (X_then (hK9_ _ _ ?_))
 clear hK9_
 refine C_seq (fun K10_ hK10_ => ?_)
 refine C_cond (b := decide ((k : Int) < ((List.length L) : Int))) rfl (fun c11_t => ?_) (fun c11_f => ?_)
 ·have c11_tp : (k : Int) < ((List.length L) : Int) := of_decide_eq_true c11_t
  refine C_skip (X_then (hK10_ _ _ ?_))
  clear hK10_
  refine C_seq (fun K12_ hK12_ => ?_)
  refine C_block ?_
  refine C_seq (fun K13_ hK13_ => ?_)
  refine C_reg ?_
  refine S_list (T_val (v := (Value.int .i64 (k : Int))) (x_move rfl) ?_)
  obtain ⟨x14_, hx15_, hm16_⟩ := elem_at L k (by omega)
  refine S_list (T_val (v := (Value.pointer (some ⟨(sb v), so v + (k * 6 + 0), none⟩))) (x_idxRS (v := v) rfl hL rfl Try.underlying23 z66 (by omega) (by omega) (by omega : _ = k) rfl) ?_)
  refine S_list (T_val (v := (Value.agg #[(Value.int .i64 x14_.rev_Main), (Value.int .i64 x14_.rev_Sub), (Value.int .i64 x14_.created_Main), (Value.int .i64 x14_.created_Sub), (Value.int .i64 x14_.ver), (Value.bool x14_.gone)])) (x_loadN (vs := [(Value.int .i64 x14_.rev_Main), (Value.int .i64 x14_.rev_Sub), (Value.int .i64 x14_.created_Main), (Value.int .i64 x14_.created_Sub), (Value.int .i64 x14_.ver), (Value.bool x14_.gone)]) rfl Try.underlying66 rfl z66 rfl (RC.cells (RS.rc hL) (Holds.ro_at H7_ 1 rfl) (k * 6 + 0) (fm_cells VR.len hx15_ (i := 0) rfl))) ?_)
  refine S_list (T_alloc z66 H7_ ?_)
  intro b17_ w18_ S20_ H19_
  have S21_ := Same.trans S8_ S20_
  refine S_list (T_val (v := (Value.int .i64 (k : Int))) (x_assign rfl) ?_)
  refine S_list0 (T_storeN (vs := [(Value.int .i64 x14_.rev_Main), (Value.int .i64 x14_.rev_Sub), (Value.int .i64 x14_.created_Main), (Value.int .i64 x14_.created_Sub), (Value.int .i64 x14_.ver), (Value.bool x14_.gone)]) rfl rfl z66 rfl (by simp [Value.oneCell']) H19_ 0 rfl (Nat.le_of_ble_eq_true (by rfl)) ?_)
  intro w22_ S24_ H23_
  replace H23_ : Holds w22_ (cl b17_ 66 [(Value.int .i64 x14_.rev_Main), (Value.int .i64 x14_.rev_Sub), (Value.int .i64 x14_.created_Main), (Value.int .i64 x14_.created_Sub), (Value.int .i64 x14_.ver), (Value.bool x14_.gone)] :: sl 31 2 v1 (List.length ((vSieve L (fun i v => decide (v.rev_Main ≤ at_) && vStay L at_ i v && (ends || !v.gone)) k).map VR.rv)) (((vSieve L (fun i v => decide (v.rev_Main ≤ at_) && vStay L at_ i v && (ends || !v.gone)) k).map VR.rv).flatMap RV.cells) :: ro R :: F) := H23_
  have S25_ := Same.trans S21_ S24_
  refine wpList_nil ?_
  refine (X_then (hK13_ _ _ ?_))
  clear hK13_
  refine C_seq (fun K26_ hK26_ => ?_)
  refine C_reg ?_
  refine S_list (T_val (v := (Value.pointer (some ⟨b17_, 0, none⟩))) (by kernel_rfl) ?_)
  refine S_list (T_val (v := (Value.pointer (some ⟨b17_, 0, none⟩))) (by kernel_rfl) ?_)
  refine S_list (T_val (v := (Value.int .i64 x14_.rev_Main)) (x_load1 rfl Try.underlying2 rfl ((Holds.rd H23_ 0 rfl) 0 (Value.int .i64 x14_.rev_Main) rfl)) ?_)
  refine S_list (T_val (v := (Value.int .i64 at_)) (x_move rfl) ?_)
  refine S_list (T_val (v := (Value.bool (decide (x14_.rev_Main ≤ at_)))) (x_bin rfl rfl rfl) ?_)
  refine S_list (T_val (v := (Value.bool (decide (x14_.rev_Main ≤ at_)))) (x_move rfl) ?_)
  rcases Bool.eq_false_or_eq_true (decide (x14_.rev_Main ≤ at_)) with c27_t | c27_f
  ·have c27_tp : x14_.rev_Main ≤ at_ := of_decide_eq_true c27_t
   refine S_yes (j := 5) (dj := 22) (b := true) rfl rfl (congrArg Value.bool c27_t) (T_val (v := v) (x_move rfl) ?_)
   refine S_yes (j := 5) (dj := 22) (b := true) rfl rfl (congrArg Value.bool c27_t) (T_val (v := (Value.int .i64 (k : Int))) (x_move rfl) ?_)
   refine S_yes (j := 5) (dj := 22) (b := true) rfl rfl (congrArg Value.bool c27_t) (T_val (v := (Value.int .i64 at_)) (x_move rfl) ?_)
   have H29_ := ((Holds.bring H23_ 2 rfl) :)
   refine S_yes (j := 5) (dj := 22) (b := true) rfl rfl (congrArg Value.bool c27_t) (T_call (al := [v, (Value.int .i64 (k : Int)), (Value.int .i64 at_)]) (pre := []) rfl rfl cb53 (kStays R v L k at_ x14_ hL (by first | assumption | omega) (by first | assumption | omega) (hx15_)) H29_ ?_)
   rintro v28_ p33_ w30_ ⟨rfl, rfl⟩ S32_ H31_
   have S34_ := Same.trans S25_ S32_
   refine S_list (T_pickT (v := (Value.bool (vStay L at_ k x14_))) (congrArg Value.bool c27_t) rfl ?_)
   refine S_list (T_val (v := (Value.bool (vStay L at_ k x14_))) (x_move rfl) ?_)
   rcases Bool.eq_false_or_eq_true (vStay L at_ k x14_) with c35_t | c35_f
   ·skip
    refine S_yes (j := 11) (dj := 28) (b := true) rfl rfl (congrArg Value.bool c35_t) (T_val (v := (Value.bool ends)) (x_move rfl) ?_)
    refine S_yes (j := 11) (dj := 28) (b := true) rfl rfl (congrArg Value.bool c35_t) (T_val (v := (Value.bool ends)) (x_move rfl) ?_)
    rcases Bool.eq_false_or_eq_true (ends) with c36_t | c36_f
    ·skip
     refine S_no (j := 13) (dj := 30) (b := true) rfl rfl (congrArg Value.bool c36_t) (by decide) ?_
     refine S_no (j := 13) (dj := 30) (b := true) rfl rfl (congrArg Value.bool c36_t) (by decide) ?_
     refine S_no (j := 13) (dj := 30) (b := true) rfl rfl (congrArg Value.bool c36_t) (by decide) ?_
     refine S_yes (j := 11) (dj := 28) (b := true) rfl rfl (congrArg Value.bool c35_t) (T_pickT (v := (Value.bool true)) (congrArg Value.bool c36_t) rfl ?_)
     refine S_list (T_pickT (v := (Value.bool true)) (congrArg Value.bool c35_t) rfl ?_)
     refine wpList_nil ?_
     refine (X_then (hK26_ _ _ ?_))
     clear hK26_
     refine C_condT rfl ?_
     refine C_reg ?_
     refine S_list (T_val (v := v1) (x_move rfl) ?_)
     refine S_list (T_val (v := (Value.pointer (some ⟨b17_, 0, none⟩))) (by kernel_rfl) ?_)
     refine S_list (T_val (v := (Value.agg #[(Value.int .i64 x14_.rev_Main), (Value.int .i64 x14_.rev_Sub)])) (x_loadN (vs := [(Value.int .i64 x14_.rev_Main), (Value.int .i64 x14_.rev_Sub)]) rfl Try.underlying31 rfl z31 rfl (Rd.cells (Holds.rd H31_ 1 rfl) 0 rfl)) ?_)
     refine S_list (T_new (obj := .cells #[(Value.int .i64 x14_.rev_Main), (Value.int .i64 x14_.rev_Sub)] 31) (f := fun b__ => .slice (some ⟨b__, 0, none⟩) 1 1) (A := fun b__ => cl b__ 31 [(Value.int .i64 x14_.rev_Main), (Value.int .i64 x14_.rev_Sub)]) (by kernel_rfl) (fun l h => h.alloc _ _) H31_ ?_)
     intro b37_ w38_ S40_ H39_
     replace H39_ : Holds w38_ (cl b37_ 31 [(Value.int .i64 x14_.rev_Main), (Value.int .i64 x14_.rev_Sub)] :: ro R :: cl b17_ 66 [(Value.int .i64 x14_.rev_Main), (Value.int .i64 x14_.rev_Sub), (Value.int .i64 x14_.created_Main), (Value.int .i64 x14_.created_Sub), (Value.int .i64 x14_.ver), (Value.bool x14_.gone)] :: sl 31 2 v1 (List.length ((vSieve L (fun i v => decide (v.rev_Main ≤ at_) && vStay L at_ i v && (ends || !v.gone)) k).map VR.rv)) (((vSieve L (fun i v => decide (v.rev_Main ≤ at_) && vStay L at_ i v && (ends || !v.gone)) k).map VR.rv).flatMap RV.cells) :: F) := H39_
     have S41_ := Same.trans S34_ S40_
     refine S_list (T_append rfl rfl Try.underlying41 z31 rfl (by decide) H39_ 3 rfl (Holds.cl_src H39_ 0 rfl Try.underlying41 (by simp [Value.oneCell']) rfl) (by have hq_ := vSieve_len L (fun i v => decide (v.rev_Main ≤ at_) && vStay L at_ i v && (ends || !v.gone)) k; first | omega | (simp only [List.length_map]; omega)) ?_)
     intro v42_ w43_ S45_ H44_
     have S46_ := Same.trans S41_ S45_
     refine S_list (T_val (v := v42_) (x_assign rfl) ?_)
     refine wpList_nil ?_
     refine (X_blkN (X_then (hK12_ _ _ ?_)))
     clear hK12_
     refine C_reg ?_
     refine S_list (T_val (v := (Value.int .i64 ((k : Int) + 1))) (x_bin rfl rfl (ib_add (IntWalk.i64_in _ (by omega)))) ?_)
     refine S_list (T_val (v := (Value.int .i64 ((k : Int) + 1))) (x_move rfl) ?_)
     refine wpList_nil ?_
     refine (X_then ?_)
     have H47_ := Holds.resl H44_ 3 rfl ((by rw [vSieve_yes hx15_ (by first | (simp_all; done) | (simp_all; omega))] <;> simp [VR.cells, RV.cells, VR.rv]) : (((vSieve L (fun i v => decide (v.rev_Main ≤ at_) && vStay L at_ i v && (ends || !v.gone)) k).map VR.rv).flatMap RV.cells) ++ [(Value.int .i64 x14_.rev_Main), (Value.int .i64 x14_.rev_Sub)] = ((vSieve L (fun i v => decide (v.rev_Main ≤ at_) && vStay L at_ i v && (ends || !v.gone)) (k + 1)).map VR.rv).flatMap RV.cells) ((by rw [vSieve_yes hx15_ (by first | (simp_all; done) | (simp_all; omega))] <;> simp [VR.cells, RV.cells, VR.rv]) : (List.length ((vSieve L (fun i v => decide (v.rev_Main ≤ at_) && vStay L at_ i v && (ends || !v.gone)) k).map VR.rv)) + 1 = (List.length ((vSieve L (fun i v => decide (v.rev_Main ≤ at_) && vStay L at_ i v && (ends || !v.gone)) (k + 1)).map VR.rv)))
     have H48_ : Holds w43_ (sl 31 2 v42_ (List.length ((vSieve L (fun i v => decide (v.rev_Main ≤ at_) && vStay L at_ i v && (ends || !v.gone)) (k + 1)).map VR.rv)) (((vSieve L (fun i v => decide (v.rev_Main ≤ at_) && vStay L at_ i v && (ends || !v.gone)) (k + 1)).map VR.rv).flatMap RV.cells) :: ro R :: F) := (Holds.pkF H47_ [3, 1] 2 :)
     exact ⟨⟨k + 1, v42_⟩, ⟨_, congrArg (fun e => mkA 43 e []) (ch (ch (ch (ch (ch (ch (ch (ch rfl rfl) rfl) rfl) rfl) rfl) rfl) rfl) (congrArg (Value.int .i64) ((by first | rfl | omega | (simp; done) | (simp; omega)) : (k : Int) + 1 = ((k + 1 : Nat) : Int)))), H48_, S46_, (by first | assumption | omega | exact rfl)⟩, by first | omega | (dsimp only; omega) | (simp; omega)⟩
    ·skip
     refine S_yes (j := 13) (dj := 30) (b := false) rfl rfl (congrArg Value.bool c36_f) (T_val (v := (Value.pointer (some ⟨b17_, 5, none⟩))) (by kernel_rfl) ?_)
     refine S_yes (j := 13) (dj := 30) (b := false) rfl rfl (congrArg Value.bool c36_f) (T_val (v := (Value.bool x14_.gone)) (x_load1 rfl Try.underlying4 rfl ((Holds.rd H31_ 1 rfl) 5 (Value.bool x14_.gone) rfl)) ?_)
     refine S_yes (j := 13) (dj := 30) (b := false) rfl rfl (congrArg Value.bool c36_f) (T_val (v := (Value.bool (!x14_.gone))) (x_not rfl) ?_)
     refine S_yes (j := 11) (dj := 28) (b := true) rfl rfl (congrArg Value.bool c35_t) (T_pickF (v := (Value.bool (!x14_.gone))) (congrArg Value.bool c36_f) rfl ?_)
     refine S_list (T_pickT (v := (Value.bool (!x14_.gone))) (congrArg Value.bool c35_t) rfl ?_)
     refine wpList_nil ?_
     refine (X_then (hK26_ _ _ ?_))
     clear hK26_
     refine C_cond (b := !x14_.gone) rfl (fun c49_t => ?_) (fun c49_f => ?_)
     ·skip
      refine C_reg ?_
      refine S_list (T_val (v := v1) (x_move rfl) ?_)
      refine S_list (T_val (v := (Value.pointer (some ⟨b17_, 0, none⟩))) (by kernel_rfl) ?_)
      refine S_list (T_val (v := (Value.agg #[(Value.int .i64 x14_.rev_Main), (Value.int .i64 x14_.rev_Sub)])) (x_loadN (vs := [(Value.int .i64 x14_.rev_Main), (Value.int .i64 x14_.rev_Sub)]) rfl Try.underlying31 rfl z31 rfl (Rd.cells (Holds.rd H31_ 1 rfl) 0 rfl)) ?_)
      refine S_list (T_new (obj := .cells #[(Value.int .i64 x14_.rev_Main), (Value.int .i64 x14_.rev_Sub)] 31) (f := fun b__ => .slice (some ⟨b__, 0, none⟩) 1 1) (A := fun b__ => cl b__ 31 [(Value.int .i64 x14_.rev_Main), (Value.int .i64 x14_.rev_Sub)]) (by kernel_rfl) (fun l h => h.alloc _ _) H31_ ?_)
      intro b50_ w51_ S53_ H52_
      have S54_ := Same.trans S34_ S53_
      refine S_list (T_append rfl rfl Try.underlying41 z31 rfl (by decide) H52_ 3 rfl (Holds.cl_src H52_ 0 rfl Try.underlying41 (by simp [Value.oneCell']) rfl) (by have hq_ := vSieve_len L (fun i v => decide (v.rev_Main ≤ at_) && vStay L at_ i v && (ends || !v.gone)) k; first | omega | (simp only [List.length_map]; omega)) ?_)
      intro v55_ w56_ S58_ H57_
      have S59_ := Same.trans S54_ S58_
      refine S_list (T_val (v := v55_) (x_assign rfl) ?_)
      refine wpList_nil ?_
      refine (X_blkN (X_then (hK12_ _ _ ?_)))
      clear hK12_
      refine C_reg ?_
      refine S_list (T_val (v := (Value.int .i64 ((k : Int) + 1))) (x_bin rfl rfl (ib_add (IntWalk.i64_in _ (by omega)))) ?_)
      refine S_list (T_val (v := (Value.int .i64 ((k : Int) + 1))) (x_move rfl) ?_)
      refine wpList_nil ?_
      refine (X_then ?_)
      have H60_ := Holds.resl H57_ 3 rfl ((by rw [vSieve_yes hx15_ (by first | (simp_all; done) | (simp_all; omega))] <;> simp [VR.cells, RV.cells, VR.rv]) : (((vSieve L (fun i v => decide (v.rev_Main ≤ at_) && vStay L at_ i v && (ends || !v.gone)) k).map VR.rv).flatMap RV.cells) ++ [(Value.int .i64 x14_.rev_Main), (Value.int .i64 x14_.rev_Sub)] = ((vSieve L (fun i v => decide (v.rev_Main ≤ at_) && vStay L at_ i v && (ends || !v.gone)) (k + 1)).map VR.rv).flatMap RV.cells) ((by rw [vSieve_yes hx15_ (by first | (simp_all; done) | (simp_all; omega))] <;> simp [VR.cells, RV.cells, VR.rv]) : (List.length ((vSieve L (fun i v => decide (v.rev_Main ≤ at_) && vStay L at_ i v && (ends || !v.gone)) k).map VR.rv)) + 1 = (List.length ((vSieve L (fun i v => decide (v.rev_Main ≤ at_) && vStay L at_ i v && (ends || !v.gone)) (k + 1)).map VR.rv)))
      have H61_ : Holds w56_ (sl 31 2 v55_ (List.length ((vSieve L (fun i v => decide (v.rev_Main ≤ at_) && vStay L at_ i v && (ends || !v.gone)) (k + 1)).map VR.rv)) (((vSieve L (fun i v => decide (v.rev_Main ≤ at_) && vStay L at_ i v && (ends || !v.gone)) (k + 1)).map VR.rv).flatMap RV.cells) :: ro R :: F) := (Holds.pkF H60_ [3, 1] 2 :)
      exact ⟨⟨k + 1, v55_⟩, ⟨_, congrArg (fun e => mkA 43 e []) (ch (ch (ch (ch (ch (ch (ch (ch rfl rfl) rfl) rfl) rfl) rfl) rfl) rfl) (congrArg (Value.int .i64) ((by first | rfl | omega | (simp; done) | (simp; omega)) : (k : Int) + 1 = ((k + 1 : Nat) : Int)))), H61_, S59_, (by first | assumption | omega | exact rfl)⟩, by first | omega | (dsimp only; omega) | (simp; omega)⟩
     ·skip
      refine C_skip (X_blkN (X_then (hK12_ _ _ ?_)))
      clear hK12_
      refine C_reg ?_
      refine S_list (T_val (v := (Value.int .i64 ((k : Int) + 1))) (x_bin rfl rfl (ib_add (IntWalk.i64_in _ (by omega)))) ?_)
      refine S_list (T_val (v := (Value.int .i64 ((k : Int) + 1))) (x_move rfl) ?_)
      refine wpList_nil ?_
      refine (X_then ?_)
      have H62_ := Holds.resl H31_ 2 rfl ((by rw [vSieve_no hx15_ (by first | (simp_all; done) | (simp_all; omega))] <;> simp [VR.cells, RV.cells, VR.rv]) : ((vSieve L (fun i v => decide (v.rev_Main ≤ at_) && vStay L at_ i v && (ends || !v.gone)) k).map VR.rv).flatMap RV.cells = ((vSieve L (fun i v => decide (v.rev_Main ≤ at_) && vStay L at_ i v && (ends || !v.gone)) (k + 1)).map VR.rv).flatMap RV.cells) ((by rw [vSieve_no hx15_ (by first | (simp_all; done) | (simp_all; omega))] <;> simp [VR.cells, RV.cells, VR.rv]) : (List.length ((vSieve L (fun i v => decide (v.rev_Main ≤ at_) && vStay L at_ i v && (ends || !v.gone)) k).map VR.rv)) = (List.length ((vSieve L (fun i v => decide (v.rev_Main ≤ at_) && vStay L at_ i v && (ends || !v.gone)) (k + 1)).map VR.rv)))
      have H63_ : Holds w30_ (sl 31 2 v1 (List.length ((vSieve L (fun i v => decide (v.rev_Main ≤ at_) && vStay L at_ i v && (ends || !v.gone)) (k + 1)).map VR.rv)) (((vSieve L (fun i v => decide (v.rev_Main ≤ at_) && vStay L at_ i v && (ends || !v.gone)) (k + 1)).map VR.rv).flatMap RV.cells) :: ro R :: F) := (Holds.pkF H62_ [2, 0] 1 :)
      exact ⟨⟨k + 1, v1⟩, ⟨_, congrArg (fun e => mkA 43 e []) (ch (ch (ch (ch (ch (ch (ch (ch rfl rfl) rfl) rfl) rfl) rfl) rfl) rfl) (congrArg (Value.int .i64) ((by first | rfl | omega | (simp; done) | (simp; omega)) : (k : Int) + 1 = ((k + 1 : Nat) : Int)))), H63_, S34_, (by first | assumption | omega | exact rfl)⟩, by first | omega | (dsimp only; omega) | (simp; omega)⟩
   ·skip
    refine S_no (j := 11) (dj := 28) (b := false) rfl rfl (congrArg Value.bool c35_f) (by decide) ?_
    refine S_no (j := 11) (dj := 28) (b := false) rfl rfl (congrArg Value.bool c35_f) (by decide) ?_
    refine S_noU (j := 13) (dj := 30) rfl rfl rfl ?_
    refine S_noU (j := 13) (dj := 30) rfl rfl rfl ?_
    refine S_noU (j := 13) (dj := 30) rfl rfl rfl ?_
    refine S_no (j := 11) (dj := 28) (b := false) rfl rfl (congrArg Value.bool c35_f) (by decide) ?_
    refine S_list (T_pickF (v := (Value.bool false)) (congrArg Value.bool c35_f) rfl ?_)
    refine wpList_nil ?_
    refine (X_then (hK26_ _ _ ?_))
    clear hK26_
    refine C_condF rfl ?_
    refine C_skip (X_blkN (X_then (hK12_ _ _ ?_)))
    clear hK12_
    refine C_reg ?_
    refine S_list (T_val (v := (Value.int .i64 ((k : Int) + 1))) (x_bin rfl rfl (ib_add (IntWalk.i64_in _ (by omega)))) ?_)
    refine S_list (T_val (v := (Value.int .i64 ((k : Int) + 1))) (x_move rfl) ?_)
    refine wpList_nil ?_
    refine (X_then ?_)
    have H64_ := Holds.resl H31_ 2 rfl ((by rw [vSieve_no hx15_ (by first | (simp_all; done) | (simp_all; omega))] <;> simp [VR.cells, RV.cells, VR.rv]) : ((vSieve L (fun i v => decide (v.rev_Main ≤ at_) && vStay L at_ i v && (ends || !v.gone)) k).map VR.rv).flatMap RV.cells = ((vSieve L (fun i v => decide (v.rev_Main ≤ at_) && vStay L at_ i v && (ends || !v.gone)) (k + 1)).map VR.rv).flatMap RV.cells) ((by rw [vSieve_no hx15_ (by first | (simp_all; done) | (simp_all; omega))] <;> simp [VR.cells, RV.cells, VR.rv]) : (List.length ((vSieve L (fun i v => decide (v.rev_Main ≤ at_) && vStay L at_ i v && (ends || !v.gone)) k).map VR.rv)) = (List.length ((vSieve L (fun i v => decide (v.rev_Main ≤ at_) && vStay L at_ i v && (ends || !v.gone)) (k + 1)).map VR.rv)))
    have H65_ : Holds w30_ (sl 31 2 v1 (List.length ((vSieve L (fun i v => decide (v.rev_Main ≤ at_) && vStay L at_ i v && (ends || !v.gone)) (k + 1)).map VR.rv)) (((vSieve L (fun i v => decide (v.rev_Main ≤ at_) && vStay L at_ i v && (ends || !v.gone)) (k + 1)).map VR.rv).flatMap RV.cells) :: ro R :: F) := (Holds.pkF H64_ [2, 0] 1 :)
    exact ⟨⟨k + 1, v1⟩, ⟨_, congrArg (fun e => mkA 43 e []) (ch (ch (ch (ch (ch (ch (ch (ch rfl rfl) rfl) rfl) rfl) rfl) rfl) rfl) (congrArg (Value.int .i64) ((by first | rfl | omega | (simp; done) | (simp; omega)) : (k : Int) + 1 = ((k + 1 : Nat) : Int)))), H65_, S34_, (by first | assumption | omega | exact rfl)⟩, by first | omega | (dsimp only; omega) | (simp; omega)⟩
  ·have c27_fp : ¬ (x14_.rev_Main ≤ at_) := of_decide_eq_false c27_f
   refine S_no (j := 5) (dj := 22) (b := false) rfl rfl (congrArg Value.bool c27_f) (by decide) ?_
   refine S_no (j := 5) (dj := 22) (b := false) rfl rfl (congrArg Value.bool c27_f) (by decide) ?_
   refine S_no (j := 5) (dj := 22) (b := false) rfl rfl (congrArg Value.bool c27_f) (by decide) ?_
   refine S_no (j := 5) (dj := 22) (b := false) rfl rfl (congrArg Value.bool c27_f) (by decide) ?_
   refine S_list (T_pickF (v := (Value.bool false)) (congrArg Value.bool c27_f) rfl ?_)
   refine S_list (T_val (v := (Value.bool false)) (x_move rfl) ?_)
   refine S_no (j := 11) (dj := 28) (b := false) rfl rfl rfl (by decide) ?_
   refine S_no (j := 11) (dj := 28) (b := false) rfl rfl rfl (by decide) ?_
   refine S_noU (j := 13) (dj := 30) rfl rfl rfl ?_
   refine S_noU (j := 13) (dj := 30) rfl rfl rfl ?_
   refine S_noU (j := 13) (dj := 30) rfl rfl rfl ?_
   refine S_no (j := 11) (dj := 28) (b := false) rfl rfl rfl (by decide) ?_
   refine S_list (T_pickF (v := (Value.bool false)) rfl rfl ?_)
   refine wpList_nil ?_
   refine (X_then (hK26_ _ _ ?_))
   clear hK26_
   refine C_condF rfl ?_
   refine C_skip (X_blkN (X_then (hK12_ _ _ ?_)))
   clear hK12_
   refine C_reg ?_
   refine S_list (T_val (v := (Value.int .i64 ((k : Int) + 1))) (x_bin rfl rfl (ib_add (IntWalk.i64_in _ (by omega)))) ?_)
   refine S_list (T_val (v := (Value.int .i64 ((k : Int) + 1))) (x_move rfl) ?_)
   refine wpList_nil ?_
   refine (X_then ?_)
   have H66_ := Holds.resl H23_ 1 rfl ((by rw [vSieve_no hx15_ (by first | (simp_all; done) | (simp_all; omega))] <;> simp [VR.cells, RV.cells, VR.rv]) : ((vSieve L (fun i v => decide (v.rev_Main ≤ at_) && vStay L at_ i v && (ends || !v.gone)) k).map VR.rv).flatMap RV.cells = ((vSieve L (fun i v => decide (v.rev_Main ≤ at_) && vStay L at_ i v && (ends || !v.gone)) (k + 1)).map VR.rv).flatMap RV.cells) ((by rw [vSieve_no hx15_ (by first | (simp_all; done) | (simp_all; omega))] <;> simp [VR.cells, RV.cells, VR.rv]) : (List.length ((vSieve L (fun i v => decide (v.rev_Main ≤ at_) && vStay L at_ i v && (ends || !v.gone)) k).map VR.rv)) = (List.length ((vSieve L (fun i v => decide (v.rev_Main ≤ at_) && vStay L at_ i v && (ends || !v.gone)) (k + 1)).map VR.rv)))
   have H67_ : Holds w22_ (sl 31 2 v1 (List.length ((vSieve L (fun i v => decide (v.rev_Main ≤ at_) && vStay L at_ i v && (ends || !v.gone)) (k + 1)).map VR.rv)) (((vSieve L (fun i v => decide (v.rev_Main ≤ at_) && vStay L at_ i v && (ends || !v.gone)) (k + 1)).map VR.rv).flatMap RV.cells) :: ro R :: F) := (Holds.pkF H66_ [1, 1] 1 :)
   exact ⟨⟨k + 1, v1⟩, ⟨_, congrArg (fun e => mkA 43 e []) (ch (ch (ch (ch (ch (ch (ch (ch rfl rfl) rfl) rfl) rfl) rfl) rfl) rfl) (congrArg (Value.int .i64) ((by first | rfl | omega | (simp; done) | (simp; omega)) : (k : Int) + 1 = ((k + 1 : Nat) : Int)))), H67_, S25_, (by first | assumption | omega | exact rfl)⟩, by first | omega | (dsimp only; omega) | (simp; omega)⟩
 ·have c11_fp : ¬ ((k : Int) < ((List.length L) : Int)) := of_decide_eq_false c11_f
  refine C_exit (X_thenX (X_thenX (X_blkHit ?_)))
  refine (X_then (hK3_ _ _ ?_))
  clear hK3_
  refine C_seq (fun K68_ hK68_ => ?_)
  refine C_reg ?_
  refine S_list (T_val (v := v1) (x_move rfl) ?_)
  refine S_list (T_val (v := v1) (x_assign rfl) ?_)
  refine wpList_nil ?_
  refine (X_then (hK68_ _ _ ?_))
  clear hK68_
  refine C_ret ?_
  refine R_any (v := v1) (run_results1 rfl rfl) ?_
  have H69_ := Holds.resl H7_ 0 rfl ((by rw [show k = L.length by omega]) : ((vSieve L (fun i v => decide (v.rev_Main ≤ at_) && vStay L at_ i v && (ends || !v.gone)) k).map VR.rv).flatMap RV.cells = ((vSieve L (fun i v => decide (v.rev_Main ≤ at_) && vStay L at_ i v && (ends || !v.gone)) L.length).map VR.rv).flatMap RV.cells) ((by rw [show k = L.length by omega]) : (List.length ((vSieve L (fun i v => decide (v.rev_Main ≤ at_) && vStay L at_ i v && (ends || !v.gone)) k).map VR.rv)) = (List.length ((vSieve L (fun i v => decide (v.rev_Main ≤ at_) && vStay L at_ i v && (ends || !v.gone)) L.length).map VR.rv)))
  have H70_ : Holds w6_ (ro R :: sl 31 2 v1 (List.length ((vSieve L (fun i v => decide (v.rev_Main ≤ at_) && vStay L at_ i v && (ends || !v.gone)) L.length).map VR.rv)) (((vSieve L (fun i v => decide (v.rev_Main ≤ at_) && vStay L at_ i v && (ends || !v.gone)) L.length).map VR.rv).flatMap RV.cells) :: F) := (Holds.pkF H69_ [1, 0] 0 :)
  exact ⟨_, _, rfl, ⟨v1, rfl, rfl⟩, S8_, H70_⟩

set_option maxHeartbeats 400000 in
theorem kSince (R : HP) (v : Value) (L : List VR) (at_ : Int) (hL : RS R 6 v (List.length L) (L.flatMap VR.cells)) (hl : L.length ≤ 10000) :
    Tri Try.prog 12 #[v, (Value.int .i64 at_)] R [] (fun v__ post__ => ∃ (v' : Value), v__ = v' ∧ post__ = [sl 31 2 v' (List.length ((vSieve L (vSinceP L at_) L.length).map VR.rv)) (((vSieve L (vSinceP L at_) L.length).map VR.rv).flatMap RV.cells)]) := by
 refine Tri.into (n := 47) (al := [v, (Value.int .i64 at_)]) Try.func12 rfl Try.ntmps12 rfl rfl fun w F H => ?_
 refine C_seq (fun K1_ hK1_ => ?_)
 refine C_reg ?_
 refine S_list (T_val (v := (Value.slice none 0 0)) (x_assign rfl) ?_)
 refine wpList_nil ?_
 refine (X_then (hK1_ _ _ ?_))
 clear hK1_
 refine C_seq (fun K2_ hK2_ => ?_)
 refine C_reg ?_
 refine S_list (T_val (v := (Value.slice none 0 0)) (x_assign rfl) ?_)
 refine wpList_nil ?_
 refine (X_then (hK2_ _ _ ?_))
 clear hK2_
 refine C_seq (fun K3_ hK3_ => ?_)
 refine C_seq (fun K4_ hK4_ => ?_)
 refine C_reg ?_
 refine S_list (T_val (v := v) (x_move rfl) ?_)
 refine S_list (T_val (v := (Value.int .i64 ((List.length L) : Int))) (x_lenRS rfl hL Try.underlying23) ?_)
 refine S_list (T_val (v := (Value.int .i64 0)) (x_move rfl) ?_)
 refine wpList_nil ?_
 refine (X_then (hK4_ _ _ ?_))
 clear hK4_
 refine C_block ?_
 have H5_ : Holds w (sl 31 2 (Value.slice none 0 0) (List.length ((vSieve L (vSinceP L at_) 0).map VR.rv)) (((vSieve L (vSinceP L at_) 0).map VR.rv).flatMap RV.cells) :: ro R :: F) := Holds.add_nil H 31 2
 refine C_loop (γ := Nat × Value) (fun x__ a__ w1__ => match x__ with | ⟨k, v1⟩ => ∃ h : Env, a__ = mkA 47 (upd (upd (upd (upd (upd (upd (upd h 0 v) 1 (Value.int .i64 at_)) 4 (Value.slice none 0 0)) 5 v1) 8 v) 9 (Value.int .i64 ((List.length L) : Int))) 10 (Value.int .i64 (k : Int))) [] ∧ Holds w1__ (sl 31 2 v1 (List.length ((vSieve L (vSinceP L at_) k).map VR.rv)) (((vSieve L (vSinceP L at_) k).map VR.rv).flatMap RV.cells) :: ro R :: F) ∧ Same w w1__ ∧ (k ≤ L.length)) (fun x__ => match x__ with | ⟨k, v1⟩ => L.length - k) (⟨0, (Value.slice none 0 0)⟩) ⟨_, congrArg (fun e => mkA 47 e []) (ch (ch (ch (ch (ch (ch (ch rfl rfl) rfl) rfl) (rfl : (Value.slice none 0 0) = ((Value.slice none 0 0)))) rfl) rfl) (congrArg (Value.int .i64) ((by first | rfl | omega | (simp; done) | (simp; omega)) : 0 = (0 : Int)))), H5_, (Same.refl w), (by first | assumption | omega | exact rfl)⟩ ?_
 rintro ⟨k, v1⟩ _ w6_ ⟨h, rfl, H7_, S8_, hk⟩
 refine C_seq (fun K9_ hK9_ => ?_)
 refine C_reg ?_
 refine S_list (T_val (v := (Value.bool (decide ((k : Int) < ((List.length L) : Int))))) (x_bin rfl rfl rfl) ?_)
 refine wpList_nil ?_
 refine (X_then (hK9_ _ _ ?_))
 clear hK9_
 refine C_seq (fun K10_ hK10_ => ?_)
 refine C_cond (b := decide ((k : Int) < ((List.length L) : Int))) rfl (fun c11_t => ?_) (fun c11_f => ?_)
 ·have c11_tp : (k : Int) < ((List.length L) : Int) := of_decide_eq_true c11_t
  refine C_skip (X_then (hK10_ _ _ ?_))
  clear hK10_
  refine C_seq (fun K12_ hK12_ => ?_)
  refine C_block ?_
  refine C_seq (fun K13_ hK13_ => ?_)
  refine C_reg ?_
  refine S_list (T_val (v := (Value.int .i64 (k : Int))) (x_move rfl) ?_)
  obtain ⟨x14_, hx15_, hm16_⟩ := elem_at L k (by omega)
  refine S_list (T_val (v := (Value.pointer (some ⟨(sb v), so v + (k * 6 + 0), none⟩))) (x_idxRS (v := v) rfl hL rfl Try.underlying23 z66 (by omega) (by omega) (by omega : _ = k) rfl) ?_)
  refine S_list (T_val (v := (Value.agg #[(Value.int .i64 x14_.rev_Main), (Value.int .i64 x14_.rev_Sub), (Value.int .i64 x14_.created_Main), (Value.int .i64 x14_.created_Sub), (Value.int .i64 x14_.ver), (Value.bool x14_.gone)])) (x_loadN (vs := [(Value.int .i64 x14_.rev_Main), (Value.int .i64 x14_.rev_Sub), (Value.int .i64 x14_.created_Main), (Value.int .i64 x14_.created_Sub), (Value.int .i64 x14_.ver), (Value.bool x14_.gone)]) rfl Try.underlying66 rfl z66 rfl (RC.cells (RS.rc hL) (Holds.ro_at H7_ 1 rfl) (k * 6 + 0) (fm_cells VR.len hx15_ (i := 0) rfl))) ?_)
  refine S_list (T_alloc z66 H7_ ?_)
  intro b17_ w18_ S20_ H19_
  have S21_ := Same.trans S8_ S20_
  refine S_list (T_val (v := (Value.int .i64 (k : Int))) (x_assign rfl) ?_)
  refine S_list0 (T_storeN (vs := [(Value.int .i64 x14_.rev_Main), (Value.int .i64 x14_.rev_Sub), (Value.int .i64 x14_.created_Main), (Value.int .i64 x14_.created_Sub), (Value.int .i64 x14_.ver), (Value.bool x14_.gone)]) rfl rfl z66 rfl (by simp [Value.oneCell']) H19_ 0 rfl (Nat.le_of_ble_eq_true (by rfl)) ?_)
  intro w22_ S24_ H23_
  replace H23_ : Holds w22_ (cl b17_ 66 [(Value.int .i64 x14_.rev_Main), (Value.int .i64 x14_.rev_Sub), (Value.int .i64 x14_.created_Main), (Value.int .i64 x14_.created_Sub), (Value.int .i64 x14_.ver), (Value.bool x14_.gone)] :: sl 31 2 v1 (List.length ((vSieve L (vSinceP L at_) k).map VR.rv)) (((vSieve L (vSinceP L at_) k).map VR.rv).flatMap RV.cells) :: ro R :: F) := H23_
  have S25_ := Same.trans S21_ S24_
  refine wpList_nil ?_
  refine (X_then (hK13_ _ _ ?_))
  clear hK13_
  refine C_seq (fun K26_ hK26_ => ?_)
  refine A_start (S := fun w => Rd b17_ [(Value.int .i64 x14_.rev_Main), (Value.int .i64 x14_.rev_Sub), (Value.int .i64 x14_.created_Main), (Value.int .i64 x14_.created_Sub), (Value.int .i64 x14_.ver), (Value.bool x14_.gone)] w ∧ SlRd v1 (((vSieve L (vSinceP L at_) k).map VR.rv).flatMap RV.cells) w ∧ Sub R (hp w)) (N := 25) foll rfl rfl ?_
  have H27_ := Holds.drew_ H23_
  have hq28_ := And.intro (Holds.rd H27_ 0 rfl) (And.intro (Holds.slrd H27_ 1 rfl) ((Holds.ro_at H27_ 2 rfl)))
  refine A_tk 0 (v := (Value.pointer (some ⟨b17_, 0, none⟩))) rfl (by kernel_rfl) (fun w hS => by kernel_rfl) hq28_ ?_
  refine A_tk 1 (v := (Value.pointer (some ⟨b17_, 0, none⟩))) rfl (by kernel_rfl) (fun w hS => by kernel_rfl) hq28_ ?_
  refine A_tk 2 (v := (Value.int .i64 x14_.rev_Main)) rfl (by kernel_rfl) (fun w hS => x_load1 rfl Try.underlying2 rfl (hS.1 0 (Value.int .i64 x14_.rev_Main) rfl)) hq28_ ?_
  refine A_tk 3 (v := (Value.int .i64 at_)) rfl (by kernel_rfl) (fun w hS => x_move rfl) hq28_ ?_
  refine A_tk 4 (v := (Value.bool (decide (at_ ≤ x14_.rev_Main)))) rfl (by kernel_rfl) (fun w hS => x_bin rfl rfl rfl) hq28_ ?_
  refine A_tk 5 (v := (Value.bool (decide (at_ ≤ x14_.rev_Main)))) rfl (by kernel_rfl) (fun w hS => x_move rfl) hq28_ ?_
  rcases Bool.eq_false_or_eq_true (decide (at_ ≤ x14_.rev_Main)) with c29_t | c29_f
  ·have c29_tp : at_ ≤ x14_.rev_Main := of_decide_eq_true c29_t
   refine A_tkY 6 (j := 5) (dj := 20) (b := true) (v := (Value.int .i64 (k : Int))) rfl (by kernel_rfl) rfl rfl (congrArg Value.bool c29_t) (fun w hS => x_move rfl) hq28_ ?_
   refine A_tkY 7 (j := 5) (dj := 20) (b := true) (v := v) rfl (by kernel_rfl) rfl rfl (congrArg Value.bool c29_t) (fun w hS => x_move rfl) hq28_ ?_
   refine A_tkY 8 (j := 5) (dj := 20) (b := true) (v := (Value.int .i64 ((List.length L) : Int))) rfl (by kernel_rfl) rfl rfl (congrArg Value.bool c29_t) (fun w hS => x_lenRS rfl hL Try.underlying23) hq28_ ?_
   refine A_tkY 9 (j := 5) (dj := 20) (b := true) (v := (Value.int .i64 (((List.length L) : Int) - 1))) rfl (by kernel_rfl) rfl rfl (congrArg Value.bool c29_t) (fun w hS => x_bin rfl rfl (ib_sub (IntWalk.i64_in _ (by omega)))) hq28_ ?_
   refine A_tkY 10 (j := 5) (dj := 20) (b := true) (v := (Value.bool (decide ((k : Int) = ((List.length L) : Int) - 1)))) rfl (by kernel_rfl) rfl rfl (congrArg Value.bool c29_t) (fun w hS => x_bin rfl rfl rfl) hq28_ ?_
   refine A_tkY 11 (j := 5) (dj := 20) (b := true) (v := (Value.bool (decide ((k : Int) = ((List.length L) : Int) - 1)))) rfl (by kernel_rfl) rfl rfl (congrArg Value.bool c29_t) (fun w hS => x_move rfl) hq28_ ?_
   rcases Bool.eq_false_or_eq_true (decide ((k : Int) = ((List.length L) : Int) - 1)) with c30_t | c30_f
   ·have c30_tp : (k : Int) = ((List.length L) : Int) - 1 := of_decide_eq_true c30_t
    refine A_tkN 12 (j := 11) (dj := 26) (b := true) rfl (by kernel_rfl) rfl rfl (congrArg Value.bool c30_t) (by decide) hq28_ ?_
    refine A_tkN 13 (j := 11) (dj := 26) (b := true) rfl (by kernel_rfl) rfl rfl (congrArg Value.bool c30_t) (by decide) hq28_ ?_
    refine A_tkN 14 (j := 11) (dj := 26) (b := true) rfl (by kernel_rfl) rfl rfl (congrArg Value.bool c30_t) (by decide) hq28_ ?_
    refine A_tkN 15 (j := 11) (dj := 26) (b := true) rfl (by kernel_rfl) rfl rfl (congrArg Value.bool c30_t) (by decide) hq28_ ?_
    refine A_tkN 16 (j := 11) (dj := 26) (b := true) rfl (by kernel_rfl) rfl rfl (congrArg Value.bool c30_t) (by decide) hq28_ ?_
    refine A_tkN 17 (j := 11) (dj := 26) (b := true) rfl (by kernel_rfl) rfl rfl (congrArg Value.bool c30_t) (by decide) hq28_ ?_
    refine A_tkN 18 (j := 11) (dj := 26) (b := true) rfl (by kernel_rfl) rfl rfl (congrArg Value.bool c30_t) (by decide) hq28_ ?_
    refine A_tkN 19 (j := 11) (dj := 26) (b := true) rfl (by kernel_rfl) rfl rfl (congrArg Value.bool c30_t) (by decide) hq28_ ?_
    refine A_tkN 20 (j := 11) (dj := 26) (b := true) rfl (by kernel_rfl) rfl rfl (congrArg Value.bool c30_t) (by decide) hq28_ ?_
    refine A_tkN 21 (j := 11) (dj := 26) (b := true) rfl (by kernel_rfl) rfl rfl (congrArg Value.bool c30_t) (by decide) hq28_ ?_
    refine A_tkN 22 (j := 11) (dj := 26) (b := true) rfl (by kernel_rfl) rfl rfl (congrArg Value.bool c30_t) (by decide) hq28_ ?_
    refine A_tkY 23 (j := 5) (dj := 20) (b := true) (v := (Value.bool true)) rfl (by kernel_rfl) rfl rfl (congrArg Value.bool c29_t) (fun w hS => (x_pickT (congrArg Value.bool c30_t) rfl)) hq28_ ?_
    refine A_tk 24 (v := (Value.bool true)) rfl (by kernel_rfl) (fun w hS => (x_pickT (congrArg Value.bool c29_t) rfl)) hq28_ ?_
    refine A_done (by kernel_rfl) ?_
    refine (X_then (hK26_ _ _ ?_))
    clear hK26_
    refine C_condT rfl ?_
    refine C_reg ?_
    refine S_list (T_val (v := v1) (x_move rfl) ?_)
    refine S_list (T_val (v := (Value.pointer (some ⟨b17_, 0, none⟩))) (by kernel_rfl) ?_)
    refine S_list (T_val (v := (Value.agg #[(Value.int .i64 x14_.rev_Main), (Value.int .i64 x14_.rev_Sub)])) (x_loadN (vs := [(Value.int .i64 x14_.rev_Main), (Value.int .i64 x14_.rev_Sub)]) rfl Try.underlying31 rfl z31 rfl (Rd.cells (Holds.rd H27_ 0 rfl) 0 rfl)) ?_)
    refine S_list (T_new (obj := .cells #[(Value.int .i64 x14_.rev_Main), (Value.int .i64 x14_.rev_Sub)] 31) (f := fun b__ => .slice (some ⟨b__, 0, none⟩) 1 1) (A := fun b__ => cl b__ 31 [(Value.int .i64 x14_.rev_Main), (Value.int .i64 x14_.rev_Sub)]) (by kernel_rfl) (fun l h => h.alloc _ _) H27_ ?_)
    intro b31_ w32_ S34_ H33_
    have S35_ := Same.trans (Same.trans S25_ (Same.drew _)) S34_
    refine S_list (T_append rfl rfl Try.underlying41 z31 rfl (by decide) H33_ 2 rfl (Holds.cl_src H33_ 0 rfl Try.underlying41 (by simp [Value.oneCell']) rfl) (by have hq_ := vSieve_len L (vSinceP L at_) k; first | omega | (simp only [List.length_map]; omega)) ?_)
    intro v36_ w37_ S39_ H38_
    have S40_ := Same.trans S35_ S39_
    refine S_list (T_val (v := v36_) (x_assign rfl) ?_)
    refine wpList_nil ?_
    refine (X_blkN (X_then (hK12_ _ _ ?_)))
    clear hK12_
    refine C_reg ?_
    refine S_list (T_val (v := (Value.int .i64 ((k : Int) + 1))) (x_bin rfl rfl (ib_add (IntWalk.i64_in _ (by omega)))) ?_)
    refine S_list (T_val (v := (Value.int .i64 ((k : Int) + 1))) (x_move rfl) ?_)
    refine wpList_nil ?_
    refine (X_then ?_)
    have H41_ := Holds.resl H38_ 2 rfl ((by rw [vSieve_yes hx15_ (vSinceP_end c29_tp c30_tp)] <;> simp [VR.cells, RV.cells, VR.rv]) : (((vSieve L (vSinceP L at_) k).map VR.rv).flatMap RV.cells) ++ [(Value.int .i64 x14_.rev_Main), (Value.int .i64 x14_.rev_Sub)] = ((vSieve L (vSinceP L at_) (k + 1)).map VR.rv).flatMap RV.cells) ((by rw [vSieve_yes hx15_ (vSinceP_end c29_tp c30_tp)] <;> simp [VR.cells, RV.cells, VR.rv]) : (List.length ((vSieve L (vSinceP L at_) k).map VR.rv)) + 1 = (List.length ((vSieve L (vSinceP L at_) (k + 1)).map VR.rv)))
    have H42_ : Holds w37_ (sl 31 2 v36_ (List.length ((vSieve L (vSinceP L at_) (k + 1)).map VR.rv)) (((vSieve L (vSinceP L at_) (k + 1)).map VR.rv).flatMap RV.cells) :: ro R :: F) := (Holds.pkF H41_ [2, 2] 2 :)
    exact ⟨⟨k + 1, v36_⟩, ⟨_, congrArg (fun e => mkA 47 e []) (ch (ch (ch (ch (ch (ch (ch rfl rfl) rfl) rfl) rfl) rfl) rfl) (congrArg (Value.int .i64) ((by first | rfl | omega | (simp; done) | (simp; omega)) : (k : Int) + 1 = ((k + 1 : Nat) : Int)))), H42_, S40_, (by first | assumption | omega | exact rfl)⟩, by first | omega | (dsimp only; omega) | (simp; omega)⟩
   ·have c30_fp : ¬ ((k : Int) = ((List.length L) : Int) - 1) := of_decide_eq_false c30_f
    refine A_tkY 12 (j := 11) (dj := 26) (b := false) (v := v) rfl (by kernel_rfl) rfl rfl (congrArg Value.bool c30_f) (fun w hS => x_move rfl) hq28_ ?_
    refine A_tkY 13 (j := 11) (dj := 26) (b := false) (v := (Value.int .i64 (k : Int))) rfl (by kernel_rfl) rfl rfl (congrArg Value.bool c30_f) (fun w hS => x_move rfl) hq28_ ?_
    refine A_tkY 14 (j := 11) (dj := 26) (b := false) (v := (Value.int .i64 ((k : Int) + 1))) rfl (by kernel_rfl) rfl rfl (congrArg Value.bool c30_f) (fun w hS => x_bin rfl rfl (ib_add (IntWalk.i64_in _ (by omega)))) hq28_ ?_
    obtain ⟨x43_, hx44_, hm45_⟩ := elem_at L (k + 1) (by omega)
    refine A_tkY 15 (j := 11) (dj := 26) (b := false) (v := (Value.pointer (some ⟨(sb v), so v + ((k + 1) * 6 + 0), none⟩))) rfl (by kernel_rfl) rfl rfl (congrArg Value.bool c30_f) (fun w hS => x_idxRS (v := v) rfl hL rfl Try.underlying23 z66 (by omega) (by omega) (by omega : _ = k + 1) rfl) hq28_ ?_
    refine A_tkY 16 (j := 11) (dj := 26) (b := false) (v := (Value.pointer (some ⟨(sb v), so v + ((k + 1) * 6 + 0), none⟩))) rfl (by kernel_rfl) rfl rfl (congrArg Value.bool c30_f) (fun w hS => by kernel_rfl) hq28_ ?_
    refine A_tkY 17 (j := 11) (dj := 26) (b := false) (v := (Value.pointer (some ⟨(sb v), so v + ((k + 1) * 6 + 0), none⟩))) rfl (by kernel_rfl) rfl rfl (congrArg Value.bool c30_f) (fun w hS => by kernel_rfl) hq28_ ?_
    refine A_tkY 18 (j := 11) (dj := 26) (b := false) (v := (Value.int .i64 x43_.rev_Main)) rfl (by kernel_rfl) rfl rfl (congrArg Value.bool c30_f) (fun w hS => x_load1 rfl Try.underlying2 rfl (RC.cell (RS.rc hL) hS.2.2 (j := (k + 1) * 6 + 0) (u := (Value.int .i64 x43_.rev_Main)) (fm_cell VR.len hx44_ (i := 0) rfl))) hq28_ ?_
    refine A_tkY 19 (j := 11) (dj := 26) (b := false) (v := (Value.pointer (some ⟨b17_, 0, none⟩))) rfl (by kernel_rfl) rfl rfl (congrArg Value.bool c30_f) (fun w hS => by kernel_rfl) hq28_ ?_
    refine A_tkY 20 (j := 11) (dj := 26) (b := false) (v := (Value.pointer (some ⟨b17_, 0, none⟩))) rfl (by kernel_rfl) rfl rfl (congrArg Value.bool c30_f) (fun w hS => by kernel_rfl) hq28_ ?_
    refine A_tkY 21 (j := 11) (dj := 26) (b := false) (v := (Value.int .i64 x14_.rev_Main)) rfl (by kernel_rfl) rfl rfl (congrArg Value.bool c30_f) (fun w hS => x_load1 rfl Try.underlying2 rfl (hS.1 0 (Value.int .i64 x14_.rev_Main) rfl)) hq28_ ?_
    refine A_tkY 22 (j := 11) (dj := 26) (b := false) (v := (Value.bool (decide (x43_.rev_Main ≠ x14_.rev_Main)))) rfl (by kernel_rfl) rfl rfl (congrArg Value.bool c30_f) (fun w hS => x_bin rfl rfl rfl) hq28_ ?_
    refine A_tkY 23 (j := 5) (dj := 20) (b := true) (v := (Value.bool (decide (x43_.rev_Main ≠ x14_.rev_Main)))) rfl (by kernel_rfl) rfl rfl (congrArg Value.bool c29_t) (fun w hS => (x_pickF (congrArg Value.bool c30_f) rfl)) hq28_ ?_
    refine A_tk 24 (v := (Value.bool (decide (x43_.rev_Main ≠ x14_.rev_Main)))) rfl (by kernel_rfl) (fun w hS => (x_pickT (congrArg Value.bool c29_t) rfl)) hq28_ ?_
    refine A_done (by kernel_rfl) ?_
    refine (X_then (hK26_ _ _ ?_))
    clear hK26_
    refine C_cond (b := decide (x43_.rev_Main ≠ x14_.rev_Main)) rfl (fun c46_t => ?_) (fun c46_f => ?_)
    ·have c46_tp : x43_.rev_Main ≠ x14_.rev_Main := of_decide_eq_true c46_t
     refine C_reg ?_
     refine S_list (T_val (v := v1) (x_move rfl) ?_)
     refine S_list (T_val (v := (Value.pointer (some ⟨b17_, 0, none⟩))) (by kernel_rfl) ?_)
     refine S_list (T_val (v := (Value.agg #[(Value.int .i64 x14_.rev_Main), (Value.int .i64 x14_.rev_Sub)])) (x_loadN (vs := [(Value.int .i64 x14_.rev_Main), (Value.int .i64 x14_.rev_Sub)]) rfl Try.underlying31 rfl z31 rfl (Rd.cells (Holds.rd H27_ 0 rfl) 0 rfl)) ?_)
     refine S_list (T_new (obj := .cells #[(Value.int .i64 x14_.rev_Main), (Value.int .i64 x14_.rev_Sub)] 31) (f := fun b__ => .slice (some ⟨b__, 0, none⟩) 1 1) (A := fun b__ => cl b__ 31 [(Value.int .i64 x14_.rev_Main), (Value.int .i64 x14_.rev_Sub)]) (by kernel_rfl) (fun l h => h.alloc _ _) H27_ ?_)
     intro b47_ w48_ S50_ H49_
     have S51_ := Same.trans (Same.trans S25_ (Same.drew _)) S50_
     refine S_list (T_append rfl rfl Try.underlying41 z31 rfl (by decide) H49_ 2 rfl (Holds.cl_src H49_ 0 rfl Try.underlying41 (by simp [Value.oneCell']) rfl) (by have hq_ := vSieve_len L (vSinceP L at_) k; first | omega | (simp only [List.length_map]; omega)) ?_)
     intro v52_ w53_ S55_ H54_
     have S56_ := Same.trans S51_ S55_
     refine S_list (T_val (v := v52_) (x_assign rfl) ?_)
     refine wpList_nil ?_
     refine (X_blkN (X_then (hK12_ _ _ ?_)))
     clear hK12_
     refine C_reg ?_
     refine S_list (T_val (v := (Value.int .i64 ((k : Int) + 1))) (x_bin rfl rfl (ib_add (IntWalk.i64_in _ (by omega)))) ?_)
     refine S_list (T_val (v := (Value.int .i64 ((k : Int) + 1))) (x_move rfl) ?_)
     refine wpList_nil ?_
     refine (X_then ?_)
     have H57_ := Holds.resl H54_ 2 rfl ((by rw [vSieve_yes hx15_ (by rw [vSinceP_next c29_tp hx44_]; simp_all)] <;> simp [VR.cells, RV.cells, VR.rv]) : (((vSieve L (vSinceP L at_) k).map VR.rv).flatMap RV.cells) ++ [(Value.int .i64 x14_.rev_Main), (Value.int .i64 x14_.rev_Sub)] = ((vSieve L (vSinceP L at_) (k + 1)).map VR.rv).flatMap RV.cells) ((by rw [vSieve_yes hx15_ (by rw [vSinceP_next c29_tp hx44_]; simp_all)] <;> simp [VR.cells, RV.cells, VR.rv]) : (List.length ((vSieve L (vSinceP L at_) k).map VR.rv)) + 1 = (List.length ((vSieve L (vSinceP L at_) (k + 1)).map VR.rv)))
     have H58_ : Holds w53_ (sl 31 2 v52_ (List.length ((vSieve L (vSinceP L at_) (k + 1)).map VR.rv)) (((vSieve L (vSinceP L at_) (k + 1)).map VR.rv).flatMap RV.cells) :: ro R :: F) := (Holds.pkF H57_ [2, 2] 2 :)
     exact ⟨⟨k + 1, v52_⟩, ⟨_, congrArg (fun e => mkA 47 e []) (ch (ch (ch (ch (ch (ch (ch rfl rfl) rfl) rfl) rfl) rfl) rfl) (congrArg (Value.int .i64) ((by first | rfl | omega | (simp; done) | (simp; omega)) : (k : Int) + 1 = ((k + 1 : Nat) : Int)))), H58_, S56_, (by first | assumption | omega | exact rfl)⟩, by first | omega | (dsimp only; omega) | (simp; omega)⟩
    ·have c46_fp : ¬ (x43_.rev_Main ≠ x14_.rev_Main) := of_decide_eq_false c46_f
     refine C_skip (X_blkN (X_then (hK12_ _ _ ?_)))
     clear hK12_
     refine C_reg ?_
     refine S_list (T_val (v := (Value.int .i64 ((k : Int) + 1))) (x_bin rfl rfl (ib_add (IntWalk.i64_in _ (by omega)))) ?_)
     refine S_list (T_val (v := (Value.int .i64 ((k : Int) + 1))) (x_move rfl) ?_)
     refine wpList_nil ?_
     refine (X_then ?_)
     have H59_ := Holds.resl H27_ 1 rfl ((by rw [vSieve_no hx15_ (by rw [vSinceP_next c29_tp hx44_]; simp_all)] <;> simp [VR.cells, RV.cells, VR.rv]) : ((vSieve L (vSinceP L at_) k).map VR.rv).flatMap RV.cells = ((vSieve L (vSinceP L at_) (k + 1)).map VR.rv).flatMap RV.cells) ((by rw [vSieve_no hx15_ (by rw [vSinceP_next c29_tp hx44_]; simp_all)] <;> simp [VR.cells, RV.cells, VR.rv]) : (List.length ((vSieve L (vSinceP L at_) k).map VR.rv)) = (List.length ((vSieve L (vSinceP L at_) (k + 1)).map VR.rv)))
     have H60_ : Holds w22_.drew (sl 31 2 v1 (List.length ((vSieve L (vSinceP L at_) (k + 1)).map VR.rv)) (((vSieve L (vSinceP L at_) (k + 1)).map VR.rv).flatMap RV.cells) :: ro R :: F) := (Holds.pkF H59_ [1, 1] 1 :)
     exact ⟨⟨k + 1, v1⟩, ⟨_, congrArg (fun e => mkA 47 e []) (ch (ch (ch (ch (ch (ch (ch rfl rfl) rfl) rfl) rfl) rfl) rfl) (congrArg (Value.int .i64) ((by first | rfl | omega | (simp; done) | (simp; omega)) : (k : Int) + 1 = ((k + 1 : Nat) : Int)))), H60_, (Same.trans S25_ (Same.drew _)), (by first | assumption | omega | exact rfl)⟩, by first | omega | (dsimp only; omega) | (simp; omega)⟩
  ·have c29_fp : ¬ (at_ ≤ x14_.rev_Main) := of_decide_eq_false c29_f
   refine A_tkN 6 (j := 5) (dj := 20) (b := false) rfl (by kernel_rfl) rfl rfl (congrArg Value.bool c29_f) (by decide) hq28_ ?_
   refine A_tkN 7 (j := 5) (dj := 20) (b := false) rfl (by kernel_rfl) rfl rfl (congrArg Value.bool c29_f) (by decide) hq28_ ?_
   refine A_tkN 8 (j := 5) (dj := 20) (b := false) rfl (by kernel_rfl) rfl rfl (congrArg Value.bool c29_f) (by decide) hq28_ ?_
   refine A_tkN 9 (j := 5) (dj := 20) (b := false) rfl (by kernel_rfl) rfl rfl (congrArg Value.bool c29_f) (by decide) hq28_ ?_
   refine A_tkN 10 (j := 5) (dj := 20) (b := false) rfl (by kernel_rfl) rfl rfl (congrArg Value.bool c29_f) (by decide) hq28_ ?_
   refine A_tkN 11 (j := 5) (dj := 20) (b := false) rfl (by kernel_rfl) rfl rfl (congrArg Value.bool c29_f) (by decide) hq28_ ?_
   refine A_takeNoU 12 (ls' := #[true, true, true, true, true, true, true, true, true, true, true, true, true, false, false, false, false, false, false, false, false, false, false, false, false]) (j := 11) (dj := 26) rfl (by kernel_rfl) (by kernel_rfl) (by kernel_rfl) (by kernel_rfl) (fun _ _ _ h => h) rfl rfl rfl ⟨Holds.rd H27_ 0 rfl, Holds.slrd H27_ 1 rfl, (Holds.ro_at H27_ 2 rfl)⟩ ?_
   refine A_takeNoU 13 (ls' := #[true, true, true, true, true, true, true, true, true, true, true, true, true, true, false, false, false, false, false, false, false, false, false, false, false]) (j := 11) (dj := 26) rfl (by kernel_rfl) (by kernel_rfl) (by kernel_rfl) (by kernel_rfl) (fun _ _ _ h => h) rfl rfl rfl ⟨Holds.rd H27_ 0 rfl, Holds.slrd H27_ 1 rfl, (Holds.ro_at H27_ 2 rfl)⟩ ?_
   refine A_takeNoU 14 (ls' := #[true, true, true, true, true, true, true, true, true, true, true, true, true, true, true, false, false, false, false, false, false, false, false, false, false]) (j := 11) (dj := 26) rfl (by kernel_rfl) (by kernel_rfl) (by kernel_rfl) (by kernel_rfl) (fun _ _ _ h => h) rfl rfl rfl ⟨Holds.rd H27_ 0 rfl, Holds.slrd H27_ 1 rfl, (Holds.ro_at H27_ 2 rfl)⟩ ?_
   refine A_takeNoU 15 (ls' := #[true, true, true, true, true, true, true, true, true, true, true, true, true, true, true, true, false, false, false, false, false, false, false, false, false]) (j := 11) (dj := 26) rfl (by kernel_rfl) (by kernel_rfl) (by kernel_rfl) (by kernel_rfl) (fun _ _ _ h => h) rfl rfl rfl ⟨Holds.rd H27_ 0 rfl, Holds.slrd H27_ 1 rfl, (Holds.ro_at H27_ 2 rfl)⟩ ?_
   refine A_takeNoU 16 (ls' := #[true, true, true, true, true, true, true, true, true, true, true, true, true, true, true, true, true, false, false, false, false, false, false, false, false]) (j := 11) (dj := 26) rfl (by kernel_rfl) (by kernel_rfl) (by kernel_rfl) (by kernel_rfl) (fun _ _ _ h => h) rfl rfl rfl ⟨Holds.rd H27_ 0 rfl, Holds.slrd H27_ 1 rfl, (Holds.ro_at H27_ 2 rfl)⟩ ?_
   refine A_takeNoU 17 (ls' := #[true, true, true, true, true, true, true, true, true, true, true, true, true, true, true, true, true, true, false, false, false, false, false, false, false]) (j := 11) (dj := 26) rfl (by kernel_rfl) (by kernel_rfl) (by kernel_rfl) (by kernel_rfl) (fun _ _ _ h => h) rfl rfl rfl ⟨Holds.rd H27_ 0 rfl, Holds.slrd H27_ 1 rfl, (Holds.ro_at H27_ 2 rfl)⟩ ?_
   refine A_takeNoU 18 (ls' := #[true, true, true, true, true, true, true, true, true, true, true, true, true, true, true, true, true, true, true, false, false, false, false, false, false]) (j := 11) (dj := 26) rfl (by kernel_rfl) (by kernel_rfl) (by kernel_rfl) (by kernel_rfl) (fun _ _ _ h => h) rfl rfl rfl ⟨Holds.rd H27_ 0 rfl, Holds.slrd H27_ 1 rfl, (Holds.ro_at H27_ 2 rfl)⟩ ?_
   refine A_takeNoU 19 (ls' := #[true, true, true, true, true, true, true, true, true, true, true, true, true, true, true, true, true, true, true, true, false, false, false, false, false]) (j := 11) (dj := 26) rfl (by kernel_rfl) (by kernel_rfl) (by kernel_rfl) (by kernel_rfl) (fun _ _ _ h => h) rfl rfl rfl ⟨Holds.rd H27_ 0 rfl, Holds.slrd H27_ 1 rfl, (Holds.ro_at H27_ 2 rfl)⟩ ?_
   refine A_takeNoU 20 (ls' := #[true, true, true, true, true, true, true, true, true, true, true, true, true, true, true, true, true, true, true, true, true, false, false, false, false]) (j := 11) (dj := 26) rfl (by kernel_rfl) (by kernel_rfl) (by kernel_rfl) (by kernel_rfl) (fun _ _ _ h => h) rfl rfl rfl ⟨Holds.rd H27_ 0 rfl, Holds.slrd H27_ 1 rfl, (Holds.ro_at H27_ 2 rfl)⟩ ?_
   refine A_takeNoU 21 (ls' := #[true, true, true, true, true, true, true, true, true, true, true, true, true, true, true, true, true, true, true, true, true, true, false, false, false]) (j := 11) (dj := 26) rfl (by kernel_rfl) (by kernel_rfl) (by kernel_rfl) (by kernel_rfl) (fun _ _ _ h => h) rfl rfl rfl ⟨Holds.rd H27_ 0 rfl, Holds.slrd H27_ 1 rfl, (Holds.ro_at H27_ 2 rfl)⟩ ?_
   refine A_takeNoU 22 (ls' := #[true, true, true, true, true, true, true, true, true, true, true, true, true, true, true, true, true, true, true, true, true, true, true, false, false]) (j := 11) (dj := 26) rfl (by kernel_rfl) (by kernel_rfl) (by kernel_rfl) (by kernel_rfl) (fun _ _ _ h => h) rfl rfl rfl ⟨Holds.rd H27_ 0 rfl, Holds.slrd H27_ 1 rfl, (Holds.ro_at H27_ 2 rfl)⟩ ?_
   refine A_tkN 23 (j := 5) (dj := 20) (b := false) rfl (by kernel_rfl) rfl rfl (congrArg Value.bool c29_f) (by decide) hq28_ ?_
   refine A_tk 24 (v := (Value.bool false)) rfl (by kernel_rfl) (fun w hS => (x_pickF (congrArg Value.bool c29_f) rfl)) hq28_ ?_
   refine A_done (by kernel_rfl) ?_
   refine (X_then (hK26_ _ _ ?_))
   clear hK26_
   refine C_condF rfl ?_
   refine C_skip (X_blkN (X_then (hK12_ _ _ ?_)))
   clear hK12_
   refine C_reg ?_
   refine S_list (T_val (v := (Value.int .i64 ((k : Int) + 1))) (x_bin rfl rfl (ib_add (IntWalk.i64_in _ (by omega)))) ?_)
   refine S_list (T_val (v := (Value.int .i64 ((k : Int) + 1))) (x_move rfl) ?_)
   refine wpList_nil ?_
   refine (X_then ?_)
   have H61_ := Holds.resl H27_ 1 rfl ((by rw [vSieve_no hx15_ (vSinceP_lt c29_fp)] <;> simp [VR.cells, RV.cells, VR.rv]) : ((vSieve L (vSinceP L at_) k).map VR.rv).flatMap RV.cells = ((vSieve L (vSinceP L at_) (k + 1)).map VR.rv).flatMap RV.cells) ((by rw [vSieve_no hx15_ (vSinceP_lt c29_fp)] <;> simp [VR.cells, RV.cells, VR.rv]) : (List.length ((vSieve L (vSinceP L at_) k).map VR.rv)) = (List.length ((vSieve L (vSinceP L at_) (k + 1)).map VR.rv)))
   have H62_ : Holds w22_.drew (sl 31 2 v1 (List.length ((vSieve L (vSinceP L at_) (k + 1)).map VR.rv)) (((vSieve L (vSinceP L at_) (k + 1)).map VR.rv).flatMap RV.cells) :: ro R :: F) := (Holds.pkF H61_ [1, 1] 1 :)
   exact ⟨⟨k + 1, v1⟩, ⟨_, congrArg (fun e => mkA 47 e []) (ch (ch (ch (ch (ch (ch (ch rfl rfl) rfl) rfl) rfl) rfl) rfl) (congrArg (Value.int .i64) ((by first | rfl | omega | (simp; done) | (simp; omega)) : (k : Int) + 1 = ((k + 1 : Nat) : Int)))), H62_, (Same.trans S25_ (Same.drew _)), (by first | assumption | omega | exact rfl)⟩, by first | omega | (dsimp only; omega) | (simp; omega)⟩
 ·have c11_fp : ¬ ((k : Int) < ((List.length L) : Int)) := of_decide_eq_false c11_f
  refine C_exit (X_thenX (X_thenX (X_blkHit ?_)))
  refine (X_then (hK3_ _ _ ?_))
  clear hK3_
  refine C_seq (fun K63_ hK63_ => ?_)
  refine C_reg ?_
  refine S_list (T_val (v := v1) (x_move rfl) ?_)
  refine S_list (T_val (v := v1) (x_assign rfl) ?_)
  refine wpList_nil ?_
  refine (X_then (hK63_ _ _ ?_))
  clear hK63_
  refine C_ret ?_
  refine R_any (v := v1) (run_results1 rfl rfl) ?_
  have H64_ := Holds.resl H7_ 0 rfl ((by rw [show k = L.length by omega]) : ((vSieve L (vSinceP L at_) k).map VR.rv).flatMap RV.cells = ((vSieve L (vSinceP L at_) L.length).map VR.rv).flatMap RV.cells) ((by rw [show k = L.length by omega]) : (List.length ((vSieve L (vSinceP L at_) k).map VR.rv)) = (List.length ((vSieve L (vSinceP L at_) L.length).map VR.rv)))
  have H65_ : Holds w6_ (ro R :: sl 31 2 v1 (List.length ((vSieve L (vSinceP L at_) L.length).map VR.rv)) (((vSieve L (vSinceP L at_) L.length).map VR.rv).flatMap RV.cells) :: F) := (Holds.pkF H64_ [1, 0] 0 :)
  exact ⟨_, _, rfl, ⟨v1, rfl, rfl⟩, S8_, H65_⟩
end Go.Proofs.Ytiblemgccgbhoaa
