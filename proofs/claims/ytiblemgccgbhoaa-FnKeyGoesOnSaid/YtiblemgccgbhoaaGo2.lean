/- Words, and proved steps, on which the proof leans. -/
import Derived.Test.YtiblemgccgbhoaaGo1
set_option linter.unusedVariables false
set_option linter.unusedSimpArgs false
namespace Go.Proofs.Ytiblemgccgbhoaa
open Go Go.RowKit Gw
open Go.Value renaming int → vI, bool → vB, slice → vS, pointer → vP, agg → vA, tuple → vT

set_option maxHeartbeats 1600000 in
theorem kStays (R : HP) (v : Value) (L : List VR) (i : Nat) (at_ : Int) (x : VR) (hL : RS R 6 v (List.length L) (L.flatMap VR.cells)) (hl : L.length ≤ 10000) (hi : i < L.length) (hx : L[i]? = some x) :
    Tri Try.prog 53 #[v, (vI .i64 (i : Int)), (vI .i64 at_)] R [] (fun v__ post__ => v__ = (vB (vStay L at_ i x)) ∧ post__ = []) := by
 refine Tri.into (n := 36) (al := [v, (vI .i64 (i : Int)), (vI .i64 at_)]) Try.func53 rfl Try.ntmps53 rfl rfl fun w F H => ?_
 refine C_seq (fun K1_ hK1_ => C_reg ?_)
 refine sv (v := (vB false)) (x_assign rfl) ?_
 refine wpList_nil (X_then (hK1_ _ _ ?_))
 clear hK1_
 refine C_seq (fun K2_ hK2_ => C_reg ?_)
 refine sv (v := v) (x_move rfl) ?_
 refine sv (v := (vI .i64 (i : Int))) (x_move rfl) ?_
 refine sv (v := (vP (some ⟨(sb v), so v + (i * 6 + 0), none⟩))) (x_idxRS (v := v) rfl hL rfl Try.underlying23 z66 (by omega) (by omega) (by omega : _ = i) rfl) ?_
 refine sv (v := (vA #[(vI .i64 x.rev_Main), (vI .i64 x.rev_Sub), (vI .i64 x.created_Main), (vI .i64 x.created_Sub), (vI .i64 x.ver), (vB x.gone)])) (x_loadN (vs := [(vI .i64 x.rev_Main), (vI .i64 x.rev_Sub), (vI .i64 x.created_Main), (vI .i64 x.created_Sub), (vI .i64 x.ver), (vB x.gone)]) rfl Try.underlying66 rfl z66 rfl (RC.cells (RS.rc hL) (Holds.ro_at H 0 rfl) (i * 6 + 0) (fm_cells VR.len hx (i := 0) rfl))) ?_
 refine S_list (T_alloc z66 H ?_)
 intro b6_ w7_ S9_ H8_
 have S10_ := Same.trans (Same.refl w) S9_
 refine S_list0 (T_storeN (vs := [(vI .i64 x.rev_Main), (vI .i64 x.rev_Sub), (vI .i64 x.created_Main), (vI .i64 x.created_Sub), (vI .i64 x.ver), (vB x.gone)]) rfl rfl z66 rfl (by simp [Value.oneCell']) H8_ 0 rfl (Nat.le_of_ble_eq_true (by rfl)) ?_)
 intro w11_ S13_ H12_
 have S14_ := Same.trans S10_ S13_
 refine wpList_nil (X_then (hK2_ _ _ ?_))
 clear hK2_
 refine C_seq (fun K15_ hK15_ => C_reg ?_)
 refine sv (v := (vP (some ⟨b6_, 0, none⟩))) (by kernel_rfl) ?_
 refine sv (v := (vP (some ⟨b6_, 0, none⟩))) (by kernel_rfl) ?_
 refine sv (v := (vI .i64 x.rev_Main)) (x_load1 rfl Try.underlying2 rfl ((Holds.rd H12_ 0 rfl) 0 (vI .i64 x.rev_Main) rfl)) ?_
 refine sv (v := (vI .i64 at_)) (x_move rfl) ?_
 refine sv (v := (vB (decide (at_ < x.rev_Main)))) (x_bin rfl rfl rfl) ?_
 refine sv (v := (vB (decide (at_ < x.rev_Main)))) (x_move rfl) ?_
 rcases Bool.eq_false_or_eq_true (decide (at_ < x.rev_Main)) with c16_t | c16_f
 ·have c16_tp : at_ < x.rev_Main := of_decide_eq_true c16_t
  refine S_no (j := 5) (dj := 17) (b := true) rfl rfl (congrArg vB c16_t) (by decide) ?_
  refine S_no (j := 5) (dj := 17) (b := true) rfl rfl (congrArg vB c16_t) (by decide) ?_
  refine S_no (j := 5) (dj := 17) (b := true) rfl rfl (congrArg vB c16_t) (by decide) ?_
  refine S_no (j := 5) (dj := 17) (b := true) rfl rfl (congrArg vB c16_t) (by decide) ?_
  refine S_no (j := 5) (dj := 17) (b := true) rfl rfl (congrArg vB c16_t) (by decide) ?_
  refine S_no (j := 5) (dj := 17) (b := true) rfl rfl (congrArg vB c16_t) (by decide) ?_
  refine S_noU (j := 11) (dj := 23) rfl rfl rfl ?_
  refine S_noU (j := 11) (dj := 23) rfl rfl rfl ?_
  refine S_noU (j := 11) (dj := 23) rfl rfl rfl ?_
  refine S_noU (j := 11) (dj := 23) rfl rfl rfl ?_
  refine S_noU (j := 15) (dj := 27) rfl rfl rfl ?_
  refine S_noU (j := 15) (dj := 27) rfl rfl rfl ?_
  refine S_noU (j := 15) (dj := 27) rfl rfl rfl ?_
  refine S_noU (j := 15) (dj := 27) rfl rfl rfl ?_
  refine S_noU (j := 15) (dj := 27) rfl rfl rfl ?_
  refine S_noU (j := 11) (dj := 23) rfl rfl rfl ?_
  refine S_no (j := 5) (dj := 17) (b := true) rfl rfl (congrArg vB c16_t) (by decide) ?_
  refine S_list (T_pickT (v := (vB true)) (congrArg vB c16_t) rfl ?_)
  refine sv (v := (vB true)) (x_assign rfl) ?_
  refine wpList_nil (X_then (hK15_ _ _ ?_))
  clear hK15_
  refine C_ret ?_
  refine R_any (v := (vB true)) (run_results1 rfl rfl) ?_
  have H17_ : Holds w11_ (ro R :: F) := (Holds.pkF H12_ [1] 1 :)
  exact ⟨_, _, rfl, ⟨(congrArg vB ((by unfold vStay; exact (decide_eq_true (by first | (simp_all; done) | (simp_all; omega))).symm) : true = (vStay L at_ i x))), rfl⟩, S14_, H17_⟩
 ·have c16_fp : ¬ (at_ < x.rev_Main) := of_decide_eq_false c16_f
  refine S_yes (j := 5) (dj := 17) (b := false) rfl rfl (congrArg vB c16_f) (T_val (v := (vI .i64 (i : Int))) (x_move rfl) ?_)
  refine S_yes (j := 5) (dj := 17) (b := false) rfl rfl (congrArg vB c16_f) (T_val (v := v) (x_move rfl) ?_)
  refine S_yes (j := 5) (dj := 17) (b := false) rfl rfl (congrArg vB c16_f) (T_val (v := (vI .i64 at_)) (x_move rfl) ?_)
  have H19_ := ((Holds.bring H12_ 1 rfl) :)
  refine S_yes (j := 5) (dj := 17) (b := false) rfl rfl (congrArg vB c16_f) (T_call (al := [v, (vI .i64 at_)]) (pre := []) rfl rfl cb52 (kLast R v L at_ hL (by first | assumption | omega)) H19_ ?_)
  rintro v18_ p23_ w20_ ⟨rfl, rfl⟩ S22_ H21_
  have S24_ := Same.trans S14_ S22_
  refine S_yes (j := 5) (dj := 17) (b := false) rfl rfl (congrArg vB c16_f) (T_val (v := (vB (decide ((i : Int) = (vLastN L at_ L.length : Int) - 1)))) (x_bin rfl rfl rfl) ?_)
  refine S_yes (j := 5) (dj := 17) (b := false) rfl rfl (congrArg vB c16_f) (T_val (v := (vB (decide ((i : Int) = (vLastN L at_ L.length : Int) - 1)))) (x_move rfl) ?_)
  rcases Bool.eq_false_or_eq_true (decide ((i : Int) = (vLastN L at_ L.length : Int) - 1)) with c25_t | c25_f
  ·have c25_tp : (i : Int) = (vLastN L at_ L.length : Int) - 1 := of_decide_eq_true c25_t
   refine S_yes (j := 11) (dj := 23) (b := true) rfl rfl (congrArg vB c25_t) (T_val (v := (vP (some ⟨b6_, 5, none⟩))) (by kernel_rfl) ?_)
   refine S_yes (j := 11) (dj := 23) (b := true) rfl rfl (congrArg vB c25_t) (T_val (v := (vB x.gone)) (x_load1 rfl Try.underlying4 rfl ((Holds.rd H21_ 1 rfl) 5 (vB x.gone) rfl)) ?_)
   refine S_yes (j := 11) (dj := 23) (b := true) rfl rfl (congrArg vB c25_t) (T_val (v := (vB (!x.gone))) (x_not rfl) ?_)
   refine S_yes (j := 11) (dj := 23) (b := true) rfl rfl (congrArg vB c25_t) (T_val (v := (vB (!x.gone))) (x_move rfl) ?_)
   rcases Bool.eq_false_or_eq_true (!x.gone) with c26_t | c26_f
   ·skip
    refine S_no (j := 15) (dj := 27) (b := true) rfl rfl (congrArg vB c26_t) (by decide) ?_
    refine S_no (j := 15) (dj := 27) (b := true) rfl rfl (congrArg vB c26_t) (by decide) ?_
    refine S_no (j := 15) (dj := 27) (b := true) rfl rfl (congrArg vB c26_t) (by decide) ?_
    refine S_no (j := 15) (dj := 27) (b := true) rfl rfl (congrArg vB c26_t) (by decide) ?_
    refine S_no (j := 15) (dj := 27) (b := true) rfl rfl (congrArg vB c26_t) (by decide) ?_
    refine S_yes (j := 11) (dj := 23) (b := true) rfl rfl (congrArg vB c25_t) (T_pickT (v := (vB true)) (congrArg vB c26_t) rfl ?_)
    refine S_yes (j := 5) (dj := 17) (b := false) rfl rfl (congrArg vB c16_f) (T_pickT (v := (vB true)) (congrArg vB c25_t) rfl ?_)
    refine S_list (T_pickF (v := (vB true)) (congrArg vB c16_f) rfl ?_)
    refine sv (v := (vB true)) (x_assign rfl) ?_
    refine wpList_nil (X_then (hK15_ _ _ ?_))
    clear hK15_
    refine C_ret ?_
    refine R_any (v := (vB true)) (run_results1 rfl rfl) ?_
    have H27_ : Holds w20_ (ro R :: F) := (Holds.pkF H21_ [0] 1 :)
    exact ⟨_, _, rfl, ⟨(congrArg vB ((by unfold vStay; exact (decide_eq_true (by first | (simp_all; done) | (simp_all; omega))).symm) : true = (vStay L at_ i x))), rfl⟩, S24_, H27_⟩
   ·skip
    refine S_yes (j := 15) (dj := 27) (b := false) rfl rfl (congrArg vB c26_f) (T_val (v := (vP (some ⟨b6_, 0, none⟩))) (by kernel_rfl) ?_)
    refine S_yes (j := 15) (dj := 27) (b := false) rfl rfl (congrArg vB c26_f) (T_val (v := (vP (some ⟨b6_, 0, none⟩))) (by kernel_rfl) ?_)
    refine S_yes (j := 15) (dj := 27) (b := false) rfl rfl (congrArg vB c26_f) (T_val (v := (vI .i64 x.rev_Main)) (x_load1 rfl Try.underlying2 rfl ((Holds.rd H21_ 1 rfl) 0 (vI .i64 x.rev_Main) rfl)) ?_)
    refine S_yes (j := 15) (dj := 27) (b := false) rfl rfl (congrArg vB c26_f) (T_val (v := (vI .i64 at_)) (x_move rfl) ?_)
    refine S_yes (j := 15) (dj := 27) (b := false) rfl rfl (congrArg vB c26_f) (T_val (v := (vB (decide (x.rev_Main = at_)))) (x_bin rfl rfl rfl) ?_)
    refine S_yes (j := 11) (dj := 23) (b := true) rfl rfl (congrArg vB c25_t) (T_pickF (v := (vB (decide (x.rev_Main = at_)))) (congrArg vB c26_f) rfl ?_)
    refine S_yes (j := 5) (dj := 17) (b := false) rfl rfl (congrArg vB c16_f) (T_pickT (v := (vB (decide (x.rev_Main = at_)))) (congrArg vB c25_t) rfl ?_)
    refine S_list (T_pickF (v := (vB (decide (x.rev_Main = at_)))) (congrArg vB c16_f) rfl ?_)
    refine sv (v := (vB (decide (x.rev_Main = at_)))) (x_assign rfl) ?_
    refine wpList_nil (X_then (hK15_ _ _ ?_))
    clear hK15_
    refine C_ret ?_
    refine R_any (v := (vB (decide (x.rev_Main = at_)))) (run_results1 rfl rfl) ?_
    have H28_ : Holds w20_ (ro R :: F) := (Holds.pkF H21_ [0] 1 :)
    exact ⟨_, _, rfl, ⟨(congrArg vB ((by unfold vStay; exact decide_eq_decide.2 (by first | (simp_all; done) | (simp_all; omega))) : (decide (x.rev_Main = at_)) = (vStay L at_ i x))), rfl⟩, S24_, H28_⟩
  ·have c25_fp : ¬ ((i : Int) = (vLastN L at_ L.length : Int) - 1) := of_decide_eq_false c25_f
   refine S_no (j := 11) (dj := 23) (b := false) rfl rfl (congrArg vB c25_f) (by decide) ?_
   refine S_no (j := 11) (dj := 23) (b := false) rfl rfl (congrArg vB c25_f) (by decide) ?_
   refine S_no (j := 11) (dj := 23) (b := false) rfl rfl (congrArg vB c25_f) (by decide) ?_
   refine S_no (j := 11) (dj := 23) (b := false) rfl rfl (congrArg vB c25_f) (by decide) ?_
   refine S_noU (j := 15) (dj := 27) rfl rfl rfl ?_
   refine S_noU (j := 15) (dj := 27) rfl rfl rfl ?_
   refine S_noU (j := 15) (dj := 27) rfl rfl rfl ?_
   refine S_noU (j := 15) (dj := 27) rfl rfl rfl ?_
   refine S_noU (j := 15) (dj := 27) rfl rfl rfl ?_
   refine S_no (j := 11) (dj := 23) (b := false) rfl rfl (congrArg vB c25_f) (by decide) ?_
   refine S_yes (j := 5) (dj := 17) (b := false) rfl rfl (congrArg vB c16_f) (T_pickF (v := (vB false)) (congrArg vB c25_f) rfl ?_)
   refine S_list (T_pickF (v := (vB false)) (congrArg vB c16_f) rfl ?_)
   refine sv (v := (vB false)) (x_assign rfl) ?_
   refine wpList_nil (X_then (hK15_ _ _ ?_))
   clear hK15_
   refine C_ret ?_
   refine R_any (v := (vB false)) (run_results1 rfl rfl) ?_
   have H29_ : Holds w20_ (ro R :: F) := (Holds.pkF H21_ [0] 1 :)
   exact ⟨_, _, rfl, ⟨(congrArg vB ((by unfold vStay; exact (decide_eq_false (by first | (simp_all; done) | (simp_all; omega))).symm) : false = (vStay L at_ i x))), rfl⟩, S24_, H29_⟩

set_option maxHeartbeats 1600000 in
theorem kCompacted (R : HP) (v : Value) (L : List VR) (at_ : Int) (hL : RS R 6 v (List.length L) (L.flatMap VR.cells)) (hl : L.length ≤ 10000) :
    Tri Try.prog 31 #[v, (vI .i64 at_)] R [] (fun v__ post__ => ∃ (v' : Value), v__ = v' ∧ post__ = [sl 66 6 v' (List.length (vSieve L (vStay L at_) L.length)) ((vSieve L (vStay L at_) L.length).flatMap VR.cells)]) := by
 refine Tri.into (n := 25) (al := [v, (vI .i64 at_)]) Try.func31 rfl Try.ntmps31 rfl rfl fun w F H => ?_
 refine C_seq (fun K1_ hK1_ => C_reg ?_)
 refine sv (v := (vS none 0 0)) (x_assign rfl) ?_
 refine wpList_nil (X_then (hK1_ _ _ ?_))
 clear hK1_
 refine C_seq (fun K2_ hK2_ => C_reg ?_)
 refine sv (v := (vS none 0 0)) (x_assign rfl) ?_
 refine wpList_nil (X_then (hK2_ _ _ ?_))
 clear hK2_
 refine C_seq (fun K3_ hK3_ => ?_)
 refine C_seq (fun K4_ hK4_ => C_reg ?_)
 refine sv (v := v) (x_move rfl) ?_
 refine sv (v := (vI .i64 ((List.length L) : Int))) (x_lenRS rfl hL Try.underlying23) ?_
 refine sv (v := (vI .i64 0)) (x_move rfl) ?_
 refine wpList_nil (X_then (hK4_ _ _ ?_))
 clear hK4_
 refine C_block ?_
 have H5_ : Holds w (sl 66 6 (vS none 0 0) (List.length (vSieve L (vStay L at_) 0)) ((vSieve L (vStay L at_) 0).flatMap VR.cells) :: ro R :: F) := Holds.add_nil H 66 6
 refine C_loop (γ := Nat × Value) (fun x__ a__ w1__ => match x__ with | ⟨k, v1⟩ => ∃ h : Env, a__ = mkA 25 (upd (upd (upd (upd (upd (upd (upd h 0 v) 1 (vI .i64 at_)) 4 (vS none 0 0)) 5 v1) 8 v) 9 (vI .i64 ((List.length L) : Int))) 10 (vI .i64 (k : Int))) [] ∧ Holds w1__ (sl 66 6 v1 (List.length (vSieve L (vStay L at_) k)) ((vSieve L (vStay L at_) k).flatMap VR.cells) :: ro R :: F) ∧ Same w w1__ ∧ (k ≤ L.length)) (fun x__ => match x__ with | ⟨k, v1⟩ => L.length - k) (⟨0, (vS none 0 0)⟩) ⟨_, congrArg (fun e => mkA 25 e []) (ch (ch (ch (ch (ch (ch (ch rfl rfl) rfl) rfl) (rfl : (vS none 0 0) = ((vS none 0 0)))) rfl) rfl) (congrArg (vI .i64) ((by first | rfl | omega | (simp; done) | (simp; omega)) : 0 = (0 : Int)))), H5_, (Same.refl w), (by first | assumption | omega | exact rfl)⟩ ?_
 rintro ⟨k, v1⟩ _ w6_ ⟨h, rfl, H7_, S8_, hk⟩
 refine C_seq (fun K9_ hK9_ => C_reg ?_)
 refine sv (v := (vB (decide ((k : Int) < ((List.length L) : Int))))) (x_bin rfl rfl rfl) ?_
 refine wpList_nil (X_then (hK9_ _ _ ?_))
 clear hK9_
 refine C_seq (fun K10_ hK10_ => ?_)
 refine C_cond (b := decide ((k : Int) < ((List.length L) : Int))) rfl (fun c11_t => ?_) (fun c11_f => ?_)
 ·have c11_tp : (k : Int) < ((List.length L) : Int) := of_decide_eq_true c11_t
  refine C_skip (X_then (hK10_ _ _ ?_))
  clear hK10_
  refine C_seq (fun K12_ hK12_ => ?_)
  refine C_block ?_
  refine C_seq (fun K13_ hK13_ => C_reg ?_)
  refine sv (v := (vI .i64 (k : Int))) (x_move rfl) ?_
  obtain ⟨x14_, hx15_, hm16_⟩ := elem_at L k (by omega)
  refine sv (v := (vP (some ⟨(sb v), so v + (k * 6 + 0), none⟩))) (x_idxRS (v := v) rfl hL rfl Try.underlying23 z66 (by omega) (by omega) (by omega : _ = k) rfl) ?_
  refine sv (v := (vA #[(vI .i64 x14_.rev_Main), (vI .i64 x14_.rev_Sub), (vI .i64 x14_.created_Main), (vI .i64 x14_.created_Sub), (vI .i64 x14_.ver), (vB x14_.gone)])) (x_loadN (vs := [(vI .i64 x14_.rev_Main), (vI .i64 x14_.rev_Sub), (vI .i64 x14_.created_Main), (vI .i64 x14_.created_Sub), (vI .i64 x14_.ver), (vB x14_.gone)]) rfl Try.underlying66 rfl z66 rfl (RC.cells (RS.rc hL) (Holds.ro_at H7_ 1 rfl) (k * 6 + 0) (fm_cells VR.len hx15_ (i := 0) rfl))) ?_
  refine S_list (T_alloc z66 H7_ ?_)
  intro b17_ w18_ S20_ H19_
  have S21_ := Same.trans S8_ S20_
  refine sv (v := (vI .i64 (k : Int))) (x_assign rfl) ?_
  refine S_list0 (T_storeN (vs := [(vI .i64 x14_.rev_Main), (vI .i64 x14_.rev_Sub), (vI .i64 x14_.created_Main), (vI .i64 x14_.created_Sub), (vI .i64 x14_.ver), (vB x14_.gone)]) rfl rfl z66 rfl (by simp [Value.oneCell']) H19_ 0 rfl (Nat.le_of_ble_eq_true (by rfl)) ?_)
  intro w22_ S24_ H23_
  have S25_ := Same.trans S21_ S24_
  refine wpList_nil (X_then (hK13_ _ _ ?_))
  clear hK13_
  refine C_seq (fun K26_ hK26_ => C_reg ?_)
  refine sv (v := v) (x_move rfl) ?_
  refine sv (v := (vI .i64 (k : Int))) (x_move rfl) ?_
  refine sv (v := (vI .i64 at_)) (x_move rfl) ?_
  have H28_ := ((Holds.bring H23_ 2 rfl) :)
  refine S_list (T_call (al := [v, (vI .i64 (k : Int)), (vI .i64 at_)]) (pre := []) rfl rfl cb53 (kStays R v L k at_ x14_ hL (by first | assumption | omega) (by first | assumption | omega) (hx15_)) H28_ ?_)
  rintro v27_ p32_ w29_ ⟨rfl, rfl⟩ S31_ H30_
  have S33_ := Same.trans S25_ S31_
  refine wpList_nil (X_then (hK26_ _ _ ?_))
  clear hK26_
  refine C_cond (b := vStay L at_ k x14_) rfl (fun c34_t => ?_) (fun c34_f => ?_)
  ·skip
   refine C_reg ?_
   refine sv (v := v1) (x_move rfl) ?_
   refine sv (v := (vA #[(vI .i64 x14_.rev_Main), (vI .i64 x14_.rev_Sub), (vI .i64 x14_.created_Main), (vI .i64 x14_.created_Sub), (vI .i64 x14_.ver), (vB x14_.gone)])) (x_loadN (vs := [(vI .i64 x14_.rev_Main), (vI .i64 x14_.rev_Sub), (vI .i64 x14_.created_Main), (vI .i64 x14_.created_Sub), (vI .i64 x14_.ver), (vB x14_.gone)]) rfl Try.underlying66 rfl z66 rfl (Rd.cells (Holds.rd H30_ 1 rfl) 0 rfl)) ?_
   refine S_list (T_new (obj := .cells #[(vI .i64 x14_.rev_Main), (vI .i64 x14_.rev_Sub), (vI .i64 x14_.created_Main), (vI .i64 x14_.created_Sub), (vI .i64 x14_.ver), (vB x14_.gone)] 66) (f := fun b__ => .slice (some ⟨b__, 0, none⟩) 1 1) (A := fun b__ => cl b__ 66 [(vI .i64 x14_.rev_Main), (vI .i64 x14_.rev_Sub), (vI .i64 x14_.created_Main), (vI .i64 x14_.created_Sub), (vI .i64 x14_.ver), (vB x14_.gone)]) (by kernel_rfl) (fun l h => h.alloc _ _) H30_ ?_)
   intro b35_ w36_ S38_ H37_
   have S39_ := Same.trans S33_ S38_
   refine S_list (T_append rfl rfl Try.underlying23 z66 rfl (by decide) H37_ 3 rfl (Holds.cl_src H37_ 0 rfl Try.underlying23 (by simp [Value.oneCell']) rfl) (by have hq_ := vSieve_len L (vStay L at_) k; first | omega | (simp only [List.length_map]; omega)) ?_)
   intro v40_ w41_ S43_ H42_
   have S44_ := Same.trans S39_ S43_
   refine sv (v := v40_) (x_assign rfl) ?_
   refine wpList_nil (X_blkN (X_then (hK12_ _ _ ?_)))
   clear hK12_
   refine C_reg ?_
   refine sv (v := (vI .i64 ((k : Int) + 1))) (x_bin rfl rfl (ib_add (IntWalk.i64_in _ (by omega)))) ?_
   refine sv (v := (vI .i64 ((k : Int) + 1))) (x_move rfl) ?_
   refine wpList_nil (X_then ?_)
   have H45_ := Holds.resl H42_ 3 rfl ((by rw [vSieve_yes hx15_ (by first | (simp_all; done) | (simp_all; omega))] <;> simp [VR.cells, RV.cells, VR.rv]) : ((vSieve L (vStay L at_) k).flatMap VR.cells) ++ [(vI .i64 x14_.rev_Main), (vI .i64 x14_.rev_Sub), (vI .i64 x14_.created_Main), (vI .i64 x14_.created_Sub), (vI .i64 x14_.ver), (vB x14_.gone)] = (vSieve L (vStay L at_) (k + 1)).flatMap VR.cells) ((by rw [vSieve_yes hx15_ (by first | (simp_all; done) | (simp_all; omega))] <;> simp [VR.cells, RV.cells, VR.rv]) : (List.length (vSieve L (vStay L at_) k)) + 1 = (List.length (vSieve L (vStay L at_) (k + 1))))
   have H46_ : Holds w41_ (sl 66 6 v40_ (List.length (vSieve L (vStay L at_) (k + 1))) ((vSieve L (vStay L at_) (k + 1)).flatMap VR.cells) :: ro R :: F) := (Holds.pkF H45_ [3, 1] 2 :)
   exact ⟨⟨k + 1, v40_⟩, ⟨_, congrArg (fun e => mkA 25 e []) (ch (ch (ch (ch (ch (ch (ch rfl rfl) rfl) rfl) rfl) rfl) rfl) (congrArg (vI .i64) ((by first | rfl | omega | (simp; done) | (simp; omega)) : (k : Int) + 1 = ((k + 1 : Nat) : Int)))), H46_, S44_, (by first | assumption | omega | exact rfl)⟩, by first | omega | (dsimp only; omega) | (simp; omega)⟩
  ·skip
   refine C_skip (X_blkN (X_then (hK12_ _ _ ?_)))
   clear hK12_
   refine C_reg ?_
   refine sv (v := (vI .i64 ((k : Int) + 1))) (x_bin rfl rfl (ib_add (IntWalk.i64_in _ (by omega)))) ?_
   refine sv (v := (vI .i64 ((k : Int) + 1))) (x_move rfl) ?_
   refine wpList_nil (X_then ?_)
   have H47_ := Holds.resl H30_ 2 rfl ((by rw [vSieve_no hx15_ (by first | (simp_all; done) | (simp_all; omega))] <;> simp [VR.cells, RV.cells, VR.rv]) : (vSieve L (vStay L at_) k).flatMap VR.cells = (vSieve L (vStay L at_) (k + 1)).flatMap VR.cells) ((by rw [vSieve_no hx15_ (by first | (simp_all; done) | (simp_all; omega))] <;> simp [VR.cells, RV.cells, VR.rv]) : (List.length (vSieve L (vStay L at_) k)) = (List.length (vSieve L (vStay L at_) (k + 1))))
   have H48_ : Holds w29_ (sl 66 6 v1 (List.length (vSieve L (vStay L at_) (k + 1))) ((vSieve L (vStay L at_) (k + 1)).flatMap VR.cells) :: ro R :: F) := (Holds.pkF H47_ [2, 0] 1 :)
   exact ⟨⟨k + 1, v1⟩, ⟨_, congrArg (fun e => mkA 25 e []) (ch (ch (ch (ch (ch (ch (ch rfl rfl) rfl) rfl) rfl) rfl) rfl) (congrArg (vI .i64) ((by first | rfl | omega | (simp; done) | (simp; omega)) : (k : Int) + 1 = ((k + 1 : Nat) : Int)))), H48_, S33_, (by first | assumption | omega | exact rfl)⟩, by first | omega | (dsimp only; omega) | (simp; omega)⟩
 ·have c11_fp : ¬ ((k : Int) < ((List.length L) : Int)) := of_decide_eq_false c11_f
  refine C_exit (X_thenX (X_thenX (X_blkHit ?_)))
  refine (X_then (hK3_ _ _ ?_))
  clear hK3_
  refine C_seq (fun K49_ hK49_ => C_reg ?_)
  refine sv (v := v1) (x_move rfl) ?_
  refine sv (v := v1) (x_assign rfl) ?_
  refine wpList_nil (X_then (hK49_ _ _ ?_))
  clear hK49_
  refine C_ret ?_
  refine R_any (v := v1) (run_results1 rfl rfl) ?_
  have H50_ := Holds.resl H7_ 0 rfl ((by rw [show k = L.length by omega]) : (vSieve L (vStay L at_) k).flatMap VR.cells = (vSieve L (vStay L at_) L.length).flatMap VR.cells) ((by rw [show k = L.length by omega]) : (List.length (vSieve L (vStay L at_) k)) = (List.length (vSieve L (vStay L at_) L.length)))
  have H51_ : Holds w6_ (ro R :: sl 66 6 v1 (List.length (vSieve L (vStay L at_) L.length)) ((vSieve L (vStay L at_) L.length).flatMap VR.cells) :: F) := (Holds.pkF H50_ [1, 0] 0 :)
  exact ⟨_, _, rfl, ⟨v1, rfl, rfl⟩, S8_, H51_⟩

set_option maxHeartbeats 1600000 in
theorem kKept (R : HP) (v : Value) (L : List VR) (at_ : Int) (ends : Bool) (hL : RS R 6 v (List.length L) (L.flatMap VR.cells)) (hl : L.length ≤ 10000) :
    Tri Try.prog 30 #[v, (vI .i64 at_), (vB ends)] R [] (fun v__ post__ => ∃ (v' : Value), v__ = v' ∧ post__ = [sl 31 2 v' (List.length ((vSieve L (fun i v => decide (v.rev_Main ≤ at_) && vStay L at_ i v && (ends || !v.gone)) L.length).map VR.rv)) (((vSieve L (fun i v => decide (v.rev_Main ≤ at_) && vStay L at_ i v && (ends || !v.gone)) L.length).map VR.rv).flatMap RV.cells)]) := by
 refine Tri.into (n := 43) (al := [v, (vI .i64 at_), (vB ends)]) Try.func30 rfl Try.ntmps30 rfl rfl fun w F H => ?_
 refine C_seq (fun K1_ hK1_ => C_reg ?_)
 refine sv (v := (vS none 0 0)) (x_assign rfl) ?_
 refine wpList_nil (X_then (hK1_ _ _ ?_))
 clear hK1_
 refine C_seq (fun K2_ hK2_ => C_reg ?_)
 refine sv (v := (vS none 0 0)) (x_assign rfl) ?_
 refine wpList_nil (X_then (hK2_ _ _ ?_))
 clear hK2_
 refine C_seq (fun K3_ hK3_ => ?_)
 refine C_seq (fun K4_ hK4_ => C_reg ?_)
 refine sv (v := v) (x_move rfl) ?_
 refine sv (v := (vI .i64 ((List.length L) : Int))) (x_lenRS rfl hL Try.underlying23) ?_
 refine sv (v := (vI .i64 0)) (x_move rfl) ?_
 refine wpList_nil (X_then (hK4_ _ _ ?_))
 clear hK4_
 refine C_block ?_
 have H5_ : Holds w (sl 31 2 (vS none 0 0) (List.length ((vSieve L (fun i v => decide (v.rev_Main ≤ at_) && vStay L at_ i v && (ends || !v.gone)) 0).map VR.rv)) (((vSieve L (fun i v => decide (v.rev_Main ≤ at_) && vStay L at_ i v && (ends || !v.gone)) 0).map VR.rv).flatMap RV.cells) :: ro R :: F) := Holds.add_nil H 31 2
 refine C_loop (γ := Nat × Value) (fun x__ a__ w1__ => match x__ with | ⟨k, v1⟩ => ∃ h : Env, a__ = mkA 43 (upd (upd (upd (upd (upd (upd (upd (upd h 0 v) 1 (vI .i64 at_)) 2 (vB ends)) 6 (vS none 0 0)) 7 v1) 10 v) 11 (vI .i64 ((List.length L) : Int))) 12 (vI .i64 (k : Int))) [] ∧ Holds w1__ (sl 31 2 v1 (List.length ((vSieve L (fun i v => decide (v.rev_Main ≤ at_) && vStay L at_ i v && (ends || !v.gone)) k).map VR.rv)) (((vSieve L (fun i v => decide (v.rev_Main ≤ at_) && vStay L at_ i v && (ends || !v.gone)) k).map VR.rv).flatMap RV.cells) :: ro R :: F) ∧ Same w w1__ ∧ (k ≤ L.length)) (fun x__ => match x__ with | ⟨k, v1⟩ => L.length - k) (⟨0, (vS none 0 0)⟩) ⟨_, congrArg (fun e => mkA 43 e []) (ch (ch (ch (ch (ch (ch (ch (ch rfl rfl) rfl) rfl) rfl) (rfl : (vS none 0 0) = ((vS none 0 0)))) rfl) rfl) (congrArg (vI .i64) ((by first | rfl | omega | (simp; done) | (simp; omega)) : 0 = (0 : Int)))), H5_, (Same.refl w), (by first | assumption | omega | exact rfl)⟩ ?_
 rintro ⟨k, v1⟩ _ w6_ ⟨h, rfl, H7_, S8_, hk⟩
 refine C_seq (fun K9_ hK9_ => C_reg ?_)
 refine sv (v := (vB (decide ((k : Int) < ((List.length L) : Int))))) (x_bin rfl rfl rfl) ?_
 refine wpList_nil (X_then (hK9_ _ _ ?_))
 clear hK9_
 refine C_seq (fun K10_ hK10_ => ?_)
 refine C_cond (b := decide ((k : Int) < ((List.length L) : Int))) rfl (fun c11_t => ?_) (fun c11_f => ?_)
 ·have c11_tp : (k : Int) < ((List.length L) : Int) := of_decide_eq_true c11_t
  refine C_skip (X_then (hK10_ _ _ ?_))
  clear hK10_
  refine C_seq (fun K12_ hK12_ => ?_)
  refine C_block ?_
  refine C_seq (fun K13_ hK13_ => C_reg ?_)
  refine sv (v := (vI .i64 (k : Int))) (x_move rfl) ?_
  obtain ⟨x14_, hx15_, hm16_⟩ := elem_at L k (by omega)
  refine sv (v := (vP (some ⟨(sb v), so v + (k * 6 + 0), none⟩))) (x_idxRS (v := v) rfl hL rfl Try.underlying23 z66 (by omega) (by omega) (by omega : _ = k) rfl) ?_
  refine sv (v := (vA #[(vI .i64 x14_.rev_Main), (vI .i64 x14_.rev_Sub), (vI .i64 x14_.created_Main), (vI .i64 x14_.created_Sub), (vI .i64 x14_.ver), (vB x14_.gone)])) (x_loadN (vs := [(vI .i64 x14_.rev_Main), (vI .i64 x14_.rev_Sub), (vI .i64 x14_.created_Main), (vI .i64 x14_.created_Sub), (vI .i64 x14_.ver), (vB x14_.gone)]) rfl Try.underlying66 rfl z66 rfl (RC.cells (RS.rc hL) (Holds.ro_at H7_ 1 rfl) (k * 6 + 0) (fm_cells VR.len hx15_ (i := 0) rfl))) ?_
  refine S_list (T_alloc z66 H7_ ?_)
  intro b17_ w18_ S20_ H19_
  have S21_ := Same.trans S8_ S20_
  refine sv (v := (vI .i64 (k : Int))) (x_assign rfl) ?_
  refine S_list0 (T_storeN (vs := [(vI .i64 x14_.rev_Main), (vI .i64 x14_.rev_Sub), (vI .i64 x14_.created_Main), (vI .i64 x14_.created_Sub), (vI .i64 x14_.ver), (vB x14_.gone)]) rfl rfl z66 rfl (by simp [Value.oneCell']) H19_ 0 rfl (Nat.le_of_ble_eq_true (by rfl)) ?_)
  intro w22_ S24_ H23_
  have S25_ := Same.trans S21_ S24_
  refine wpList_nil (X_then (hK13_ _ _ ?_))
  clear hK13_
  refine C_seq (fun K26_ hK26_ => C_reg ?_)
  refine sv (v := (vP (some ⟨b17_, 0, none⟩))) (by kernel_rfl) ?_
  refine sv (v := (vP (some ⟨b17_, 0, none⟩))) (by kernel_rfl) ?_
  refine sv (v := (vI .i64 x14_.rev_Main)) (x_load1 rfl Try.underlying2 rfl ((Holds.rd H23_ 0 rfl) 0 (vI .i64 x14_.rev_Main) rfl)) ?_
  refine sv (v := (vI .i64 at_)) (x_move rfl) ?_
  refine sv (v := (vB (decide (x14_.rev_Main ≤ at_)))) (x_bin rfl rfl rfl) ?_
  refine sv (v := (vB (decide (x14_.rev_Main ≤ at_)))) (x_move rfl) ?_
  rcases Bool.eq_false_or_eq_true (decide (x14_.rev_Main ≤ at_)) with c27_t | c27_f
  ·have c27_tp : x14_.rev_Main ≤ at_ := of_decide_eq_true c27_t
   refine S_yes (j := 5) (dj := 22) (b := true) rfl rfl (congrArg vB c27_t) (T_val (v := v) (x_move rfl) ?_)
   refine S_yes (j := 5) (dj := 22) (b := true) rfl rfl (congrArg vB c27_t) (T_val (v := (vI .i64 (k : Int))) (x_move rfl) ?_)
   refine S_yes (j := 5) (dj := 22) (b := true) rfl rfl (congrArg vB c27_t) (T_val (v := (vI .i64 at_)) (x_move rfl) ?_)
   have H29_ := ((Holds.bring H23_ 2 rfl) :)
   refine S_yes (j := 5) (dj := 22) (b := true) rfl rfl (congrArg vB c27_t) (T_call (al := [v, (vI .i64 (k : Int)), (vI .i64 at_)]) (pre := []) rfl rfl cb53 (kStays R v L k at_ x14_ hL (by first | assumption | omega) (by first | assumption | omega) (hx15_)) H29_ ?_)
   rintro v28_ p33_ w30_ ⟨rfl, rfl⟩ S32_ H31_
   have S34_ := Same.trans S25_ S32_
   refine S_list (T_pickT (v := (vB (vStay L at_ k x14_))) (congrArg vB c27_t) rfl ?_)
   refine sv (v := (vB (vStay L at_ k x14_))) (x_move rfl) ?_
   rcases Bool.eq_false_or_eq_true (vStay L at_ k x14_) with c35_t | c35_f
   ·skip
    refine S_yes (j := 11) (dj := 28) (b := true) rfl rfl (congrArg vB c35_t) (T_val (v := (vB ends)) (x_move rfl) ?_)
    refine S_yes (j := 11) (dj := 28) (b := true) rfl rfl (congrArg vB c35_t) (T_val (v := (vB ends)) (x_move rfl) ?_)
    rcases Bool.eq_false_or_eq_true (ends) with c36_t | c36_f
    ·skip
     refine S_no (j := 13) (dj := 30) (b := true) rfl rfl (congrArg vB c36_t) (by decide) ?_
     refine S_no (j := 13) (dj := 30) (b := true) rfl rfl (congrArg vB c36_t) (by decide) ?_
     refine S_no (j := 13) (dj := 30) (b := true) rfl rfl (congrArg vB c36_t) (by decide) ?_
     refine S_yes (j := 11) (dj := 28) (b := true) rfl rfl (congrArg vB c35_t) (T_pickT (v := (vB true)) (congrArg vB c36_t) rfl ?_)
     refine S_list (T_pickT (v := (vB true)) (congrArg vB c35_t) rfl ?_)
     refine wpList_nil (X_then (hK26_ _ _ ?_))
     clear hK26_
     refine C_condT rfl ?_
     refine C_reg ?_
     refine sv (v := v1) (x_move rfl) ?_
     refine sv (v := (vP (some ⟨b17_, 0, none⟩))) (by kernel_rfl) ?_
     refine sv (v := (vA #[(vI .i64 x14_.rev_Main), (vI .i64 x14_.rev_Sub)])) (x_loadN (vs := [(vI .i64 x14_.rev_Main), (vI .i64 x14_.rev_Sub)]) rfl Try.underlying31 rfl z31 rfl (Rd.cells (Holds.rd H31_ 1 rfl) 0 rfl)) ?_
     refine S_list (T_new (obj := .cells #[(vI .i64 x14_.rev_Main), (vI .i64 x14_.rev_Sub)] 31) (f := fun b__ => .slice (some ⟨b__, 0, none⟩) 1 1) (A := fun b__ => cl b__ 31 [(vI .i64 x14_.rev_Main), (vI .i64 x14_.rev_Sub)]) (by kernel_rfl) (fun l h => h.alloc _ _) H31_ ?_)
     intro b37_ w38_ S40_ H39_
     have S41_ := Same.trans S34_ S40_
     refine S_list (T_append rfl rfl Try.underlying41 z31 rfl (by decide) H39_ 3 rfl (Holds.cl_src H39_ 0 rfl Try.underlying41 (by simp [Value.oneCell']) rfl) (by have hq_ := vSieve_len L (fun i v => decide (v.rev_Main ≤ at_) && vStay L at_ i v && (ends || !v.gone)) k; first | omega | (simp only [List.length_map]; omega)) ?_)
     intro v42_ w43_ S45_ H44_
     have S46_ := Same.trans S41_ S45_
     refine sv (v := v42_) (x_assign rfl) ?_
     refine wpList_nil (X_blkN (X_then (hK12_ _ _ ?_)))
     clear hK12_
     refine C_reg ?_
     refine sv (v := (vI .i64 ((k : Int) + 1))) (x_bin rfl rfl (ib_add (IntWalk.i64_in _ (by omega)))) ?_
     refine sv (v := (vI .i64 ((k : Int) + 1))) (x_move rfl) ?_
     refine wpList_nil (X_then ?_)
     have H47_ := Holds.resl H44_ 3 rfl ((by rw [vSieve_yes hx15_ (by first | (simp_all; done) | (simp_all; omega))] <;> simp [VR.cells, RV.cells, VR.rv]) : (((vSieve L (fun i v => decide (v.rev_Main ≤ at_) && vStay L at_ i v && (ends || !v.gone)) k).map VR.rv).flatMap RV.cells) ++ [(vI .i64 x14_.rev_Main), (vI .i64 x14_.rev_Sub)] = ((vSieve L (fun i v => decide (v.rev_Main ≤ at_) && vStay L at_ i v && (ends || !v.gone)) (k + 1)).map VR.rv).flatMap RV.cells) ((by rw [vSieve_yes hx15_ (by first | (simp_all; done) | (simp_all; omega))] <;> simp [VR.cells, RV.cells, VR.rv]) : (List.length ((vSieve L (fun i v => decide (v.rev_Main ≤ at_) && vStay L at_ i v && (ends || !v.gone)) k).map VR.rv)) + 1 = (List.length ((vSieve L (fun i v => decide (v.rev_Main ≤ at_) && vStay L at_ i v && (ends || !v.gone)) (k + 1)).map VR.rv)))
     have H48_ : Holds w43_ (sl 31 2 v42_ (List.length ((vSieve L (fun i v => decide (v.rev_Main ≤ at_) && vStay L at_ i v && (ends || !v.gone)) (k + 1)).map VR.rv)) (((vSieve L (fun i v => decide (v.rev_Main ≤ at_) && vStay L at_ i v && (ends || !v.gone)) (k + 1)).map VR.rv).flatMap RV.cells) :: ro R :: F) := (Holds.pkF H47_ [3, 1] 2 :)
     exact ⟨⟨k + 1, v42_⟩, ⟨_, congrArg (fun e => mkA 43 e []) (ch (ch (ch (ch (ch (ch (ch (ch rfl rfl) rfl) rfl) rfl) rfl) rfl) rfl) (congrArg (vI .i64) ((by first | rfl | omega | (simp; done) | (simp; omega)) : (k : Int) + 1 = ((k + 1 : Nat) : Int)))), H48_, S46_, (by first | assumption | omega | exact rfl)⟩, by first | omega | (dsimp only; omega) | (simp; omega)⟩
    ·skip
     refine S_yes (j := 13) (dj := 30) (b := false) rfl rfl (congrArg vB c36_f) (T_val (v := (vP (some ⟨b17_, 5, none⟩))) (by kernel_rfl) ?_)
     refine S_yes (j := 13) (dj := 30) (b := false) rfl rfl (congrArg vB c36_f) (T_val (v := (vB x14_.gone)) (x_load1 rfl Try.underlying4 rfl ((Holds.rd H31_ 1 rfl) 5 (vB x14_.gone) rfl)) ?_)
     refine S_yes (j := 13) (dj := 30) (b := false) rfl rfl (congrArg vB c36_f) (T_val (v := (vB (!x14_.gone))) (x_not rfl) ?_)
     refine S_yes (j := 11) (dj := 28) (b := true) rfl rfl (congrArg vB c35_t) (T_pickF (v := (vB (!x14_.gone))) (congrArg vB c36_f) rfl ?_)
     refine S_list (T_pickT (v := (vB (!x14_.gone))) (congrArg vB c35_t) rfl ?_)
     refine wpList_nil (X_then (hK26_ _ _ ?_))
     clear hK26_
     refine C_cond (b := !x14_.gone) rfl (fun c49_t => ?_) (fun c49_f => ?_)
     ·skip
      refine C_reg ?_
      refine sv (v := v1) (x_move rfl) ?_
      refine sv (v := (vP (some ⟨b17_, 0, none⟩))) (by kernel_rfl) ?_
      refine sv (v := (vA #[(vI .i64 x14_.rev_Main), (vI .i64 x14_.rev_Sub)])) (x_loadN (vs := [(vI .i64 x14_.rev_Main), (vI .i64 x14_.rev_Sub)]) rfl Try.underlying31 rfl z31 rfl (Rd.cells (Holds.rd H31_ 1 rfl) 0 rfl)) ?_
      refine S_list (T_new (obj := .cells #[(vI .i64 x14_.rev_Main), (vI .i64 x14_.rev_Sub)] 31) (f := fun b__ => .slice (some ⟨b__, 0, none⟩) 1 1) (A := fun b__ => cl b__ 31 [(vI .i64 x14_.rev_Main), (vI .i64 x14_.rev_Sub)]) (by kernel_rfl) (fun l h => h.alloc _ _) H31_ ?_)
      intro b50_ w51_ S53_ H52_
      have S54_ := Same.trans S34_ S53_
      refine S_list (T_append rfl rfl Try.underlying41 z31 rfl (by decide) H52_ 3 rfl (Holds.cl_src H52_ 0 rfl Try.underlying41 (by simp [Value.oneCell']) rfl) (by have hq_ := vSieve_len L (fun i v => decide (v.rev_Main ≤ at_) && vStay L at_ i v && (ends || !v.gone)) k; first | omega | (simp only [List.length_map]; omega)) ?_)
      intro v55_ w56_ S58_ H57_
      have S59_ := Same.trans S54_ S58_
      refine sv (v := v55_) (x_assign rfl) ?_
      refine wpList_nil (X_blkN (X_then (hK12_ _ _ ?_)))
      clear hK12_
      refine C_reg ?_
      refine sv (v := (vI .i64 ((k : Int) + 1))) (x_bin rfl rfl (ib_add (IntWalk.i64_in _ (by omega)))) ?_
      refine sv (v := (vI .i64 ((k : Int) + 1))) (x_move rfl) ?_
      refine wpList_nil (X_then ?_)
      have H60_ := Holds.resl H57_ 3 rfl ((by rw [vSieve_yes hx15_ (by first | (simp_all; done) | (simp_all; omega))] <;> simp [VR.cells, RV.cells, VR.rv]) : (((vSieve L (fun i v => decide (v.rev_Main ≤ at_) && vStay L at_ i v && (ends || !v.gone)) k).map VR.rv).flatMap RV.cells) ++ [(vI .i64 x14_.rev_Main), (vI .i64 x14_.rev_Sub)] = ((vSieve L (fun i v => decide (v.rev_Main ≤ at_) && vStay L at_ i v && (ends || !v.gone)) (k + 1)).map VR.rv).flatMap RV.cells) ((by rw [vSieve_yes hx15_ (by first | (simp_all; done) | (simp_all; omega))] <;> simp [VR.cells, RV.cells, VR.rv]) : (List.length ((vSieve L (fun i v => decide (v.rev_Main ≤ at_) && vStay L at_ i v && (ends || !v.gone)) k).map VR.rv)) + 1 = (List.length ((vSieve L (fun i v => decide (v.rev_Main ≤ at_) && vStay L at_ i v && (ends || !v.gone)) (k + 1)).map VR.rv)))
      have H61_ : Holds w56_ (sl 31 2 v55_ (List.length ((vSieve L (fun i v => decide (v.rev_Main ≤ at_) && vStay L at_ i v && (ends || !v.gone)) (k + 1)).map VR.rv)) (((vSieve L (fun i v => decide (v.rev_Main ≤ at_) && vStay L at_ i v && (ends || !v.gone)) (k + 1)).map VR.rv).flatMap RV.cells) :: ro R :: F) := (Holds.pkF H60_ [3, 1] 2 :)
      exact ⟨⟨k + 1, v55_⟩, ⟨_, congrArg (fun e => mkA 43 e []) (ch (ch (ch (ch (ch (ch (ch (ch rfl rfl) rfl) rfl) rfl) rfl) rfl) rfl) (congrArg (vI .i64) ((by first | rfl | omega | (simp; done) | (simp; omega)) : (k : Int) + 1 = ((k + 1 : Nat) : Int)))), H61_, S59_, (by first | assumption | omega | exact rfl)⟩, by first | omega | (dsimp only; omega) | (simp; omega)⟩
     ·skip
      refine C_skip (X_blkN (X_then (hK12_ _ _ ?_)))
      clear hK12_
      refine C_reg ?_
      refine sv (v := (vI .i64 ((k : Int) + 1))) (x_bin rfl rfl (ib_add (IntWalk.i64_in _ (by omega)))) ?_
      refine sv (v := (vI .i64 ((k : Int) + 1))) (x_move rfl) ?_
      refine wpList_nil (X_then ?_)
      have H62_ := Holds.resl H31_ 2 rfl ((by rw [vSieve_no hx15_ (by first | (simp_all; done) | (simp_all; omega))] <;> simp [VR.cells, RV.cells, VR.rv]) : ((vSieve L (fun i v => decide (v.rev_Main ≤ at_) && vStay L at_ i v && (ends || !v.gone)) k).map VR.rv).flatMap RV.cells = ((vSieve L (fun i v => decide (v.rev_Main ≤ at_) && vStay L at_ i v && (ends || !v.gone)) (k + 1)).map VR.rv).flatMap RV.cells) ((by rw [vSieve_no hx15_ (by first | (simp_all; done) | (simp_all; omega))] <;> simp [VR.cells, RV.cells, VR.rv]) : (List.length ((vSieve L (fun i v => decide (v.rev_Main ≤ at_) && vStay L at_ i v && (ends || !v.gone)) k).map VR.rv)) = (List.length ((vSieve L (fun i v => decide (v.rev_Main ≤ at_) && vStay L at_ i v && (ends || !v.gone)) (k + 1)).map VR.rv)))
      have H63_ : Holds w30_ (sl 31 2 v1 (List.length ((vSieve L (fun i v => decide (v.rev_Main ≤ at_) && vStay L at_ i v && (ends || !v.gone)) (k + 1)).map VR.rv)) (((vSieve L (fun i v => decide (v.rev_Main ≤ at_) && vStay L at_ i v && (ends || !v.gone)) (k + 1)).map VR.rv).flatMap RV.cells) :: ro R :: F) := (Holds.pkF H62_ [2, 0] 1 :)
      exact ⟨⟨k + 1, v1⟩, ⟨_, congrArg (fun e => mkA 43 e []) (ch (ch (ch (ch (ch (ch (ch (ch rfl rfl) rfl) rfl) rfl) rfl) rfl) rfl) (congrArg (vI .i64) ((by first | rfl | omega | (simp; done) | (simp; omega)) : (k : Int) + 1 = ((k + 1 : Nat) : Int)))), H63_, S34_, (by first | assumption | omega | exact rfl)⟩, by first | omega | (dsimp only; omega) | (simp; omega)⟩
   ·skip
    refine S_no (j := 11) (dj := 28) (b := false) rfl rfl (congrArg vB c35_f) (by decide) ?_
    refine S_no (j := 11) (dj := 28) (b := false) rfl rfl (congrArg vB c35_f) (by decide) ?_
    refine S_noU (j := 13) (dj := 30) rfl rfl rfl ?_
    refine S_noU (j := 13) (dj := 30) rfl rfl rfl ?_
    refine S_noU (j := 13) (dj := 30) rfl rfl rfl ?_
    refine S_no (j := 11) (dj := 28) (b := false) rfl rfl (congrArg vB c35_f) (by decide) ?_
    refine S_list (T_pickF (v := (vB false)) (congrArg vB c35_f) rfl ?_)
    refine wpList_nil (X_then (hK26_ _ _ ?_))
    clear hK26_
    refine C_condF rfl ?_
    refine C_skip (X_blkN (X_then (hK12_ _ _ ?_)))
    clear hK12_
    refine C_reg ?_
    refine sv (v := (vI .i64 ((k : Int) + 1))) (x_bin rfl rfl (ib_add (IntWalk.i64_in _ (by omega)))) ?_
    refine sv (v := (vI .i64 ((k : Int) + 1))) (x_move rfl) ?_
    refine wpList_nil (X_then ?_)
    have H64_ := Holds.resl H31_ 2 rfl ((by rw [vSieve_no hx15_ (by first | (simp_all; done) | (simp_all; omega))] <;> simp [VR.cells, RV.cells, VR.rv]) : ((vSieve L (fun i v => decide (v.rev_Main ≤ at_) && vStay L at_ i v && (ends || !v.gone)) k).map VR.rv).flatMap RV.cells = ((vSieve L (fun i v => decide (v.rev_Main ≤ at_) && vStay L at_ i v && (ends || !v.gone)) (k + 1)).map VR.rv).flatMap RV.cells) ((by rw [vSieve_no hx15_ (by first | (simp_all; done) | (simp_all; omega))] <;> simp [VR.cells, RV.cells, VR.rv]) : (List.length ((vSieve L (fun i v => decide (v.rev_Main ≤ at_) && vStay L at_ i v && (ends || !v.gone)) k).map VR.rv)) = (List.length ((vSieve L (fun i v => decide (v.rev_Main ≤ at_) && vStay L at_ i v && (ends || !v.gone)) (k + 1)).map VR.rv)))
    have H65_ : Holds w30_ (sl 31 2 v1 (List.length ((vSieve L (fun i v => decide (v.rev_Main ≤ at_) && vStay L at_ i v && (ends || !v.gone)) (k + 1)).map VR.rv)) (((vSieve L (fun i v => decide (v.rev_Main ≤ at_) && vStay L at_ i v && (ends || !v.gone)) (k + 1)).map VR.rv).flatMap RV.cells) :: ro R :: F) := (Holds.pkF H64_ [2, 0] 1 :)
    exact ⟨⟨k + 1, v1⟩, ⟨_, congrArg (fun e => mkA 43 e []) (ch (ch (ch (ch (ch (ch (ch (ch rfl rfl) rfl) rfl) rfl) rfl) rfl) rfl) (congrArg (vI .i64) ((by first | rfl | omega | (simp; done) | (simp; omega)) : (k : Int) + 1 = ((k + 1 : Nat) : Int)))), H65_, S34_, (by first | assumption | omega | exact rfl)⟩, by first | omega | (dsimp only; omega) | (simp; omega)⟩
  ·have c27_fp : ¬ (x14_.rev_Main ≤ at_) := of_decide_eq_false c27_f
   refine S_no (j := 5) (dj := 22) (b := false) rfl rfl (congrArg vB c27_f) (by decide) ?_
   refine S_no (j := 5) (dj := 22) (b := false) rfl rfl (congrArg vB c27_f) (by decide) ?_
   refine S_no (j := 5) (dj := 22) (b := false) rfl rfl (congrArg vB c27_f) (by decide) ?_
   refine S_no (j := 5) (dj := 22) (b := false) rfl rfl (congrArg vB c27_f) (by decide) ?_
   refine S_list (T_pickF (v := (vB false)) (congrArg vB c27_f) rfl ?_)
   refine sv (v := (vB false)) (x_move rfl) ?_
   refine S_no (j := 11) (dj := 28) (b := false) rfl rfl rfl (by decide) ?_
   refine S_no (j := 11) (dj := 28) (b := false) rfl rfl rfl (by decide) ?_
   refine S_noU (j := 13) (dj := 30) rfl rfl rfl ?_
   refine S_noU (j := 13) (dj := 30) rfl rfl rfl ?_
   refine S_noU (j := 13) (dj := 30) rfl rfl rfl ?_
   refine S_no (j := 11) (dj := 28) (b := false) rfl rfl rfl (by decide) ?_
   refine S_list (T_pickF (v := (vB false)) rfl rfl ?_)
   refine wpList_nil (X_then (hK26_ _ _ ?_))
   clear hK26_
   refine C_condF rfl ?_
   refine C_skip (X_blkN (X_then (hK12_ _ _ ?_)))
   clear hK12_
   refine C_reg ?_
   refine sv (v := (vI .i64 ((k : Int) + 1))) (x_bin rfl rfl (ib_add (IntWalk.i64_in _ (by omega)))) ?_
   refine sv (v := (vI .i64 ((k : Int) + 1))) (x_move rfl) ?_
   refine wpList_nil (X_then ?_)
   have H66_ := Holds.resl H23_ 1 rfl ((by rw [vSieve_no hx15_ (by first | (simp_all; done) | (simp_all; omega))] <;> simp [VR.cells, RV.cells, VR.rv]) : ((vSieve L (fun i v => decide (v.rev_Main ≤ at_) && vStay L at_ i v && (ends || !v.gone)) k).map VR.rv).flatMap RV.cells = ((vSieve L (fun i v => decide (v.rev_Main ≤ at_) && vStay L at_ i v && (ends || !v.gone)) (k + 1)).map VR.rv).flatMap RV.cells) ((by rw [vSieve_no hx15_ (by first | (simp_all; done) | (simp_all; omega))] <;> simp [VR.cells, RV.cells, VR.rv]) : (List.length ((vSieve L (fun i v => decide (v.rev_Main ≤ at_) && vStay L at_ i v && (ends || !v.gone)) k).map VR.rv)) = (List.length ((vSieve L (fun i v => decide (v.rev_Main ≤ at_) && vStay L at_ i v && (ends || !v.gone)) (k + 1)).map VR.rv)))
   have H67_ : Holds w22_ (sl 31 2 v1 (List.length ((vSieve L (fun i v => decide (v.rev_Main ≤ at_) && vStay L at_ i v && (ends || !v.gone)) (k + 1)).map VR.rv)) (((vSieve L (fun i v => decide (v.rev_Main ≤ at_) && vStay L at_ i v && (ends || !v.gone)) (k + 1)).map VR.rv).flatMap RV.cells) :: ro R :: F) := (Holds.pkF H66_ [1, 1] 1 :)
   exact ⟨⟨k + 1, v1⟩, ⟨_, congrArg (fun e => mkA 43 e []) (ch (ch (ch (ch (ch (ch (ch (ch rfl rfl) rfl) rfl) rfl) rfl) rfl) rfl) (congrArg (vI .i64) ((by first | rfl | omega | (simp; done) | (simp; omega)) : (k : Int) + 1 = ((k + 1 : Nat) : Int)))), H67_, S25_, (by first | assumption | omega | exact rfl)⟩, by first | omega | (dsimp only; omega) | (simp; omega)⟩
 ·have c11_fp : ¬ ((k : Int) < ((List.length L) : Int)) := of_decide_eq_false c11_f
  refine C_exit (X_thenX (X_thenX (X_blkHit ?_)))
  refine (X_then (hK3_ _ _ ?_))
  clear hK3_
  refine C_seq (fun K68_ hK68_ => C_reg ?_)
  refine sv (v := v1) (x_move rfl) ?_
  refine sv (v := v1) (x_assign rfl) ?_
  refine wpList_nil (X_then (hK68_ _ _ ?_))
  clear hK68_
  refine C_ret ?_
  refine R_any (v := v1) (run_results1 rfl rfl) ?_
  have H69_ := Holds.resl H7_ 0 rfl ((by rw [show k = L.length by omega]) : ((vSieve L (fun i v => decide (v.rev_Main ≤ at_) && vStay L at_ i v && (ends || !v.gone)) k).map VR.rv).flatMap RV.cells = ((vSieve L (fun i v => decide (v.rev_Main ≤ at_) && vStay L at_ i v && (ends || !v.gone)) L.length).map VR.rv).flatMap RV.cells) ((by rw [show k = L.length by omega]) : (List.length ((vSieve L (fun i v => decide (v.rev_Main ≤ at_) && vStay L at_ i v && (ends || !v.gone)) k).map VR.rv)) = (List.length ((vSieve L (fun i v => decide (v.rev_Main ≤ at_) && vStay L at_ i v && (ends || !v.gone)) L.length).map VR.rv)))
  have H70_ : Holds w6_ (ro R :: sl 31 2 v1 (List.length ((vSieve L (fun i v => decide (v.rev_Main ≤ at_) && vStay L at_ i v && (ends || !v.gone)) L.length).map VR.rv)) (((vSieve L (fun i v => decide (v.rev_Main ≤ at_) && vStay L at_ i v && (ends || !v.gone)) L.length).map VR.rv).flatMap RV.cells) :: F) := (Holds.pkF H69_ [1, 0] 0 :)
  exact ⟨_, _, rfl, ⟨v1, rfl, rfl⟩, S8_, H70_⟩

set_option maxHeartbeats 1600000 in
theorem kSince (R : HP) (v : Value) (L : List VR) (at_ : Int) (hL : RS R 6 v (List.length L) (L.flatMap VR.cells)) (hl : L.length ≤ 10000) :
    Tri Try.prog 12 #[v, (vI .i64 at_)] R [] (fun v__ post__ => ∃ (v' : Value), v__ = v' ∧ post__ = [sl 31 2 v' (List.length ((vSieve L (vSinceP L at_) L.length).map VR.rv)) (((vSieve L (vSinceP L at_) L.length).map VR.rv).flatMap RV.cells)]) := by
 refine Tri.into (n := 47) (al := [v, (vI .i64 at_)]) Try.func12 rfl Try.ntmps12 rfl rfl fun w F H => ?_
 refine C_seq (fun K1_ hK1_ => C_reg ?_)
 refine sv (v := (vS none 0 0)) (x_assign rfl) ?_
 refine wpList_nil (X_then (hK1_ _ _ ?_))
 clear hK1_
 refine C_seq (fun K2_ hK2_ => C_reg ?_)
 refine sv (v := (vS none 0 0)) (x_assign rfl) ?_
 refine wpList_nil (X_then (hK2_ _ _ ?_))
 clear hK2_
 refine C_seq (fun K3_ hK3_ => ?_)
 refine C_seq (fun K4_ hK4_ => C_reg ?_)
 refine sv (v := v) (x_move rfl) ?_
 refine sv (v := (vI .i64 ((List.length L) : Int))) (x_lenRS rfl hL Try.underlying23) ?_
 refine sv (v := (vI .i64 0)) (x_move rfl) ?_
 refine wpList_nil (X_then (hK4_ _ _ ?_))
 clear hK4_
 refine C_block ?_
 have H5_ : Holds w (sl 31 2 (vS none 0 0) (List.length ((vSieve L (vSinceP L at_) 0).map VR.rv)) (((vSieve L (vSinceP L at_) 0).map VR.rv).flatMap RV.cells) :: ro R :: F) := Holds.add_nil H 31 2
 refine C_loop (γ := Nat × Value) (fun x__ a__ w1__ => match x__ with | ⟨k, v1⟩ => ∃ h : Env, a__ = mkA 47 (upd (upd (upd (upd (upd (upd (upd h 0 v) 1 (vI .i64 at_)) 4 (vS none 0 0)) 5 v1) 8 v) 9 (vI .i64 ((List.length L) : Int))) 10 (vI .i64 (k : Int))) [] ∧ Holds w1__ (sl 31 2 v1 (List.length ((vSieve L (vSinceP L at_) k).map VR.rv)) (((vSieve L (vSinceP L at_) k).map VR.rv).flatMap RV.cells) :: ro R :: F) ∧ Same w w1__ ∧ (k ≤ L.length)) (fun x__ => match x__ with | ⟨k, v1⟩ => L.length - k) (⟨0, (vS none 0 0)⟩) ⟨_, congrArg (fun e => mkA 47 e []) (ch (ch (ch (ch (ch (ch (ch rfl rfl) rfl) rfl) (rfl : (vS none 0 0) = ((vS none 0 0)))) rfl) rfl) (congrArg (vI .i64) ((by first | rfl | omega | (simp; done) | (simp; omega)) : 0 = (0 : Int)))), H5_, (Same.refl w), (by first | assumption | omega | exact rfl)⟩ ?_
 rintro ⟨k, v1⟩ _ w6_ ⟨h, rfl, H7_, S8_, hk⟩
 refine C_seq (fun K9_ hK9_ => C_reg ?_)
 refine sv (v := (vB (decide ((k : Int) < ((List.length L) : Int))))) (x_bin rfl rfl rfl) ?_
 refine wpList_nil (X_then (hK9_ _ _ ?_))
 clear hK9_
 refine C_seq (fun K10_ hK10_ => ?_)
 refine C_cond (b := decide ((k : Int) < ((List.length L) : Int))) rfl (fun c11_t => ?_) (fun c11_f => ?_)
 ·have c11_tp : (k : Int) < ((List.length L) : Int) := of_decide_eq_true c11_t
  refine C_skip (X_then (hK10_ _ _ ?_))
  clear hK10_
  refine C_seq (fun K12_ hK12_ => ?_)
  refine C_block ?_
  refine C_seq (fun K13_ hK13_ => C_reg ?_)
  refine sv (v := (vI .i64 (k : Int))) (x_move rfl) ?_
  obtain ⟨x14_, hx15_, hm16_⟩ := elem_at L k (by omega)
  refine sv (v := (vP (some ⟨(sb v), so v + (k * 6 + 0), none⟩))) (x_idxRS (v := v) rfl hL rfl Try.underlying23 z66 (by omega) (by omega) (by omega : _ = k) rfl) ?_
  refine sv (v := (vA #[(vI .i64 x14_.rev_Main), (vI .i64 x14_.rev_Sub), (vI .i64 x14_.created_Main), (vI .i64 x14_.created_Sub), (vI .i64 x14_.ver), (vB x14_.gone)])) (x_loadN (vs := [(vI .i64 x14_.rev_Main), (vI .i64 x14_.rev_Sub), (vI .i64 x14_.created_Main), (vI .i64 x14_.created_Sub), (vI .i64 x14_.ver), (vB x14_.gone)]) rfl Try.underlying66 rfl z66 rfl (RC.cells (RS.rc hL) (Holds.ro_at H7_ 1 rfl) (k * 6 + 0) (fm_cells VR.len hx15_ (i := 0) rfl))) ?_
  refine S_list (T_alloc z66 H7_ ?_)
  intro b17_ w18_ S20_ H19_
  have S21_ := Same.trans S8_ S20_
  refine sv (v := (vI .i64 (k : Int))) (x_assign rfl) ?_
  refine S_list0 (T_storeN (vs := [(vI .i64 x14_.rev_Main), (vI .i64 x14_.rev_Sub), (vI .i64 x14_.created_Main), (vI .i64 x14_.created_Sub), (vI .i64 x14_.ver), (vB x14_.gone)]) rfl rfl z66 rfl (by simp [Value.oneCell']) H19_ 0 rfl (Nat.le_of_ble_eq_true (by rfl)) ?_)
  intro w22_ S24_ H23_
  have S25_ := Same.trans S21_ S24_
  refine wpList_nil (X_then (hK13_ _ _ ?_))
  clear hK13_
  refine C_seq (fun K26_ hK26_ => ?_)
  refine A_start (S := fun w => Rd b17_ [(vI .i64 x14_.rev_Main), (vI .i64 x14_.rev_Sub), (vI .i64 x14_.created_Main), (vI .i64 x14_.created_Sub), (vI .i64 x14_.ver), (vB x14_.gone)] w ∧ SlRd v1 (((vSieve L (vSinceP L at_) k).map VR.rv).flatMap RV.cells) w ∧ Sub R (hp w)) (N := 25) foll rfl rfl ?_
  have H27_ := Holds.drew_ H23_
  have hq28_ := And.intro (Holds.rd H27_ 0 rfl) (And.intro (Holds.slrd H27_ 1 rfl) ((Holds.ro_at H27_ 2 rfl)))
  refine A_tk 0 (v := (vP (some ⟨b17_, 0, none⟩))) rfl (by kernel_rfl) (fun w hS => by kernel_rfl) hq28_ ?_
  refine A_tk 1 (v := (vP (some ⟨b17_, 0, none⟩))) rfl (by kernel_rfl) (fun w hS => by kernel_rfl) hq28_ ?_
  refine A_tk 2 (v := (vI .i64 x14_.rev_Main)) rfl (by kernel_rfl) (fun w hS => x_load1 rfl Try.underlying2 rfl (hS.1 0 (vI .i64 x14_.rev_Main) rfl)) hq28_ ?_
  refine A_tk 3 (v := (vI .i64 at_)) rfl (by kernel_rfl) (fun w hS => x_move rfl) hq28_ ?_
  refine A_tk 4 (v := (vB (decide (at_ ≤ x14_.rev_Main)))) rfl (by kernel_rfl) (fun w hS => x_bin rfl rfl rfl) hq28_ ?_
  refine A_tk 5 (v := (vB (decide (at_ ≤ x14_.rev_Main)))) rfl (by kernel_rfl) (fun w hS => x_move rfl) hq28_ ?_
  rcases Bool.eq_false_or_eq_true (decide (at_ ≤ x14_.rev_Main)) with c29_t | c29_f
  ·have c29_tp : at_ ≤ x14_.rev_Main := of_decide_eq_true c29_t
   refine A_tkY 6 (j := 5) (dj := 20) (b := true) (v := (vI .i64 (k : Int))) rfl (by kernel_rfl) rfl rfl (congrArg vB c29_t) (fun w hS => x_move rfl) hq28_ ?_
   refine A_tkY 7 (j := 5) (dj := 20) (b := true) (v := v) rfl (by kernel_rfl) rfl rfl (congrArg vB c29_t) (fun w hS => x_move rfl) hq28_ ?_
   refine A_tkY 8 (j := 5) (dj := 20) (b := true) (v := (vI .i64 ((List.length L) : Int))) rfl (by kernel_rfl) rfl rfl (congrArg vB c29_t) (fun w hS => x_lenRS rfl hL Try.underlying23) hq28_ ?_
   refine A_tkY 9 (j := 5) (dj := 20) (b := true) (v := (vI .i64 (((List.length L) : Int) - 1))) rfl (by kernel_rfl) rfl rfl (congrArg vB c29_t) (fun w hS => x_bin rfl rfl (ib_sub (IntWalk.i64_in _ (by omega)))) hq28_ ?_
   refine A_tkY 10 (j := 5) (dj := 20) (b := true) (v := (vB (decide ((k : Int) = ((List.length L) : Int) - 1)))) rfl (by kernel_rfl) rfl rfl (congrArg vB c29_t) (fun w hS => x_bin rfl rfl rfl) hq28_ ?_
   refine A_tkY 11 (j := 5) (dj := 20) (b := true) (v := (vB (decide ((k : Int) = ((List.length L) : Int) - 1)))) rfl (by kernel_rfl) rfl rfl (congrArg vB c29_t) (fun w hS => x_move rfl) hq28_ ?_
   rcases Bool.eq_false_or_eq_true (decide ((k : Int) = ((List.length L) : Int) - 1)) with c30_t | c30_f
   ·have c30_tp : (k : Int) = ((List.length L) : Int) - 1 := of_decide_eq_true c30_t
    refine A_tkN 12 (j := 11) (dj := 26) (b := true) rfl (by kernel_rfl) rfl rfl (congrArg vB c30_t) (by decide) hq28_ ?_
    refine A_tkN 13 (j := 11) (dj := 26) (b := true) rfl (by kernel_rfl) rfl rfl (congrArg vB c30_t) (by decide) hq28_ ?_
    refine A_tkN 14 (j := 11) (dj := 26) (b := true) rfl (by kernel_rfl) rfl rfl (congrArg vB c30_t) (by decide) hq28_ ?_
    refine A_tkN 15 (j := 11) (dj := 26) (b := true) rfl (by kernel_rfl) rfl rfl (congrArg vB c30_t) (by decide) hq28_ ?_
    refine A_tkN 16 (j := 11) (dj := 26) (b := true) rfl (by kernel_rfl) rfl rfl (congrArg vB c30_t) (by decide) hq28_ ?_
    refine A_tkN 17 (j := 11) (dj := 26) (b := true) rfl (by kernel_rfl) rfl rfl (congrArg vB c30_t) (by decide) hq28_ ?_
    refine A_tkN 18 (j := 11) (dj := 26) (b := true) rfl (by kernel_rfl) rfl rfl (congrArg vB c30_t) (by decide) hq28_ ?_
    refine A_tkN 19 (j := 11) (dj := 26) (b := true) rfl (by kernel_rfl) rfl rfl (congrArg vB c30_t) (by decide) hq28_ ?_
    refine A_tkN 20 (j := 11) (dj := 26) (b := true) rfl (by kernel_rfl) rfl rfl (congrArg vB c30_t) (by decide) hq28_ ?_
    refine A_tkN 21 (j := 11) (dj := 26) (b := true) rfl (by kernel_rfl) rfl rfl (congrArg vB c30_t) (by decide) hq28_ ?_
    refine A_tkN 22 (j := 11) (dj := 26) (b := true) rfl (by kernel_rfl) rfl rfl (congrArg vB c30_t) (by decide) hq28_ ?_
    refine A_tkY 23 (j := 5) (dj := 20) (b := true) (v := (vB true)) rfl (by kernel_rfl) rfl rfl (congrArg vB c29_t) (fun w hS => (x_pickT (congrArg vB c30_t) rfl)) hq28_ ?_
    refine A_tk 24 (v := (vB true)) rfl (by kernel_rfl) (fun w hS => (x_pickT (congrArg vB c29_t) rfl)) hq28_ ?_
    refine A_done (by kernel_rfl) ?_
    refine (X_then (hK26_ _ _ ?_))
    clear hK26_
    refine C_condT rfl ?_
    refine C_reg ?_
    refine sv (v := v1) (x_move rfl) ?_
    refine sv (v := (vP (some ⟨b17_, 0, none⟩))) (by kernel_rfl) ?_
    refine sv (v := (vA #[(vI .i64 x14_.rev_Main), (vI .i64 x14_.rev_Sub)])) (x_loadN (vs := [(vI .i64 x14_.rev_Main), (vI .i64 x14_.rev_Sub)]) rfl Try.underlying31 rfl z31 rfl (Rd.cells (Holds.rd H27_ 0 rfl) 0 rfl)) ?_
    refine S_list (T_new (obj := .cells #[(vI .i64 x14_.rev_Main), (vI .i64 x14_.rev_Sub)] 31) (f := fun b__ => .slice (some ⟨b__, 0, none⟩) 1 1) (A := fun b__ => cl b__ 31 [(vI .i64 x14_.rev_Main), (vI .i64 x14_.rev_Sub)]) (by kernel_rfl) (fun l h => h.alloc _ _) H27_ ?_)
    intro b31_ w32_ S34_ H33_
    have S35_ := Same.trans (Same.trans S25_ (Same.drew _)) S34_
    refine S_list (T_append rfl rfl Try.underlying41 z31 rfl (by decide) H33_ 2 rfl (Holds.cl_src H33_ 0 rfl Try.underlying41 (by simp [Value.oneCell']) rfl) (by have hq_ := vSieve_len L (vSinceP L at_) k; first | omega | (simp only [List.length_map]; omega)) ?_)
    intro v36_ w37_ S39_ H38_
    have S40_ := Same.trans S35_ S39_
    refine sv (v := v36_) (x_assign rfl) ?_
    refine wpList_nil (X_blkN (X_then (hK12_ _ _ ?_)))
    clear hK12_
    refine C_reg ?_
    refine sv (v := (vI .i64 ((k : Int) + 1))) (x_bin rfl rfl (ib_add (IntWalk.i64_in _ (by omega)))) ?_
    refine sv (v := (vI .i64 ((k : Int) + 1))) (x_move rfl) ?_
    refine wpList_nil (X_then ?_)
    have H41_ := Holds.resl H38_ 2 rfl ((by rw [vSieve_yes hx15_ (vSinceP_end c29_tp c30_tp)] <;> simp [VR.cells, RV.cells, VR.rv]) : (((vSieve L (vSinceP L at_) k).map VR.rv).flatMap RV.cells) ++ [(vI .i64 x14_.rev_Main), (vI .i64 x14_.rev_Sub)] = ((vSieve L (vSinceP L at_) (k + 1)).map VR.rv).flatMap RV.cells) ((by rw [vSieve_yes hx15_ (vSinceP_end c29_tp c30_tp)] <;> simp [VR.cells, RV.cells, VR.rv]) : (List.length ((vSieve L (vSinceP L at_) k).map VR.rv)) + 1 = (List.length ((vSieve L (vSinceP L at_) (k + 1)).map VR.rv)))
    have H42_ : Holds w37_ (sl 31 2 v36_ (List.length ((vSieve L (vSinceP L at_) (k + 1)).map VR.rv)) (((vSieve L (vSinceP L at_) (k + 1)).map VR.rv).flatMap RV.cells) :: ro R :: F) := (Holds.pkF H41_ [2, 2] 2 :)
    exact ⟨⟨k + 1, v36_⟩, ⟨_, congrArg (fun e => mkA 47 e []) (ch (ch (ch (ch (ch (ch (ch rfl rfl) rfl) rfl) rfl) rfl) rfl) (congrArg (vI .i64) ((by first | rfl | omega | (simp; done) | (simp; omega)) : (k : Int) + 1 = ((k + 1 : Nat) : Int)))), H42_, S40_, (by first | assumption | omega | exact rfl)⟩, by first | omega | (dsimp only; omega) | (simp; omega)⟩
   ·have c30_fp : ¬ ((k : Int) = ((List.length L) : Int) - 1) := of_decide_eq_false c30_f
    refine A_tkY 12 (j := 11) (dj := 26) (b := false) (v := v) rfl (by kernel_rfl) rfl rfl (congrArg vB c30_f) (fun w hS => x_move rfl) hq28_ ?_
    refine A_tkY 13 (j := 11) (dj := 26) (b := false) (v := (vI .i64 (k : Int))) rfl (by kernel_rfl) rfl rfl (congrArg vB c30_f) (fun w hS => x_move rfl) hq28_ ?_
    refine A_tkY 14 (j := 11) (dj := 26) (b := false) (v := (vI .i64 ((k : Int) + 1))) rfl (by kernel_rfl) rfl rfl (congrArg vB c30_f) (fun w hS => x_bin rfl rfl (ib_add (IntWalk.i64_in _ (by omega)))) hq28_ ?_
    obtain ⟨x43_, hx44_, hm45_⟩ := elem_at L (k + 1) (by omega)
    refine A_tkY 15 (j := 11) (dj := 26) (b := false) (v := (vP (some ⟨(sb v), so v + ((k + 1) * 6 + 0), none⟩))) rfl (by kernel_rfl) rfl rfl (congrArg vB c30_f) (fun w hS => x_idxRS (v := v) rfl hL rfl Try.underlying23 z66 (by omega) (by omega) (by omega : _ = k + 1) rfl) hq28_ ?_
    refine A_tkY 16 (j := 11) (dj := 26) (b := false) (v := (vP (some ⟨(sb v), so v + ((k + 1) * 6 + 0), none⟩))) rfl (by kernel_rfl) rfl rfl (congrArg vB c30_f) (fun w hS => by kernel_rfl) hq28_ ?_
    refine A_tkY 17 (j := 11) (dj := 26) (b := false) (v := (vP (some ⟨(sb v), so v + ((k + 1) * 6 + 0), none⟩))) rfl (by kernel_rfl) rfl rfl (congrArg vB c30_f) (fun w hS => by kernel_rfl) hq28_ ?_
    refine A_tkY 18 (j := 11) (dj := 26) (b := false) (v := (vI .i64 x43_.rev_Main)) rfl (by kernel_rfl) rfl rfl (congrArg vB c30_f) (fun w hS => x_load1 rfl Try.underlying2 rfl (RC.cell (RS.rc hL) hS.2.2 (j := (k + 1) * 6 + 0) (u := (vI .i64 x43_.rev_Main)) (fm_cell VR.len hx44_ (i := 0) rfl))) hq28_ ?_
    refine A_tkY 19 (j := 11) (dj := 26) (b := false) (v := (vP (some ⟨b17_, 0, none⟩))) rfl (by kernel_rfl) rfl rfl (congrArg vB c30_f) (fun w hS => by kernel_rfl) hq28_ ?_
    refine A_tkY 20 (j := 11) (dj := 26) (b := false) (v := (vP (some ⟨b17_, 0, none⟩))) rfl (by kernel_rfl) rfl rfl (congrArg vB c30_f) (fun w hS => by kernel_rfl) hq28_ ?_
    refine A_tkY 21 (j := 11) (dj := 26) (b := false) (v := (vI .i64 x14_.rev_Main)) rfl (by kernel_rfl) rfl rfl (congrArg vB c30_f) (fun w hS => x_load1 rfl Try.underlying2 rfl (hS.1 0 (vI .i64 x14_.rev_Main) rfl)) hq28_ ?_
    refine A_tkY 22 (j := 11) (dj := 26) (b := false) (v := (vB (decide (x43_.rev_Main ≠ x14_.rev_Main)))) rfl (by kernel_rfl) rfl rfl (congrArg vB c30_f) (fun w hS => x_bin rfl rfl rfl) hq28_ ?_
    refine A_tkY 23 (j := 5) (dj := 20) (b := true) (v := (vB (decide (x43_.rev_Main ≠ x14_.rev_Main)))) rfl (by kernel_rfl) rfl rfl (congrArg vB c29_t) (fun w hS => (x_pickF (congrArg vB c30_f) rfl)) hq28_ ?_
    refine A_tk 24 (v := (vB (decide (x43_.rev_Main ≠ x14_.rev_Main)))) rfl (by kernel_rfl) (fun w hS => (x_pickT (congrArg vB c29_t) rfl)) hq28_ ?_
    refine A_done (by kernel_rfl) ?_
    refine (X_then (hK26_ _ _ ?_))
    clear hK26_
    refine C_cond (b := decide (x43_.rev_Main ≠ x14_.rev_Main)) rfl (fun c46_t => ?_) (fun c46_f => ?_)
    ·have c46_tp : x43_.rev_Main ≠ x14_.rev_Main := of_decide_eq_true c46_t
     refine C_reg ?_
     refine sv (v := v1) (x_move rfl) ?_
     refine sv (v := (vP (some ⟨b17_, 0, none⟩))) (by kernel_rfl) ?_
     refine sv (v := (vA #[(vI .i64 x14_.rev_Main), (vI .i64 x14_.rev_Sub)])) (x_loadN (vs := [(vI .i64 x14_.rev_Main), (vI .i64 x14_.rev_Sub)]) rfl Try.underlying31 rfl z31 rfl (Rd.cells (Holds.rd H27_ 0 rfl) 0 rfl)) ?_
     refine S_list (T_new (obj := .cells #[(vI .i64 x14_.rev_Main), (vI .i64 x14_.rev_Sub)] 31) (f := fun b__ => .slice (some ⟨b__, 0, none⟩) 1 1) (A := fun b__ => cl b__ 31 [(vI .i64 x14_.rev_Main), (vI .i64 x14_.rev_Sub)]) (by kernel_rfl) (fun l h => h.alloc _ _) H27_ ?_)
     intro b47_ w48_ S50_ H49_
     have S51_ := Same.trans (Same.trans S25_ (Same.drew _)) S50_
     refine S_list (T_append rfl rfl Try.underlying41 z31 rfl (by decide) H49_ 2 rfl (Holds.cl_src H49_ 0 rfl Try.underlying41 (by simp [Value.oneCell']) rfl) (by have hq_ := vSieve_len L (vSinceP L at_) k; first | omega | (simp only [List.length_map]; omega)) ?_)
     intro v52_ w53_ S55_ H54_
     have S56_ := Same.trans S51_ S55_
     refine sv (v := v52_) (x_assign rfl) ?_
     refine wpList_nil (X_blkN (X_then (hK12_ _ _ ?_)))
     clear hK12_
     refine C_reg ?_
     refine sv (v := (vI .i64 ((k : Int) + 1))) (x_bin rfl rfl (ib_add (IntWalk.i64_in _ (by omega)))) ?_
     refine sv (v := (vI .i64 ((k : Int) + 1))) (x_move rfl) ?_
     refine wpList_nil (X_then ?_)
     have H57_ := Holds.resl H54_ 2 rfl ((by rw [vSieve_yes hx15_ (by rw [vSinceP_next c29_tp hx44_]; simp_all)] <;> simp [VR.cells, RV.cells, VR.rv]) : (((vSieve L (vSinceP L at_) k).map VR.rv).flatMap RV.cells) ++ [(vI .i64 x14_.rev_Main), (vI .i64 x14_.rev_Sub)] = ((vSieve L (vSinceP L at_) (k + 1)).map VR.rv).flatMap RV.cells) ((by rw [vSieve_yes hx15_ (by rw [vSinceP_next c29_tp hx44_]; simp_all)] <;> simp [VR.cells, RV.cells, VR.rv]) : (List.length ((vSieve L (vSinceP L at_) k).map VR.rv)) + 1 = (List.length ((vSieve L (vSinceP L at_) (k + 1)).map VR.rv)))
     have H58_ : Holds w53_ (sl 31 2 v52_ (List.length ((vSieve L (vSinceP L at_) (k + 1)).map VR.rv)) (((vSieve L (vSinceP L at_) (k + 1)).map VR.rv).flatMap RV.cells) :: ro R :: F) := (Holds.pkF H57_ [2, 2] 2 :)
     exact ⟨⟨k + 1, v52_⟩, ⟨_, congrArg (fun e => mkA 47 e []) (ch (ch (ch (ch (ch (ch (ch rfl rfl) rfl) rfl) rfl) rfl) rfl) (congrArg (vI .i64) ((by first | rfl | omega | (simp; done) | (simp; omega)) : (k : Int) + 1 = ((k + 1 : Nat) : Int)))), H58_, S56_, (by first | assumption | omega | exact rfl)⟩, by first | omega | (dsimp only; omega) | (simp; omega)⟩
    ·have c46_fp : ¬ (x43_.rev_Main ≠ x14_.rev_Main) := of_decide_eq_false c46_f
     refine C_skip (X_blkN (X_then (hK12_ _ _ ?_)))
     clear hK12_
     refine C_reg ?_
     refine sv (v := (vI .i64 ((k : Int) + 1))) (x_bin rfl rfl (ib_add (IntWalk.i64_in _ (by omega)))) ?_
     refine sv (v := (vI .i64 ((k : Int) + 1))) (x_move rfl) ?_
     refine wpList_nil (X_then ?_)
     have H59_ := Holds.resl H27_ 1 rfl ((by rw [vSieve_no hx15_ (by rw [vSinceP_next c29_tp hx44_]; simp_all)] <;> simp [VR.cells, RV.cells, VR.rv]) : ((vSieve L (vSinceP L at_) k).map VR.rv).flatMap RV.cells = ((vSieve L (vSinceP L at_) (k + 1)).map VR.rv).flatMap RV.cells) ((by rw [vSieve_no hx15_ (by rw [vSinceP_next c29_tp hx44_]; simp_all)] <;> simp [VR.cells, RV.cells, VR.rv]) : (List.length ((vSieve L (vSinceP L at_) k).map VR.rv)) = (List.length ((vSieve L (vSinceP L at_) (k + 1)).map VR.rv)))
     have H60_ : Holds w22_.drew (sl 31 2 v1 (List.length ((vSieve L (vSinceP L at_) (k + 1)).map VR.rv)) (((vSieve L (vSinceP L at_) (k + 1)).map VR.rv).flatMap RV.cells) :: ro R :: F) := (Holds.pkF H59_ [1, 1] 1 :)
     exact ⟨⟨k + 1, v1⟩, ⟨_, congrArg (fun e => mkA 47 e []) (ch (ch (ch (ch (ch (ch (ch rfl rfl) rfl) rfl) rfl) rfl) rfl) (congrArg (vI .i64) ((by first | rfl | omega | (simp; done) | (simp; omega)) : (k : Int) + 1 = ((k + 1 : Nat) : Int)))), H60_, (Same.trans S25_ (Same.drew _)), (by first | assumption | omega | exact rfl)⟩, by first | omega | (dsimp only; omega) | (simp; omega)⟩
  ·have c29_fp : ¬ (at_ ≤ x14_.rev_Main) := of_decide_eq_false c29_f
   refine A_tkN 6 (j := 5) (dj := 20) (b := false) rfl (by kernel_rfl) rfl rfl (congrArg vB c29_f) (by decide) hq28_ ?_
   refine A_tkN 7 (j := 5) (dj := 20) (b := false) rfl (by kernel_rfl) rfl rfl (congrArg vB c29_f) (by decide) hq28_ ?_
   refine A_tkN 8 (j := 5) (dj := 20) (b := false) rfl (by kernel_rfl) rfl rfl (congrArg vB c29_f) (by decide) hq28_ ?_
   refine A_tkN 9 (j := 5) (dj := 20) (b := false) rfl (by kernel_rfl) rfl rfl (congrArg vB c29_f) (by decide) hq28_ ?_
   refine A_tkN 10 (j := 5) (dj := 20) (b := false) rfl (by kernel_rfl) rfl rfl (congrArg vB c29_f) (by decide) hq28_ ?_
   refine A_tkN 11 (j := 5) (dj := 20) (b := false) rfl (by kernel_rfl) rfl rfl (congrArg vB c29_f) (by decide) hq28_ ?_
   refine A_takeNoU 12 (ls' := #[true, true, true, true, true, true, true, true, true, true, true, true, true, false, false, false, false, false, false, false, false, false, false, false, false]) (j := 11) (dj := 26) rfl (by kernel_rfl) (by kernel_rfl) (by kernel_rfl) (by kernel_rfl) (fun _ _ _ h => h) rfl rfl rfl ⟨Holds.rd H27_ 0 rfl, Holds.slrd H27_ 1 rfl, (Holds.ro_at H27_ 2 rfl)⟩ ?_
   refine A_takeNoU 13 (ls' := #[true, true, true, true, true, true, true, true, true, true, true, true, true, true, false, false, false, false, false, false, false, false, false, false, false]) (j := 11) (dj := 26) rfl (by kernel_rfl) (by kernel_rfl) (by kernel_rfl) (by kernel_rfl) (fun _ _ _ h => h) rfl rfl rfl ⟨Holds.rd H27_ 0 rfl, Holds.slrd H27_ 1 rfl, (Holds.ro_at H27_ 2 rfl)⟩ ?_
   refine A_takeNoU 14 (ls' := #[true, true, true, true, true, true, true, true, true, true, true, true, true, true, true, false, false, false, false, false, false, false, false, false, false]) (j := 11) (dj := 26) rfl (by kernel_rfl) (by kernel_rfl) (by kernel_rfl) (by kernel_rfl) (fun _ _ _ h => h) rfl rfl rfl ⟨Holds.rd H27_ 0 rfl, Holds.slrd H27_ 1 rfl, (Holds.ro_at H27_ 2 rfl)⟩ ?_
   refine A_takeNoU 15 (ls' := #[true, true, true, true, true, true, true, true, true, true, true, true, true, true, true, true, false, false, false, false, false, false, false, false, false]) (j := 11) (dj := 26) rfl (by kernel_rfl) (by kernel_rfl) (by kernel_rfl) (by kernel_rfl) (fun _ _ _ h => h) rfl rfl rfl ⟨Holds.rd H27_ 0 rfl, Holds.slrd H27_ 1 rfl, (Holds.ro_at H27_ 2 rfl)⟩ ?_
   refine A_takeNoU 16 (ls' := #[true, true, true, true, true, true, true, true, true, true, true, true, true, true, true, true, true, false, false, false, false, false, false, false, false]) (j := 11) (dj := 26) rfl (by kernel_rfl) (by kernel_rfl) (by kernel_rfl) (by kernel_rfl) (fun _ _ _ h => h) rfl rfl rfl ⟨Holds.rd H27_ 0 rfl, Holds.slrd H27_ 1 rfl, (Holds.ro_at H27_ 2 rfl)⟩ ?_
   refine A_takeNoU 17 (ls' := #[true, true, true, true, true, true, true, true, true, true, true, true, true, true, true, true, true, true, false, false, false, false, false, false, false]) (j := 11) (dj := 26) rfl (by kernel_rfl) (by kernel_rfl) (by kernel_rfl) (by kernel_rfl) (fun _ _ _ h => h) rfl rfl rfl ⟨Holds.rd H27_ 0 rfl, Holds.slrd H27_ 1 rfl, (Holds.ro_at H27_ 2 rfl)⟩ ?_
   refine A_takeNoU 18 (ls' := #[true, true, true, true, true, true, true, true, true, true, true, true, true, true, true, true, true, true, true, false, false, false, false, false, false]) (j := 11) (dj := 26) rfl (by kernel_rfl) (by kernel_rfl) (by kernel_rfl) (by kernel_rfl) (fun _ _ _ h => h) rfl rfl rfl ⟨Holds.rd H27_ 0 rfl, Holds.slrd H27_ 1 rfl, (Holds.ro_at H27_ 2 rfl)⟩ ?_
   refine A_takeNoU 19 (ls' := #[true, true, true, true, true, true, true, true, true, true, true, true, true, true, true, true, true, true, true, true, false, false, false, false, false]) (j := 11) (dj := 26) rfl (by kernel_rfl) (by kernel_rfl) (by kernel_rfl) (by kernel_rfl) (fun _ _ _ h => h) rfl rfl rfl ⟨Holds.rd H27_ 0 rfl, Holds.slrd H27_ 1 rfl, (Holds.ro_at H27_ 2 rfl)⟩ ?_
   refine A_takeNoU 20 (ls' := #[true, true, true, true, true, true, true, true, true, true, true, true, true, true, true, true, true, true, true, true, true, false, false, false, false]) (j := 11) (dj := 26) rfl (by kernel_rfl) (by kernel_rfl) (by kernel_rfl) (by kernel_rfl) (fun _ _ _ h => h) rfl rfl rfl ⟨Holds.rd H27_ 0 rfl, Holds.slrd H27_ 1 rfl, (Holds.ro_at H27_ 2 rfl)⟩ ?_
   refine A_takeNoU 21 (ls' := #[true, true, true, true, true, true, true, true, true, true, true, true, true, true, true, true, true, true, true, true, true, true, false, false, false]) (j := 11) (dj := 26) rfl (by kernel_rfl) (by kernel_rfl) (by kernel_rfl) (by kernel_rfl) (fun _ _ _ h => h) rfl rfl rfl ⟨Holds.rd H27_ 0 rfl, Holds.slrd H27_ 1 rfl, (Holds.ro_at H27_ 2 rfl)⟩ ?_
   refine A_takeNoU 22 (ls' := #[true, true, true, true, true, true, true, true, true, true, true, true, true, true, true, true, true, true, true, true, true, true, true, false, false]) (j := 11) (dj := 26) rfl (by kernel_rfl) (by kernel_rfl) (by kernel_rfl) (by kernel_rfl) (fun _ _ _ h => h) rfl rfl rfl ⟨Holds.rd H27_ 0 rfl, Holds.slrd H27_ 1 rfl, (Holds.ro_at H27_ 2 rfl)⟩ ?_
   refine A_tkN 23 (j := 5) (dj := 20) (b := false) rfl (by kernel_rfl) rfl rfl (congrArg vB c29_f) (by decide) hq28_ ?_
   refine A_tk 24 (v := (vB false)) rfl (by kernel_rfl) (fun w hS => (x_pickF (congrArg vB c29_f) rfl)) hq28_ ?_
   refine A_done (by kernel_rfl) ?_
   refine (X_then (hK26_ _ _ ?_))
   clear hK26_
   refine C_condF rfl ?_
   refine C_skip (X_blkN (X_then (hK12_ _ _ ?_)))
   clear hK12_
   refine C_reg ?_
   refine sv (v := (vI .i64 ((k : Int) + 1))) (x_bin rfl rfl (ib_add (IntWalk.i64_in _ (by omega)))) ?_
   refine sv (v := (vI .i64 ((k : Int) + 1))) (x_move rfl) ?_
   refine wpList_nil (X_then ?_)
   have H61_ := Holds.resl H27_ 1 rfl ((by rw [vSieve_no hx15_ (vSinceP_lt c29_fp)] <;> simp [VR.cells, RV.cells, VR.rv]) : ((vSieve L (vSinceP L at_) k).map VR.rv).flatMap RV.cells = ((vSieve L (vSinceP L at_) (k + 1)).map VR.rv).flatMap RV.cells) ((by rw [vSieve_no hx15_ (vSinceP_lt c29_fp)] <;> simp [VR.cells, RV.cells, VR.rv]) : (List.length ((vSieve L (vSinceP L at_) k).map VR.rv)) = (List.length ((vSieve L (vSinceP L at_) (k + 1)).map VR.rv)))
   have H62_ : Holds w22_.drew (sl 31 2 v1 (List.length ((vSieve L (vSinceP L at_) (k + 1)).map VR.rv)) (((vSieve L (vSinceP L at_) (k + 1)).map VR.rv).flatMap RV.cells) :: ro R :: F) := (Holds.pkF H61_ [1, 1] 1 :)
   exact ⟨⟨k + 1, v1⟩, ⟨_, congrArg (fun e => mkA 47 e []) (ch (ch (ch (ch (ch (ch (ch rfl rfl) rfl) rfl) rfl) rfl) rfl) (congrArg (vI .i64) ((by first | rfl | omega | (simp; done) | (simp; omega)) : (k : Int) + 1 = ((k + 1 : Nat) : Int)))), H62_, (Same.trans S25_ (Same.drew _)), (by first | assumption | omega | exact rfl)⟩, by first | omega | (dsimp only; omega) | (simp; omega)⟩
 ·have c11_fp : ¬ ((k : Int) < ((List.length L) : Int)) := of_decide_eq_false c11_f
  refine C_exit (X_thenX (X_thenX (X_blkHit ?_)))
  refine (X_then (hK3_ _ _ ?_))
  clear hK3_
  refine C_seq (fun K63_ hK63_ => C_reg ?_)
  refine sv (v := v1) (x_move rfl) ?_
  refine sv (v := v1) (x_assign rfl) ?_
  refine wpList_nil (X_then (hK63_ _ _ ?_))
  clear hK63_
  refine C_ret ?_
  refine R_any (v := v1) (run_results1 rfl rfl) ?_
  have H64_ := Holds.resl H7_ 0 rfl ((by rw [show k = L.length by omega]) : ((vSieve L (vSinceP L at_) k).map VR.rv).flatMap RV.cells = ((vSieve L (vSinceP L at_) L.length).map VR.rv).flatMap RV.cells) ((by rw [show k = L.length by omega]) : (List.length ((vSieve L (vSinceP L at_) k).map VR.rv)) = (List.length ((vSieve L (vSinceP L at_) L.length).map VR.rv)))
  have H65_ : Holds w6_ (ro R :: sl 31 2 v1 (List.length ((vSieve L (vSinceP L at_) L.length).map VR.rv)) (((vSieve L (vSinceP L at_) L.length).map VR.rv).flatMap RV.cells) :: F) := (Holds.pkF H64_ [1, 0] 0 :)
  exact ⟨_, _, rfl, ⟨v1, rfl, rfl⟩, S8_, H65_⟩
end Go.Proofs.Ytiblemgccgbhoaa
set_option linter.unusedVariables false
set_option linter.unusedSimpArgs false
namespace Go.Proofs.Ytiblemgccgbhoaa
open Go Go.RowKit Gw
open Go.Value renaming int → vI, bool → vB, slice → vS, pointer → vP, agg → vA, tuple → vT

def gLast (G : List GM) : GM := G.getLast?.getD ⟨0, 0, 0, []⟩
def gAdd (g : GM) (v : VR) : GM := ⟨v.ver, g.cm, g.cs, g.l ++ [v.rv]⟩
def dStep (s : List GM × Bool) (v : VR) : List GM × Bool :=
  let G := if s.2 then s.1 else s.1 ++ [⟨0, v.created_Main, v.created_Sub, []⟩]
  (G.dropLast ++ [gAdd (gLast G) v], !v.gone)
def dGo (l : List VR) : List GM × Bool := l.foldl dStep ([], false)
theorem dGo_snoc (l : List VR) (v : VR) : dGo (l ++ [v]) = dStep (dGo l) v := by simp [dGo]
def dGens (l : List VR) : List GM := (dGo l).1 ++ (if 0 < l.length ∧ (vLast l).gone = true then [⟨0, 0, 0, []⟩] else [])
theorem gset {A : List GN} {x y : GN} {i : Nat} {v : Value} (h : (GN.cells x).set i v = GN.cells y) : ((A ++ [x]).flatMap GN.cells).set (A.length * 4 + i) v = (A ++ [y]).flatMap GN.cells := by
  rw [List.flatMap_append, List.flatMap_append, List.set_append_right _ _ (by rw [fm_len GN.len]; omega), fm_len GN.len, Nat.add_sub_cancel_left]
  simp only [List.flatMap_cons, List.flatMap_nil, List.append_nil]
  rw [h]
theorem gat (A : List GN) (x : GN) : (A ++ [x])[A.length]? = some x := by simp
theorem Tlk_some {T : List GN} {lv : Value} {ll : List RV} (h : Tlk T lv ll) (h0 : T ≠ []) : ∃ a b c, T = [⟨a, b, c, lv, ll⟩] := by
  rcases h with ⟨rfl, _, _⟩ | h
  · exact absurd rfl h0
  · exact h
theorem GOk_app {R R' : HP} {N T : List GN} {lv : Value} {ll : List RV} (hN : ∀ x ∈ N, GOk R x) (s : Sub R R') (hT : Tlk T lv ll) (h : RS R' 2 lv ll.length (ll.flatMap RV.cells)) : ∀ x ∈ N ++ T, GOk R' x := by
  intro x hx
  rcases List.mem_append.1 hx with hx | hx
  · exact (hN x hx).mono s
  · rcases hT with ⟨rfl, _, _⟩ | ⟨a, b, c, rfl⟩
    · cases hx
    · rcases List.mem_singleton.1 hx with rfl
      exact h
theorem dGo_old {N : List GN} {G : List GM × Bool} {a b c : Int} {lv lv' : Value} {ll : List RV} {x : VR} (h : ((N ++ [(⟨a, b, c, lv, ll⟩ : GN)]).map GN.m, true) = G) :
    ((N ++ [(⟨x.ver, b, c, lv', ll ++ [x.rv]⟩ : GN)]).map GN.m, !x.gone) = dStep G x := by
  rw [← h]; simp [dStep, gLast, gAdd, GN.m]
theorem dGo_new {N : List GN} {G : List GM × Bool} {lv' : Value} {x : VR} (h : (N.map GN.m, false) = G) :
    ((N ++ [(⟨x.ver, x.created_Main, x.created_Sub, lv', [] ++ [x.rv]⟩ : GN)]).map GN.m, !x.gone) = dStep G x := by
  rw [← h]; simp [dStep, gLast, gAdd, GN.m]


theorem dGens_no {L : List VR} {N : List GN} {bg : Bool} (hm : (N.map GN.m, bg) = dGo L) (h : ¬ (0 < L.length ∧ (vLast L).gone = true)) : N.map GN.m = dGens L := by
  unfold dGens
  rw [if_neg h, ← hm, List.append_nil]
theorem dGens_yes {L : List VR} {N : List GN} {bg : Bool} (hm : (N.map GN.m, bg) = dGo L) (h : 0 < L.length ∧ (vLast L).gone = true) : (N ++ [(⟨0, 0, 0, .slice none 0 0, []⟩ : GN)]).map GN.m = dGens L := by
  unfold dGens
  rw [if_pos h, ← hm]; simp [GN.m]
theorem GOk_nil {R : HP} {N : List GN} {a b c : Int} (h : ∀ x ∈ N, GOk R x) : ∀ x ∈ N ++ [(⟨a, b, c, .slice none 0 0, []⟩ : GN)], GOk R x := fun x hx => by
  rcases List.mem_append.1 hx with hx | hx
  · exact h x hx
  · rcases List.mem_singleton.1 hx with rfl
    exact RS.nil _ _

set_option maxHeartbeats 1600000 in
theorem kDump (R : HP) (v : Value) (L : List VR) (hL : RS R 6 v (List.length L) (L.flatMap VR.cells)) (hl : L.length ≤ 10000) :
    TriG Try.prog 9 #[v] R [] (fun R' v__ post__ => ∃ (gv : Value), v__ = (vA #[(vI .i64 ((vLast L).rev_Main)), (vI .i64 ((vLast L).rev_Sub)), gv]) ∧ post__ = [] ∧ (GS R' gv (dGens L))) := by
 refine TriG.into (n := 69) (al := [v]) Try.func9 rfl Try.ntmps9 rfl rfl fun w F H => ?_
 refine C_seq (fun K1_ hK1_ => C_reg ?_)
 refine S_list (T_alloc z34 H ?_)
 intro b2_ w3_ S5_ H4_
 have S6_ := Same.trans (Same.refl w) S5_
 refine wpList_nil (X_then (hK1_ _ _ ?_))
 clear hK1_
 refine C_seq (fun K7_ hK7_ => C_reg ?_)
 refine sv (v := v) (x_move rfl) ?_
 have H9_ := ((Holds.bring H4_ 1 rfl) :)
 replace H9_ : Holds w3_ (ro R :: cl b2_ 34 [(vI .i64 0), (vI .i64 0), (vS none 0 0)] :: F) := H9_
 refine S_list (T_call (al := [v]) (pre := []) rfl rfl cb17 (kModified R v L (RS.set_ hL rfl (by first | rfl | (simp [RV.cells, VR.rv, GN.cells]; done) | (simp; omega))) (by first | assumption | omega)) H9_ ?_)
 rintro v8_ p13_ w10_ ⟨rfl, rfl⟩ S12_ H11_
 have S14_ := Same.trans S6_ S12_
 refine sv (v := (vA #[(vI .i64 ((vLast L).rev_Main)), (vI .i64 ((vLast L).rev_Sub)), (vS none 0 0)])) (by kernel_rfl) ?_
 refine S_list (T_alloc z34 H11_ ?_)
 intro b15_ w16_ S18_ H17_
 have S19_ := Same.trans S14_ S18_
 refine S_list0 (T_storeN (vs := [(vI .i64 ((vLast L).rev_Main)), (vI .i64 ((vLast L).rev_Sub)), (vS none 0 0)]) rfl rfl z34 rfl (by simp [Value.oneCell']) H17_ 0 rfl (Nat.le_of_ble_eq_true (by rfl)) ?_)
 intro w20_ S22_ H21_
 replace H21_ : Holds w20_ (cl b15_ 34 [(vI .i64 ((vLast L).rev_Main)), (vI .i64 ((vLast L).rev_Sub)), (vS none 0 0)] :: ro R :: cl b2_ 34 [(vI .i64 0), (vI .i64 0), (vS none 0 0)] :: F) := H21_
 have S23_ := Same.trans S19_ S22_
 refine wpList_nil (X_then (hK7_ _ _ ?_))
 clear hK7_
 refine C_seq (fun K24_ hK24_ => C_reg ?_)
 refine sv (v := (vB false)) (x_assign rfl) ?_
 refine wpList_nil (X_then (hK24_ _ _ ?_))
 clear hK24_
 refine C_seq (fun K25_ hK25_ => ?_)
 refine C_seq (fun K26_ hK26_ => C_reg ?_)
 refine sv (v := v) (x_move rfl) ?_
 refine sv (v := (vI .i64 ((List.length L) : Int))) (x_lenRS rfl hL Try.underlying23) ?_
 refine sv (v := (vI .i64 0)) (x_move rfl) ?_
 refine wpList_nil (X_then (hK26_ _ _ ?_))
 clear hK26_
 refine C_block ?_
 have H27_ : Holds w20_ (sl 68 4 (vS none 0 0) (List.length (([] : List GN) ++ ([] : List GN))) ((([] : List GN) ++ ([] : List GN)).flatMap GN.cells) :: cl b15_ 34 [(vI .i64 ((vLast L).rev_Main)), (vI .i64 ((vLast L).rev_Sub)), (vS none 0 0)] :: ro R :: cl b2_ 34 [(vI .i64 0), (vI .i64 0), (vS none 0 0)] :: F) := Holds.add_nil H21_ 68 4
 have H28_ : Holds w20_ (sl 31 2 (vS none 0 0) (List.length ([] : List RV)) (([] : List RV).flatMap RV.cells) :: sl 68 4 (vS none 0 0) (List.length (([] : List GN) ++ ([] : List GN))) ((([] : List GN) ++ ([] : List GN)).flatMap GN.cells) :: cl b15_ 34 [(vI .i64 ((vLast L).rev_Main)), (vI .i64 ((vLast L).rev_Sub)), (vS none 0 0)] :: ro R :: cl b2_ 34 [(vI .i64 0), (vI .i64 0), (vS none 0 0)] :: F) := Holds.add_nil H27_ 31 2
 have H29_ := Holds.recl H28_ 2 rfl ((lcons rfl (lcons rfl (lcons (rfl : (vS none 0 0) = ((vS none 0 0))) rfl))) : [(vI .i64 ((vLast L).rev_Main)), (vI .i64 ((vLast L).rev_Sub)), (vS none 0 0)] = [(vI .i64 ((vLast L).rev_Main)), (vI .i64 ((vLast L).rev_Sub)), ((vS none 0 0))])
 refine C_loop (γ := HP × Nat × (List GN) × (List GN) × Value × Value × (List RV) × Bool) (fun x__ a__ w1__ => match x__ with | ⟨R1, k, N0, T, gv, lv, ll, bg⟩ => ∃ h : Env, a__ = mkA 69 (upd (upd (upd (upd (upd (upd (upd h 0 v) 2 (vP (some ⟨b2_, 0, none⟩))) 3 (vP (some ⟨b15_, 0, none⟩))) 4 (vB bg)) 11 v) 12 (vI .i64 ((List.length L) : Int))) 13 (vI .i64 (k : Int))) [] ∧ Holds w1__ (sl 31 2 lv (List.length ll) (ll.flatMap RV.cells) :: sl 68 4 gv (List.length (N0 ++ T)) ((N0 ++ T).flatMap GN.cells) :: cl b15_ 34 [(vI .i64 ((vLast L).rev_Main)), (vI .i64 ((vLast L).rev_Sub)), gv] :: ro R1 :: cl b2_ 34 [(vI .i64 0), (vI .i64 0), (vS none 0 0)] :: F) ∧ Same w w1__ ∧ (Sub R R1) ∧ (k ≤ L.length) ∧ (((N0 ++ T).map GN.m, bg) = dGo (L.take k)) ∧ (∀ x ∈ N0, GOk R1 x) ∧ (Tlk T lv ll) ∧ (bg = true → T ≠ []) ∧ ((N0 ++ T).length ≤ k ∧ ll.length ≤ k)) (fun x__ => match x__ with | ⟨R1, k, N0, T, gv, lv, ll, bg⟩ => L.length - k) (⟨R, 0, ([] : List GN), ([] : List GN), (vS none 0 0), (vS none 0 0), ([] : List RV), false⟩) ⟨_, congrArg (fun e => mkA 69 e []) (ch (ch (ch (ch (ch (ch (ch rfl rfl) rfl) rfl) rfl) rfl) rfl) (congrArg (vI .i64) ((by first | rfl | omega | (simp; done) | (simp; omega)) : 0 = (0 : Int)))), H29_, S23_, (Sub.rfl' _), (by first | assumption | omega | exact rfl), (rfl), (fun x hx => by cases hx), (Or.inl ⟨rfl, rfl, rfl⟩), (fun h => by cases h), (⟨by simp, by simp⟩)⟩ ?_
 rintro ⟨R1, k, N0, T, gv, lv, ll, bg⟩ _ w30_ ⟨h, rfl, H31_, S32_, hsR1, hk, hm, hN, hT, hb, hc⟩
 refine C_seq (fun K33_ hK33_ => C_reg ?_)
 refine sv (v := (vB (decide ((k : Int) < ((List.length L) : Int))))) (x_bin rfl rfl rfl) ?_
 refine wpList_nil (X_then (hK33_ _ _ ?_))
 clear hK33_
 refine C_seq (fun K34_ hK34_ => ?_)
 refine C_cond (b := decide ((k : Int) < ((List.length L) : Int))) rfl (fun c35_t => ?_) (fun c35_f => ?_)
 ·have c35_tp : (k : Int) < ((List.length L) : Int) := of_decide_eq_true c35_t
  refine C_skip (X_then (hK34_ _ _ ?_))
  clear hK34_
  refine C_seq (fun K36_ hK36_ => ?_)
  refine C_block ?_
  refine C_seq (fun K37_ hK37_ => C_reg ?_)
  obtain ⟨x38_, hx39_, hm40_⟩ := elem_at L k (by omega)
  refine sv (v := (vP (some ⟨(sb v), so v + (k * 6 + 0), none⟩))) (x_idxRS (v := v) rfl (RS.mono hL hsR1) rfl Try.underlying23 z66 (by omega) (by omega) (by omega : _ = k) rfl) ?_
  refine sv (v := (vA #[(vI .i64 x38_.rev_Main), (vI .i64 x38_.rev_Sub), (vI .i64 x38_.created_Main), (vI .i64 x38_.created_Sub), (vI .i64 x38_.ver), (vB x38_.gone)])) (x_loadN (vs := [(vI .i64 x38_.rev_Main), (vI .i64 x38_.rev_Sub), (vI .i64 x38_.created_Main), (vI .i64 x38_.created_Sub), (vI .i64 x38_.ver), (vB x38_.gone)]) rfl Try.underlying66 rfl z66 rfl (RC.cells (RS.rc (RS.mono hL hsR1)) (Holds.ro_at H31_ 3 rfl) (k * 6 + 0) (fm_cells VR.len hx39_ (i := 0) rfl))) ?_
  refine S_list (T_alloc z66 H31_ ?_)
  intro b41_ w42_ S44_ H43_
  have S45_ := Same.trans S32_ S44_
  refine S_list0 (T_storeN (vs := [(vI .i64 x38_.rev_Main), (vI .i64 x38_.rev_Sub), (vI .i64 x38_.created_Main), (vI .i64 x38_.created_Sub), (vI .i64 x38_.ver), (vB x38_.gone)]) rfl rfl z66 rfl (by simp [Value.oneCell']) H43_ 0 rfl (Nat.le_of_ble_eq_true (by rfl)) ?_)
  intro w46_ S48_ H47_
  have S49_ := Same.trans S45_ S48_
  refine wpList_nil (X_then (hK37_ _ _ ?_))
  clear hK37_
  refine C_seq (fun K50_ hK50_ => ?_)
  refine C_seq (fun K51_ hK51_ => C_reg ?_)
  refine sv (v := (vB bg)) (x_move rfl) ?_
  refine sv (v := (vB (!bg))) (x_not rfl) ?_
  refine wpList_nil (X_then (hK51_ _ _ ?_))
  clear hK51_
  refine C_cond (b := !bg) rfl (fun c52_t => ?_) (fun c52_f => ?_)
  ·skip
   refine C_reg ?_
   have H53_ := ((Holds.bring (Holds.bring H47_ 1 rfl) 4 rfl) :)
   replace H53_ : Holds w46_ (ro R1 :: sl 31 2 lv (List.length ll) (ll.flatMap RV.cells) :: cl b41_ 66 [(vI .i64 x38_.rev_Main), (vI .i64 x38_.rev_Sub), (vI .i64 x38_.created_Main), (vI .i64 x38_.created_Sub), (vI .i64 x38_.ver), (vB x38_.gone)] :: sl 68 4 gv (List.length (N0 ++ T)) ((N0 ++ T).flatMap GN.cells) :: cl b15_ 34 [(vI .i64 ((vLast L).rev_Main)), (vI .i64 ((vLast L).rev_Sub)), gv] :: cl b2_ 34 [(vI .i64 0), (vI .i64 0), (vS none 0 0)] :: F) := H53_
   obtain ⟨R54_, hs55_, ⟨R56_, ha57_, hs58_⟩, H59_⟩ := Holds.gift H53_
   have hz_R_R54_ := Sub.trans' hsR1 hs55_
   have hr60_ : RS R54_ 2 lv (List.length ll) (ll.flatMap RV.cells) := (sl_RS ha57_ (Sub.rfl' _)).mono hs58_
   have H61_ : Holds w46_ (sl 31 2 (vS none 0 0) (List.length ([] : List RV)) (([] : List RV).flatMap RV.cells) :: ro R54_ :: cl b41_ 66 [(vI .i64 x38_.rev_Main), (vI .i64 x38_.rev_Sub), (vI .i64 x38_.created_Main), (vI .i64 x38_.created_Sub), (vI .i64 x38_.ver), (vB x38_.gone)] :: sl 68 4 gv (List.length (N0 ++ T)) ((N0 ++ T).flatMap GN.cells) :: cl b15_ 34 [(vI .i64 ((vLast L).rev_Main)), (vI .i64 ((vLast L).rev_Sub)), gv] :: cl b2_ 34 [(vI .i64 0), (vI .i64 0), (vS none 0 0)] :: F) := Holds.add_nil H59_ 31 2
   refine sv (v := (vP (some ⟨b15_, 2, none⟩))) (by kernel_rfl) ?_
   refine sv (v := gv) (x_load1 rfl Try.underlying32 rfl ((Holds.rd H61_ 4 rfl) 2 gv rfl)) ?_
   refine sv (v := (vP (some ⟨b41_, 2, none⟩))) (by kernel_rfl) ?_
   refine sv (v := (vA #[(vI .i64 x38_.created_Main), (vI .i64 x38_.created_Sub)])) (x_loadN (vs := [(vI .i64 x38_.created_Main), (vI .i64 x38_.created_Sub)]) rfl Try.underlying31 rfl z31 rfl (Rd.cells (Holds.rd H61_ 2 rfl) 2 rfl)) ?_
   refine sv (v := (vA #[(vI .i64 0), (vI .i64 x38_.created_Main), (vI .i64 x38_.created_Sub), (vS none 0 0)])) (by kernel_rfl) ?_
   refine S_list (T_new (obj := .cells #[(vI .i64 0), (vI .i64 x38_.created_Main), (vI .i64 x38_.created_Sub), (vS none 0 0)] 68) (f := fun b__ => .slice (some ⟨b__, 0, none⟩) 1 1) (A := fun b__ => cl b__ 68 [(vI .i64 0), (vI .i64 x38_.created_Main), (vI .i64 x38_.created_Sub), (vS none 0 0)]) (by kernel_rfl) (fun l h => h.alloc _ _) H61_ ?_)
   intro b62_ w63_ S65_ H64_
   have S66_ := Same.trans S49_ S65_
   refine S_list (T_append rfl rfl Try.underlying32 z68 rfl (by decide) H64_ 4 rfl (Holds.cl_src H64_ 0 rfl Try.underlying32 (by simp [Value.oneCell']) rfl) (by first | omega | (simp only [List.length_append, List.length_cons, List.length_nil]; omega)) ?_)
   intro v67_ w68_ S70_ H69_
   replace H69_ : Holds w68_ (cl b62_ 68 [(vI .i64 0), (vI .i64 x38_.created_Main), (vI .i64 x38_.created_Sub), (vS none 0 0)] :: sl 31 2 (vS none 0 0) (List.length ([] : List RV)) (([] : List RV).flatMap RV.cells) :: ro R54_ :: cl b41_ 66 [(vI .i64 x38_.rev_Main), (vI .i64 x38_.rev_Sub), (vI .i64 x38_.created_Main), (vI .i64 x38_.created_Sub), (vI .i64 x38_.ver), (vB x38_.gone)] :: sl 68 4 v67_ ((List.length (N0 ++ T)) + 1) (((N0 ++ T).flatMap GN.cells) ++ [(vI .i64 0), (vI .i64 x38_.created_Main), (vI .i64 x38_.created_Sub), (vS none 0 0)]) :: cl b15_ 34 [(vI .i64 ((vLast L).rev_Main)), (vI .i64 ((vLast L).rev_Sub)), gv] :: cl b2_ 34 [(vI .i64 0), (vI .i64 0), (vS none 0 0)] :: F) := H69_
   have S71_ := Same.trans S66_ S70_
   refine sv (v := (vP (some ⟨b15_, 2, none⟩))) (by kernel_rfl) ?_
   refine S_list0 (T_store1 (v := v67_) rfl rfl z32 (Holds.sl_one H69_ 4 rfl) H69_ 5 rfl (Nat.le_of_ble_eq_true (by rfl)) ?_)
   intro w72_ S74_ H73_
   have S75_ := Same.trans S71_ S74_
   refine wpList_nil (X_then (hK50_ _ _ ?_))
   clear hK50_
   refine C_seq (fun K76_ hK76_ => C_reg ?_)
   have hbg_ : bg = false := by simpa using c52_t
   have H77_ := Holds.resl H73_ 4 rfl (by simp [GN.cells] : ((N0 ++ T).flatMap GN.cells) ++ [(vI .i64 0), (vI .i64 x38_.created_Main), (vI .i64 x38_.created_Sub), (vS none 0 0)] = ((N0 ++ T) ++ [(⟨0, x38_.created_Main, x38_.created_Sub, (vS none 0 0), ([] : List RV)⟩ : GN)]).flatMap GN.cells) (by simp : (List.length (N0 ++ T)) + 1 = (List.length (N0 ++ T) + 1))
   have hc_ := hc
   simp only [List.length_append, List.length_cons, List.length_nil] at hc_
   have hm_ := hm
   rw [hbg_] at hm_
   refine sv (v := (vP (some ⟨b15_, 2, none⟩))) (by kernel_rfl) ?_
   refine sv (v := v67_) (x_load1 rfl Try.underlying32 rfl ((Holds.rd H77_ 5 rfl) 2 v67_ rfl)) ?_
   refine sv (v := (vP (some ⟨b15_, 2, none⟩))) (by kernel_rfl) ?_
   refine sv (v := v67_) (x_load1 rfl Try.underlying32 rfl ((Holds.rd H77_ 5 rfl) 2 v67_ rfl)) ?_
   refine sv (v := (vI .i64 ((List.length (N0 ++ T) + 1) : Int))) (x_lenSl rfl H77_ 4 rfl Try.underlying32) ?_
   refine sv (v := (vI .i64 (((List.length (N0 ++ T) + 1) : Int) - 1))) (x_bin rfl rfl (ib_sub (IntWalk.i64_in _ (by omega)))) ?_
   have hr78_ := Holds.sl_RSw H77_ 4 rfl
   refine sv (v := (vP (some ⟨(sb v67_), so v67_ + ((List.length (N0 ++ T)) * 4 + 0), none⟩))) (x_idxSlR (v := v67_) rfl hr78_ rfl Try.underlying32 z68 (by omega) (by omega) (by omega : _ = List.length (N0 ++ T)) rfl) ?_
   refine sv (v := (vP (some ⟨(sb v67_), so v67_ + ((List.length (N0 ++ T)) * 4 + 0), none⟩))) (x_assign rfl) ?_
   refine wpList_nil (X_then (hK76_ _ _ ?_))
   clear hK76_
   refine C_seq (fun K79_ hK79_ => C_reg ?_)
   refine sv (v := (vP (some ⟨(sb v67_), so v67_ + ((List.length (N0 ++ T)) * 4 + 0), none⟩))) (x_move rfl) ?_
   refine sv (v := (vP (some ⟨b41_, 4, none⟩))) (by kernel_rfl) ?_
   refine sv (v := (vI .i64 x38_.ver)) (x_load1 rfl Try.underlying2 rfl ((Holds.rd H77_ 3 rfl) 4 (vI .i64 x38_.ver) rfl)) ?_
   refine sv (v := (vP (some ⟨(sb v67_), so v67_ + ((List.length (N0 ++ T)) * 4 + 0), none⟩))) (by kernel_rfl) ?_
   refine sv (v := (vP (some ⟨(sb v67_), so v67_ + ((List.length (N0 ++ T)) * 4 + 0), none⟩))) (by kernel_rfl) ?_
   refine S_list0 (T_storeSl (v := v67_) (u := (vI .i64 x38_.ver)) rfl rfl z2 rfl H77_ 4 rfl (by first | omega | (rw [fm_len GN.len]; simp only [List.length_append, List.length_cons, List.length_nil]; omega)) rfl rfl ?_)
   intro w80_ S82_ H81_
   have S83_ := Same.trans S75_ S82_
   have H84_ := Holds.resl H81_ 4 rfl (gset rfl : List.set (((N0 ++ T) ++ [(⟨0, x38_.created_Main, x38_.created_Sub, (vS none 0 0), ([] : List RV)⟩ : GN)]).flatMap GN.cells) ((List.length (N0 ++ T)) * 4 + 0) (vI .i64 x38_.ver) = ((N0 ++ T) ++ [(⟨x38_.ver, x38_.created_Main, x38_.created_Sub, (vS none 0 0), ([] : List RV)⟩ : GN)]).flatMap GN.cells) (rfl : (List.length (N0 ++ T) + 1) = (List.length (N0 ++ T) + 1))
   refine wpList_nil (X_then (hK79_ _ _ ?_))
   clear hK79_
   refine C_seq (fun K85_ hK85_ => ?_)
   refine A_start (S := fun w => Rd b41_ [(vI .i64 x38_.rev_Main), (vI .i64 x38_.rev_Sub), (vI .i64 x38_.created_Main), (vI .i64 x38_.created_Sub), (vI .i64 x38_.ver), (vB x38_.gone)] w ∧ Sub R54_ (hp w)) (N := 12) foll rfl rfl ?_
   have H86_ := Holds.drew_ H84_
   have hq87_ := And.intro (Holds.rd H86_ 3 rfl) ((Holds.ro_at H86_ 2 rfl))
   refine A_tk 0 (v := (vP (some ⟨(sb v67_), so v67_ + ((List.length (N0 ++ T)) * 4 + 0), none⟩))) rfl (by kernel_rfl) (fun w hS => x_move rfl) hq87_ ?_
   refine A_tk 1 (v := (vP (some ⟨(sb v67_), so v67_ + ((List.length (N0 ++ T)) * 4 + 0), none⟩))) rfl (by kernel_rfl) (fun w hS => x_move rfl) hq87_ ?_
   refine A_tk 2 (v := (vP (some ⟨(sb v67_), so v67_ + ((List.length (N0 ++ T)) * 4 + 0), none⟩))) rfl (by kernel_rfl) (fun w hS => by kernel_rfl) hq87_ ?_
   refine A_tk 3 (v := (vP (some ⟨(sb v67_), so v67_ + ((List.length (N0 ++ T)) * 4 + 3), none⟩))) rfl (by kernel_rfl) (fun w hS => by kernel_rfl) hq87_ ?_
   refine A_tk 5 (v := (vP (some ⟨b41_, 0, none⟩))) rfl (by kernel_rfl) (fun w hS => by kernel_rfl) hq87_ ?_
   refine A_tk 6 (v := (vA #[(vI .i64 x38_.rev_Main), (vI .i64 x38_.rev_Sub)])) rfl (by kernel_rfl) (fun w hS => x_loadN (vs := [(vI .i64 x38_.rev_Main), (vI .i64 x38_.rev_Sub)]) rfl Try.underlying31 rfl z31 rfl (Rd.cells hS.1 0 rfl)) hq87_ ?_
   refine A_ready (i := 4) (rs := [7]) (by kernel_rfl) ?_
   refine AllR.cons ?_ ?_
   ·skip
    refine A_op (ls' := #[true, true, true, true, true, true, true, false, false, false, false, false]) rfl (by kernel_rfl) (T_val (v := ((vS none 0 0))) (x_load1 rfl Try.underlying41 rfl ((Holds.slrd H86_ 4 rfl) _ _ (fm_cell GN.len (gat _ _) (i := 3) rfl))) ?_)
    refine ⟨⟨Holds.rd H86_ 3 rfl, (Holds.ro_at H86_ 2 rfl)⟩, ?_⟩
    refine A_ready (i := 7) (rs := []) (by kernel_rfl) ?_
    refine AllR.cons ?_ AllR.nil
    refine A_op (ls' := #[true, true, true, true, true, true, true, true, false, false, false, false]) rfl (by kernel_rfl) (T_new (obj := .cells #[(vI .i64 x38_.rev_Main), (vI .i64 x38_.rev_Sub)] 31) (f := fun b__ => .slice (some ⟨b__, 0, none⟩) 1 1) (A := fun b__ => cl b__ 31 [(vI .i64 x38_.rev_Main), (vI .i64 x38_.rev_Sub)]) (by kernel_rfl) (fun l h => h.alloc _ _) H86_ ?_)
    intro b88_ w89_ S91_ H90_
    have S92_ := Same.trans (Same.trans S83_ (Same.drew _)) S91_
    refine ⟨⟨Holds.rd H90_ 4 rfl, (Holds.ro_at H90_ 3 rfl)⟩, ?_⟩
    refine A_ready (i := 8) (rs := []) (by kernel_rfl) ?_
    refine AllR.cons ?_ AllR.nil
    refine A_op (ls' := #[true, true, true, true, true, true, true, true, true, false, false, false]) rfl (by kernel_rfl) (T_append rfl rfl Try.underlying41 z31 rfl (by decide) H90_ 2 rfl (Holds.cl_src H90_ 0 rfl Try.underlying41 (by simp [Value.oneCell']) rfl) (by first | omega | (simp only [List.length_append, List.length_cons, List.length_nil]; omega)) ?_)
    intro v93_ w94_ S96_ H95_
    replace H95_ : Holds w94_ (cl b88_ 31 [(vI .i64 x38_.rev_Main), (vI .i64 x38_.rev_Sub)] :: cl b62_ 68 [(vI .i64 0), (vI .i64 x38_.created_Main), (vI .i64 x38_.created_Sub), (vS none 0 0)] :: sl 31 2 v93_ ((List.length ([] : List RV)) + 1) ((([] : List RV).flatMap RV.cells) ++ [(vI .i64 x38_.rev_Main), (vI .i64 x38_.rev_Sub)]) :: ro R54_ :: cl b41_ 66 [(vI .i64 x38_.rev_Main), (vI .i64 x38_.rev_Sub), (vI .i64 x38_.created_Main), (vI .i64 x38_.created_Sub), (vI .i64 x38_.ver), (vB x38_.gone)] :: sl 68 4 v67_ (List.length (N0 ++ T) + 1) (((N0 ++ T) ++ [(⟨x38_.ver, x38_.created_Main, x38_.created_Sub, (vS none 0 0), ([] : List RV)⟩ : GN)]).flatMap GN.cells) :: cl b15_ 34 [(vI .i64 ((vLast L).rev_Main)), (vI .i64 ((vLast L).rev_Sub)), v67_] :: cl b2_ 34 [(vI .i64 0), (vI .i64 0), (vS none 0 0)] :: F) := H95_
    have S97_ := Same.trans S92_ S96_
    refine ⟨⟨Holds.rd H95_ 4 rfl, (Holds.ro_at H95_ 3 rfl)⟩, ?_⟩
    have hq98_ := And.intro (Holds.rd H95_ 4 rfl) ((Holds.ro_at H95_ 3 rfl))
    refine A_tk 9 (v := (vP (some ⟨(sb v67_), so v67_ + ((List.length (N0 ++ T)) * 4 + 0), none⟩))) rfl (by kernel_rfl) (fun w hS => by kernel_rfl) hq98_ ?_
    refine A_tk 10 (v := (vP (some ⟨(sb v67_), so v67_ + ((List.length (N0 ++ T)) * 4 + 3), none⟩))) rfl (by kernel_rfl) (fun w hS => by kernel_rfl) hq98_ ?_
    refine A_ready (i := 11) (rs := []) (by kernel_rfl) ?_
    refine AllR.cons ?_ AllR.nil
    refine A_op0 (ls' := #[true, true, true, true, true, true, true, true, true, true, true, true]) rfl (by kernel_rfl) (T_storeSl (v := v67_) (u := v93_) rfl rfl z41 (Holds.sl_one H95_ 2 rfl) H95_ 5 rfl (by first | omega | (rw [fm_len GN.len]; simp only [List.length_append, List.length_cons, List.length_nil]; omega)) rfl rfl ?_)
    intro w99_ S101_ H100_
    have S102_ := Same.trans S97_ S101_
    have H103_ := Holds.resl H100_ 5 rfl (gset rfl : List.set (((N0 ++ T) ++ [(⟨x38_.ver, x38_.created_Main, x38_.created_Sub, (vS none 0 0), ([] : List RV)⟩ : GN)]).flatMap GN.cells) ((List.length (N0 ++ T)) * 4 + 3) v93_ = ((N0 ++ T) ++ [(⟨x38_.ver, x38_.created_Main, x38_.created_Sub, v93_, (([] : List RV) ++ [x38_.rv])⟩ : GN)]).flatMap GN.cells) (rfl : (List.length (N0 ++ T) + 1) = (List.length (N0 ++ T) + 1))
    refine ⟨⟨Holds.rd H103_ 4 rfl, (Holds.ro_at H103_ 3 rfl)⟩, ?_⟩
    refine A_done (by kernel_rfl) ?_
    refine (X_then (hK85_ _ _ ?_))
    clear hK85_
    refine C_reg ?_
    refine sv (v := (vP (some ⟨b41_, 5, none⟩))) (by kernel_rfl) ?_
    refine sv (v := (vB x38_.gone)) (x_load1 rfl Try.underlying4 rfl ((Holds.rd H103_ 4 rfl) 5 (vB x38_.gone) rfl)) ?_
    refine sv (v := (vB (!x38_.gone))) (x_not rfl) ?_
    refine sv (v := (vB (!x38_.gone))) (x_assign rfl) ?_
    refine wpList_nil (X_blkN (X_then (hK36_ _ _ ?_)))
    clear hK36_
    refine C_reg ?_
    refine sv (v := (vI .i64 ((k : Int) + 1))) (x_bin rfl rfl (ib_add (IntWalk.i64_in _ (by omega)))) ?_
    refine sv (v := (vI .i64 ((k : Int) + 1))) (x_move rfl) ?_
    refine wpList_nil (X_then ?_)
    have H104_ := Holds.resl H103_ 2 rfl ((by first | rfl | (simp [RV.cells, VR.rv, GN.cells]; done) | (simp; omega)) : (([] : List RV).flatMap RV.cells) ++ [(vI .i64 x38_.rev_Main), (vI .i64 x38_.rev_Sub)] = (([] : List RV) ++ [x38_.rv]).flatMap RV.cells) ((by first | rfl | (simp [RV.cells, VR.rv, GN.cells]; done) | (simp; omega)) : (List.length ([] : List RV)) + 1 = (List.length (([] : List RV) ++ [x38_.rv])))
    have H105_ := Holds.resl H104_ 5 rfl ((by first | rfl | (simp [RV.cells, VR.rv, GN.cells]; done) | (simp; omega)) : ((N0 ++ T) ++ [(⟨x38_.ver, x38_.created_Main, x38_.created_Sub, v93_, (([] : List RV) ++ [x38_.rv])⟩ : GN)]).flatMap GN.cells = ((N0 ++ T) ++ [(⟨x38_.ver, x38_.created_Main, x38_.created_Sub, v93_, (([] : List RV) ++ [x38_.rv])⟩ : GN)]).flatMap GN.cells) ((by first | rfl | (simp [RV.cells, VR.rv, GN.cells]; done) | (simp; omega)) : (List.length (N0 ++ T) + 1) = (List.length ((N0 ++ T) ++ [(⟨x38_.ver, x38_.created_Main, x38_.created_Sub, v93_, (([] : List RV) ++ [x38_.rv])⟩ : GN)])))
    have H106_ : Holds w99_ (sl 31 2 v93_ (List.length (([] : List RV) ++ [x38_.rv])) ((([] : List RV) ++ [x38_.rv]).flatMap RV.cells) :: sl 68 4 v67_ (List.length ((N0 ++ T) ++ [(⟨x38_.ver, x38_.created_Main, x38_.created_Sub, v93_, (([] : List RV) ++ [x38_.rv])⟩ : GN)])) (((N0 ++ T) ++ [(⟨x38_.ver, x38_.created_Main, x38_.created_Sub, v93_, (([] : List RV) ++ [x38_.rv])⟩ : GN)]).flatMap GN.cells) :: cl b15_ 34 [(vI .i64 ((vLast L).rev_Main)), (vI .i64 ((vLast L).rev_Sub)), v67_] :: ro R54_ :: cl b2_ 34 [(vI .i64 0), (vI .i64 0), (vS none 0 0)] :: F) := (Holds.pkF H105_ [2, 4, 4, 2, 3] 3 :)
    exact ⟨⟨R54_, k + 1, (N0 ++ T), [(⟨x38_.ver, x38_.created_Main, x38_.created_Sub, v93_, (([] : List RV) ++ [x38_.rv])⟩ : GN)], v67_, v93_, (([] : List RV) ++ [x38_.rv]), !x38_.gone⟩, ⟨_, congrArg (fun e => mkA 69 e []) (ch (ch (ch (ch (ch (ch (ch rfl rfl) rfl) rfl) rfl) rfl) rfl) (congrArg (vI .i64) ((by first | rfl | omega | (simp; done) | (simp; omega)) : (k : Int) + 1 = ((k + 1 : Nat) : Int)))), H106_, S102_, (hz_R_R54_), (by first | assumption | omega | exact rfl), (by rw [rv_take_snoc hx39_, dGo_snoc]; exact dGo_new hm_), (GOk_app hN hs55_ hT hr60_), (Or.inr ⟨_, _, _, rfl⟩), (fun _ h => by cases h), (by simp_all; omega)⟩, by first | omega | (dsimp only; omega) | (simp; omega)⟩
   refine AllR.cons ?_ AllR.nil
   refine A_op (ls' := #[true, true, true, true, false, true, true, true, false, false, false, false]) rfl (by kernel_rfl) (T_new (obj := .cells #[(vI .i64 x38_.rev_Main), (vI .i64 x38_.rev_Sub)] 31) (f := fun b__ => .slice (some ⟨b__, 0, none⟩) 1 1) (A := fun b__ => cl b__ 31 [(vI .i64 x38_.rev_Main), (vI .i64 x38_.rev_Sub)]) (by kernel_rfl) (fun l h => h.alloc _ _) H86_ ?_)
   intro b107_ w108_ S110_ H109_
   have S111_ := Same.trans (Same.trans S83_ (Same.drew _)) S110_
   refine ⟨⟨Holds.rd H109_ 4 rfl, (Holds.ro_at H109_ 3 rfl)⟩, ?_⟩
   refine A_ready (i := 4) (rs := []) (by kernel_rfl) ?_
   refine AllR.cons ?_ AllR.nil
   refine A_op (ls' := #[true, true, true, true, true, true, true, true, false, false, false, false]) rfl (by kernel_rfl) (T_val (v := ((vS none 0 0))) (x_load1 rfl Try.underlying41 rfl ((Holds.slrd H109_ 5 rfl) _ _ (fm_cell GN.len (gat _ _) (i := 3) rfl))) ?_)
   refine ⟨⟨Holds.rd H109_ 4 rfl, (Holds.ro_at H109_ 3 rfl)⟩, ?_⟩
   refine A_ready (i := 8) (rs := []) (by kernel_rfl) ?_
   refine AllR.cons ?_ AllR.nil
   refine A_op (ls' := #[true, true, true, true, true, true, true, true, true, false, false, false]) rfl (by kernel_rfl) (T_append rfl rfl Try.underlying41 z31 rfl (by decide) H109_ 2 rfl (Holds.cl_src H109_ 0 rfl Try.underlying41 (by simp [Value.oneCell']) rfl) (by first | omega | (simp only [List.length_append, List.length_cons, List.length_nil]; omega)) ?_)
   intro v112_ w113_ S115_ H114_
   have S116_ := Same.trans S111_ S115_
   refine ⟨⟨Holds.rd H114_ 4 rfl, (Holds.ro_at H114_ 3 rfl)⟩, ?_⟩
   have hq117_ := And.intro (Holds.rd H114_ 4 rfl) ((Holds.ro_at H114_ 3 rfl))
   refine A_tk 9 (v := (vP (some ⟨(sb v67_), so v67_ + ((List.length (N0 ++ T)) * 4 + 0), none⟩))) rfl (by kernel_rfl) (fun w hS => by kernel_rfl) hq117_ ?_
   refine A_tk 10 (v := (vP (some ⟨(sb v67_), so v67_ + ((List.length (N0 ++ T)) * 4 + 3), none⟩))) rfl (by kernel_rfl) (fun w hS => by kernel_rfl) hq117_ ?_
   refine A_ready (i := 11) (rs := []) (by kernel_rfl) ?_
   refine AllR.cons ?_ AllR.nil
   refine A_op0 (ls' := #[true, true, true, true, true, true, true, true, true, true, true, true]) rfl (by kernel_rfl) (T_storeSl (v := v67_) (u := v112_) rfl rfl z41 (Holds.sl_one H114_ 2 rfl) H114_ 5 rfl (by first | omega | (rw [fm_len GN.len]; simp only [List.length_append, List.length_cons, List.length_nil]; omega)) rfl rfl ?_)
   intro w118_ S120_ H119_
   replace H119_ : Holds w118_ (cl b107_ 31 [(vI .i64 x38_.rev_Main), (vI .i64 x38_.rev_Sub)] :: cl b62_ 68 [(vI .i64 0), (vI .i64 x38_.created_Main), (vI .i64 x38_.created_Sub), (vS none 0 0)] :: sl 31 2 v112_ ((List.length ([] : List RV)) + 1) ((([] : List RV).flatMap RV.cells) ++ [(vI .i64 x38_.rev_Main), (vI .i64 x38_.rev_Sub)]) :: ro R54_ :: cl b41_ 66 [(vI .i64 x38_.rev_Main), (vI .i64 x38_.rev_Sub), (vI .i64 x38_.created_Main), (vI .i64 x38_.created_Sub), (vI .i64 x38_.ver), (vB x38_.gone)] :: sl 68 4 v67_ (List.length (N0 ++ T) + 1) (List.set (((N0 ++ T) ++ [(⟨x38_.ver, x38_.created_Main, x38_.created_Sub, (vS none 0 0), ([] : List RV)⟩ : GN)]).flatMap GN.cells) ((List.length (N0 ++ T)) * 4 + 3) v112_) :: cl b15_ 34 [(vI .i64 ((vLast L).rev_Main)), (vI .i64 ((vLast L).rev_Sub)), v67_] :: cl b2_ 34 [(vI .i64 0), (vI .i64 0), (vS none 0 0)] :: F) := H119_
   have S121_ := Same.trans S116_ S120_
   have H122_ := Holds.resl H119_ 5 rfl (gset rfl : List.set (((N0 ++ T) ++ [(⟨x38_.ver, x38_.created_Main, x38_.created_Sub, (vS none 0 0), ([] : List RV)⟩ : GN)]).flatMap GN.cells) ((List.length (N0 ++ T)) * 4 + 3) v112_ = ((N0 ++ T) ++ [(⟨x38_.ver, x38_.created_Main, x38_.created_Sub, v112_, (([] : List RV) ++ [x38_.rv])⟩ : GN)]).flatMap GN.cells) (rfl : (List.length (N0 ++ T) + 1) = (List.length (N0 ++ T) + 1))
   refine ⟨⟨Holds.rd H122_ 4 rfl, (Holds.ro_at H122_ 3 rfl)⟩, ?_⟩
   refine A_done (by kernel_rfl) ?_
   refine (X_then (hK85_ _ _ ?_))
   clear hK85_
   refine C_reg ?_
   refine sv (v := (vP (some ⟨b41_, 5, none⟩))) (by kernel_rfl) ?_
   refine sv (v := (vB x38_.gone)) (x_load1 rfl Try.underlying4 rfl ((Holds.rd H122_ 4 rfl) 5 (vB x38_.gone) rfl)) ?_
   refine sv (v := (vB (!x38_.gone))) (x_not rfl) ?_
   refine sv (v := (vB (!x38_.gone))) (x_assign rfl) ?_
   refine wpList_nil (X_blkN (X_then (hK36_ _ _ ?_)))
   clear hK36_
   refine C_reg ?_
   refine sv (v := (vI .i64 ((k : Int) + 1))) (x_bin rfl rfl (ib_add (IntWalk.i64_in _ (by omega)))) ?_
   refine sv (v := (vI .i64 ((k : Int) + 1))) (x_move rfl) ?_
   refine wpList_nil (X_then ?_)
   have H123_ := Holds.resl H122_ 2 rfl ((by first | rfl | (simp [RV.cells, VR.rv, GN.cells]; done) | (simp; omega)) : (([] : List RV).flatMap RV.cells) ++ [(vI .i64 x38_.rev_Main), (vI .i64 x38_.rev_Sub)] = (([] : List RV) ++ [x38_.rv]).flatMap RV.cells) ((by first | rfl | (simp [RV.cells, VR.rv, GN.cells]; done) | (simp; omega)) : (List.length ([] : List RV)) + 1 = (List.length (([] : List RV) ++ [x38_.rv])))
   have H124_ := Holds.resl H123_ 5 rfl ((by first | rfl | (simp [RV.cells, VR.rv, GN.cells]; done) | (simp; omega)) : ((N0 ++ T) ++ [(⟨x38_.ver, x38_.created_Main, x38_.created_Sub, v112_, (([] : List RV) ++ [x38_.rv])⟩ : GN)]).flatMap GN.cells = ((N0 ++ T) ++ [(⟨x38_.ver, x38_.created_Main, x38_.created_Sub, v112_, (([] : List RV) ++ [x38_.rv])⟩ : GN)]).flatMap GN.cells) ((by first | rfl | (simp [RV.cells, VR.rv, GN.cells]; done) | (simp; omega)) : (List.length (N0 ++ T) + 1) = (List.length ((N0 ++ T) ++ [(⟨x38_.ver, x38_.created_Main, x38_.created_Sub, v112_, (([] : List RV) ++ [x38_.rv])⟩ : GN)])))
   have H125_ : Holds w118_ (sl 31 2 v112_ (List.length (([] : List RV) ++ [x38_.rv])) ((([] : List RV) ++ [x38_.rv]).flatMap RV.cells) :: sl 68 4 v67_ (List.length ((N0 ++ T) ++ [(⟨x38_.ver, x38_.created_Main, x38_.created_Sub, v112_, (([] : List RV) ++ [x38_.rv])⟩ : GN)])) (((N0 ++ T) ++ [(⟨x38_.ver, x38_.created_Main, x38_.created_Sub, v112_, (([] : List RV) ++ [x38_.rv])⟩ : GN)]).flatMap GN.cells) :: cl b15_ 34 [(vI .i64 ((vLast L).rev_Main)), (vI .i64 ((vLast L).rev_Sub)), v67_] :: ro R54_ :: cl b2_ 34 [(vI .i64 0), (vI .i64 0), (vS none 0 0)] :: F) := (Holds.pkF H124_ [2, 4, 4, 2, 3] 3 :)
   exact ⟨⟨R54_, k + 1, (N0 ++ T), [(⟨x38_.ver, x38_.created_Main, x38_.created_Sub, v112_, (([] : List RV) ++ [x38_.rv])⟩ : GN)], v67_, v112_, (([] : List RV) ++ [x38_.rv]), !x38_.gone⟩, ⟨_, congrArg (fun e => mkA 69 e []) (ch (ch (ch (ch (ch (ch (ch rfl rfl) rfl) rfl) rfl) rfl) rfl) (congrArg (vI .i64) ((by first | rfl | omega | (simp; done) | (simp; omega)) : (k : Int) + 1 = ((k + 1 : Nat) : Int)))), H125_, S121_, (hz_R_R54_), (by first | assumption | omega | exact rfl), (by rw [rv_take_snoc hx39_, dGo_snoc]; exact dGo_new hm_), (GOk_app hN hs55_ hT hr60_), (Or.inr ⟨_, _, _, rfl⟩), (fun _ h => by cases h), (by simp_all; omega)⟩, by first | omega | (dsimp only; omega) | (simp; omega)⟩
  ·skip
   refine C_skip (X_then (hK50_ _ _ ?_))
   clear hK50_
   refine C_seq (fun K126_ hK126_ => C_reg ?_)
   have hbg_ : bg = true := by simpa using c52_f
   obtain ⟨ta, tb, tc, rfl⟩ := Tlk_some hT (hb (by simp_all))
   have H127_ := Holds.resl H47_ 2 rfl (rfl : (N0 ++ [(⟨ta, tb, tc, lv, ll⟩ : GN)]).flatMap GN.cells = (N0 ++ [(⟨ta, tb, tc, lv, ll⟩ : GN)]).flatMap GN.cells) (by simp : (List.length (N0 ++ [(⟨ta, tb, tc, lv, ll⟩ : GN)])) = (List.length N0 + 1))
   have hc_ := hc
   simp only [List.length_append, List.length_cons, List.length_nil] at hc_
   have hm_ := hm
   rw [hbg_] at hm_
   refine sv (v := (vP (some ⟨b15_, 2, none⟩))) (by kernel_rfl) ?_
   refine sv (v := gv) (x_load1 rfl Try.underlying32 rfl ((Holds.rd H127_ 3 rfl) 2 gv rfl)) ?_
   refine sv (v := (vP (some ⟨b15_, 2, none⟩))) (by kernel_rfl) ?_
   refine sv (v := gv) (x_load1 rfl Try.underlying32 rfl ((Holds.rd H127_ 3 rfl) 2 gv rfl)) ?_
   refine sv (v := (vI .i64 ((List.length N0 + 1) : Int))) (x_lenSl rfl H127_ 2 rfl Try.underlying32) ?_
   refine sv (v := (vI .i64 (((List.length N0 + 1) : Int) - 1))) (x_bin rfl rfl (ib_sub (IntWalk.i64_in _ (by omega)))) ?_
   have hr128_ := Holds.sl_RSw H127_ 2 rfl
   refine sv (v := (vP (some ⟨(sb gv), so gv + ((List.length N0) * 4 + 0), none⟩))) (x_idxSlR (v := gv) rfl hr128_ rfl Try.underlying32 z68 (by omega) (by omega) (by omega : _ = List.length N0) rfl) ?_
   refine sv (v := (vP (some ⟨(sb gv), so gv + ((List.length N0) * 4 + 0), none⟩))) (x_assign rfl) ?_
   refine wpList_nil (X_then (hK126_ _ _ ?_))
   clear hK126_
   refine C_seq (fun K129_ hK129_ => C_reg ?_)
   refine sv (v := (vP (some ⟨(sb gv), so gv + ((List.length N0) * 4 + 0), none⟩))) (x_move rfl) ?_
   refine sv (v := (vP (some ⟨b41_, 4, none⟩))) (by kernel_rfl) ?_
   refine sv (v := (vI .i64 x38_.ver)) (x_load1 rfl Try.underlying2 rfl ((Holds.rd H127_ 0 rfl) 4 (vI .i64 x38_.ver) rfl)) ?_
   refine sv (v := (vP (some ⟨(sb gv), so gv + ((List.length N0) * 4 + 0), none⟩))) (by kernel_rfl) ?_
   refine sv (v := (vP (some ⟨(sb gv), so gv + ((List.length N0) * 4 + 0), none⟩))) (by kernel_rfl) ?_
   refine S_list0 (T_storeSl (v := gv) (u := (vI .i64 x38_.ver)) rfl rfl z2 rfl H127_ 2 rfl (by first | omega | (rw [fm_len GN.len]; simp only [List.length_append, List.length_cons, List.length_nil]; omega)) rfl rfl ?_)
   intro w130_ S132_ H131_
   have S133_ := Same.trans S49_ S132_
   have H134_ := Holds.resl H131_ 2 rfl (gset rfl : List.set ((N0 ++ [(⟨ta, tb, tc, lv, ll⟩ : GN)]).flatMap GN.cells) ((List.length N0) * 4 + 0) (vI .i64 x38_.ver) = (N0 ++ [(⟨x38_.ver, tb, tc, lv, ll⟩ : GN)]).flatMap GN.cells) (rfl : (List.length N0 + 1) = (List.length N0 + 1))
   refine wpList_nil (X_then (hK129_ _ _ ?_))
   clear hK129_
   refine C_seq (fun K135_ hK135_ => ?_)
   refine A_start (S := fun w => Rd b41_ [(vI .i64 x38_.rev_Main), (vI .i64 x38_.rev_Sub), (vI .i64 x38_.created_Main), (vI .i64 x38_.created_Sub), (vI .i64 x38_.ver), (vB x38_.gone)] w ∧ Sub R1 (hp w)) (N := 12) foll rfl rfl ?_
   have H136_ := Holds.drew_ H134_
   have hq137_ := And.intro (Holds.rd H136_ 0 rfl) ((Holds.ro_at H136_ 4 rfl))
   refine A_tk 0 (v := (vP (some ⟨(sb gv), so gv + ((List.length N0) * 4 + 0), none⟩))) rfl (by kernel_rfl) (fun w hS => x_move rfl) hq137_ ?_
   refine A_tk 1 (v := (vP (some ⟨(sb gv), so gv + ((List.length N0) * 4 + 0), none⟩))) rfl (by kernel_rfl) (fun w hS => x_move rfl) hq137_ ?_
   refine A_tk 2 (v := (vP (some ⟨(sb gv), so gv + ((List.length N0) * 4 + 0), none⟩))) rfl (by kernel_rfl) (fun w hS => by kernel_rfl) hq137_ ?_
   refine A_tk 3 (v := (vP (some ⟨(sb gv), so gv + ((List.length N0) * 4 + 3), none⟩))) rfl (by kernel_rfl) (fun w hS => by kernel_rfl) hq137_ ?_
   refine A_tk 5 (v := (vP (some ⟨b41_, 0, none⟩))) rfl (by kernel_rfl) (fun w hS => by kernel_rfl) hq137_ ?_
   refine A_tk 6 (v := (vA #[(vI .i64 x38_.rev_Main), (vI .i64 x38_.rev_Sub)])) rfl (by kernel_rfl) (fun w hS => x_loadN (vs := [(vI .i64 x38_.rev_Main), (vI .i64 x38_.rev_Sub)]) rfl Try.underlying31 rfl z31 rfl (Rd.cells hS.1 0 rfl)) hq137_ ?_
   refine A_ready (i := 4) (rs := [7]) (by kernel_rfl) ?_
   refine AllR.cons ?_ ?_
   ·skip
    refine A_op (ls' := #[true, true, true, true, true, true, true, false, false, false, false, false]) rfl (by kernel_rfl) (T_val (v := lv) (x_load1 rfl Try.underlying41 rfl ((Holds.slrd H136_ 2 rfl) _ _ (fm_cell GN.len (gat _ _) (i := 3) rfl))) ?_)
    refine ⟨⟨Holds.rd H136_ 0 rfl, (Holds.ro_at H136_ 4 rfl)⟩, ?_⟩
    refine A_ready (i := 7) (rs := []) (by kernel_rfl) ?_
    refine AllR.cons ?_ AllR.nil
    refine A_op (ls' := #[true, true, true, true, true, true, true, true, false, false, false, false]) rfl (by kernel_rfl) (T_new (obj := .cells #[(vI .i64 x38_.rev_Main), (vI .i64 x38_.rev_Sub)] 31) (f := fun b__ => .slice (some ⟨b__, 0, none⟩) 1 1) (A := fun b__ => cl b__ 31 [(vI .i64 x38_.rev_Main), (vI .i64 x38_.rev_Sub)]) (by kernel_rfl) (fun l h => h.alloc _ _) H136_ ?_)
    intro b138_ w139_ S141_ H140_
    have S142_ := Same.trans (Same.trans S133_ (Same.drew _)) S141_
    refine ⟨⟨Holds.rd H140_ 1 rfl, (Holds.ro_at H140_ 5 rfl)⟩, ?_⟩
    refine A_ready (i := 8) (rs := []) (by kernel_rfl) ?_
    refine AllR.cons ?_ AllR.nil
    refine A_op (ls' := #[true, true, true, true, true, true, true, true, true, false, false, false]) rfl (by kernel_rfl) (T_append rfl rfl Try.underlying41 z31 rfl (by decide) H140_ 2 rfl (Holds.cl_src H140_ 0 rfl Try.underlying41 (by simp [Value.oneCell']) rfl) (by first | omega | (simp only [List.length_append, List.length_cons, List.length_nil]; omega)) ?_)
    intro v143_ w144_ S146_ H145_
    have S147_ := Same.trans S142_ S146_
    refine ⟨⟨Holds.rd H145_ 1 rfl, (Holds.ro_at H145_ 5 rfl)⟩, ?_⟩
    have hq148_ := And.intro (Holds.rd H145_ 1 rfl) ((Holds.ro_at H145_ 5 rfl))
    refine A_tk 9 (v := (vP (some ⟨(sb gv), so gv + ((List.length N0) * 4 + 0), none⟩))) rfl (by kernel_rfl) (fun w hS => by kernel_rfl) hq148_ ?_
    refine A_tk 10 (v := (vP (some ⟨(sb gv), so gv + ((List.length N0) * 4 + 3), none⟩))) rfl (by kernel_rfl) (fun w hS => by kernel_rfl) hq148_ ?_
    refine A_ready (i := 11) (rs := []) (by kernel_rfl) ?_
    refine AllR.cons ?_ AllR.nil
    refine A_op0 (ls' := #[true, true, true, true, true, true, true, true, true, true, true, true]) rfl (by kernel_rfl) (T_storeSl (v := gv) (u := v143_) rfl rfl z41 (Holds.sl_one H145_ 2 rfl) H145_ 3 rfl (by first | omega | (rw [fm_len GN.len]; simp only [List.length_append, List.length_cons, List.length_nil]; omega)) rfl rfl ?_)
    intro w149_ S151_ H150_
    replace H150_ : Holds w149_ (cl b138_ 31 [(vI .i64 x38_.rev_Main), (vI .i64 x38_.rev_Sub)] :: cl b41_ 66 [(vI .i64 x38_.rev_Main), (vI .i64 x38_.rev_Sub), (vI .i64 x38_.created_Main), (vI .i64 x38_.created_Sub), (vI .i64 x38_.ver), (vB x38_.gone)] :: sl 31 2 v143_ ((List.length ll) + 1) ((ll.flatMap RV.cells) ++ [(vI .i64 x38_.rev_Main), (vI .i64 x38_.rev_Sub)]) :: sl 68 4 gv (List.length N0 + 1) (List.set ((N0 ++ [(⟨x38_.ver, tb, tc, lv, ll⟩ : GN)]).flatMap GN.cells) ((List.length N0) * 4 + 3) v143_) :: cl b15_ 34 [(vI .i64 ((vLast L).rev_Main)), (vI .i64 ((vLast L).rev_Sub)), gv] :: ro R1 :: cl b2_ 34 [(vI .i64 0), (vI .i64 0), (vS none 0 0)] :: F) := H150_
    have S152_ := Same.trans S147_ S151_
    have H153_ := Holds.resl H150_ 3 rfl (gset rfl : List.set ((N0 ++ [(⟨x38_.ver, tb, tc, lv, ll⟩ : GN)]).flatMap GN.cells) ((List.length N0) * 4 + 3) v143_ = (N0 ++ [(⟨x38_.ver, tb, tc, v143_, (ll ++ [x38_.rv])⟩ : GN)]).flatMap GN.cells) (rfl : (List.length N0 + 1) = (List.length N0 + 1))
    refine ⟨⟨Holds.rd H153_ 1 rfl, (Holds.ro_at H153_ 5 rfl)⟩, ?_⟩
    refine A_done (by kernel_rfl) ?_
    refine (X_then (hK135_ _ _ ?_))
    clear hK135_
    refine C_reg ?_
    refine sv (v := (vP (some ⟨b41_, 5, none⟩))) (by kernel_rfl) ?_
    refine sv (v := (vB x38_.gone)) (x_load1 rfl Try.underlying4 rfl ((Holds.rd H153_ 1 rfl) 5 (vB x38_.gone) rfl)) ?_
    refine sv (v := (vB (!x38_.gone))) (x_not rfl) ?_
    refine sv (v := (vB (!x38_.gone))) (x_assign rfl) ?_
    refine wpList_nil (X_blkN (X_then (hK36_ _ _ ?_)))
    clear hK36_
    refine C_reg ?_
    refine sv (v := (vI .i64 ((k : Int) + 1))) (x_bin rfl rfl (ib_add (IntWalk.i64_in _ (by omega)))) ?_
    refine sv (v := (vI .i64 ((k : Int) + 1))) (x_move rfl) ?_
    refine wpList_nil (X_then ?_)
    have H154_ := Holds.resl H153_ 2 rfl ((by first | rfl | (simp [RV.cells, VR.rv, GN.cells]; done) | (simp; omega)) : (ll.flatMap RV.cells) ++ [(vI .i64 x38_.rev_Main), (vI .i64 x38_.rev_Sub)] = (ll ++ [x38_.rv]).flatMap RV.cells) ((by first | rfl | (simp [RV.cells, VR.rv, GN.cells]; done) | (simp; omega)) : (List.length ll) + 1 = (List.length (ll ++ [x38_.rv])))
    have H155_ := Holds.resl H154_ 3 rfl ((by first | rfl | (simp [RV.cells, VR.rv, GN.cells]; done) | (simp; omega)) : (N0 ++ [(⟨x38_.ver, tb, tc, v143_, (ll ++ [x38_.rv])⟩ : GN)]).flatMap GN.cells = (N0 ++ [(⟨x38_.ver, tb, tc, v143_, (ll ++ [x38_.rv])⟩ : GN)]).flatMap GN.cells) ((by first | rfl | (simp [RV.cells, VR.rv, GN.cells]; done) | (simp; omega)) : (List.length N0 + 1) = (List.length (N0 ++ [(⟨x38_.ver, tb, tc, v143_, (ll ++ [x38_.rv])⟩ : GN)])))
    have H156_ : Holds w149_ (sl 31 2 v143_ (List.length (ll ++ [x38_.rv])) ((ll ++ [x38_.rv]).flatMap RV.cells) :: sl 68 4 gv (List.length (N0 ++ [(⟨x38_.ver, tb, tc, v143_, (ll ++ [x38_.rv])⟩ : GN)])) ((N0 ++ [(⟨x38_.ver, tb, tc, v143_, (ll ++ [x38_.rv])⟩ : GN)]).flatMap GN.cells) :: cl b15_ 34 [(vI .i64 ((vLast L).rev_Main)), (vI .i64 ((vLast L).rev_Sub)), gv] :: ro R1 :: cl b2_ 34 [(vI .i64 0), (vI .i64 0), (vS none 0 0)] :: F) := (Holds.pkF H155_ [2, 2, 2, 2, 2] 2 :)
    exact ⟨⟨R1, k + 1, N0, [(⟨x38_.ver, tb, tc, v143_, (ll ++ [x38_.rv])⟩ : GN)], gv, v143_, (ll ++ [x38_.rv]), !x38_.gone⟩, ⟨_, congrArg (fun e => mkA 69 e []) (ch (ch (ch (ch (ch (ch (ch rfl rfl) rfl) rfl) rfl) rfl) rfl) (congrArg (vI .i64) ((by first | rfl | omega | (simp; done) | (simp; omega)) : (k : Int) + 1 = ((k + 1 : Nat) : Int)))), H156_, S152_, (hsR1), (by first | assumption | omega | exact rfl), (by rw [rv_take_snoc hx39_, dGo_snoc]; exact dGo_old hm_), (hN), (Or.inr ⟨_, _, _, rfl⟩), (fun _ h => by cases h), (by simp_all; omega)⟩, by first | omega | (dsimp only; omega) | (simp; omega)⟩
   refine AllR.cons ?_ AllR.nil
   refine A_op (ls' := #[true, true, true, true, false, true, true, true, false, false, false, false]) rfl (by kernel_rfl) (T_new (obj := .cells #[(vI .i64 x38_.rev_Main), (vI .i64 x38_.rev_Sub)] 31) (f := fun b__ => .slice (some ⟨b__, 0, none⟩) 1 1) (A := fun b__ => cl b__ 31 [(vI .i64 x38_.rev_Main), (vI .i64 x38_.rev_Sub)]) (by kernel_rfl) (fun l h => h.alloc _ _) H136_ ?_)
   intro b157_ w158_ S160_ H159_
   have S161_ := Same.trans (Same.trans S133_ (Same.drew _)) S160_
   refine ⟨⟨Holds.rd H159_ 1 rfl, (Holds.ro_at H159_ 5 rfl)⟩, ?_⟩
   refine A_ready (i := 4) (rs := []) (by kernel_rfl) ?_
   refine AllR.cons ?_ AllR.nil
   refine A_op (ls' := #[true, true, true, true, true, true, true, true, false, false, false, false]) rfl (by kernel_rfl) (T_val (v := lv) (x_load1 rfl Try.underlying41 rfl ((Holds.slrd H159_ 3 rfl) _ _ (fm_cell GN.len (gat _ _) (i := 3) rfl))) ?_)
   refine ⟨⟨Holds.rd H159_ 1 rfl, (Holds.ro_at H159_ 5 rfl)⟩, ?_⟩
   refine A_ready (i := 8) (rs := []) (by kernel_rfl) ?_
   refine AllR.cons ?_ AllR.nil
   refine A_op (ls' := #[true, true, true, true, true, true, true, true, true, false, false, false]) rfl (by kernel_rfl) (T_append rfl rfl Try.underlying41 z31 rfl (by decide) H159_ 2 rfl (Holds.cl_src H159_ 0 rfl Try.underlying41 (by simp [Value.oneCell']) rfl) (by first | omega | (simp only [List.length_append, List.length_cons, List.length_nil]; omega)) ?_)
   intro v162_ w163_ S165_ H164_
   have S166_ := Same.trans S161_ S165_
   refine ⟨⟨Holds.rd H164_ 1 rfl, (Holds.ro_at H164_ 5 rfl)⟩, ?_⟩
   have hq167_ := And.intro (Holds.rd H164_ 1 rfl) ((Holds.ro_at H164_ 5 rfl))
   refine A_tk 9 (v := (vP (some ⟨(sb gv), so gv + ((List.length N0) * 4 + 0), none⟩))) rfl (by kernel_rfl) (fun w hS => by kernel_rfl) hq167_ ?_
   refine A_tk 10 (v := (vP (some ⟨(sb gv), so gv + ((List.length N0) * 4 + 3), none⟩))) rfl (by kernel_rfl) (fun w hS => by kernel_rfl) hq167_ ?_
   refine A_ready (i := 11) (rs := []) (by kernel_rfl) ?_
   refine AllR.cons ?_ AllR.nil
   refine A_op0 (ls' := #[true, true, true, true, true, true, true, true, true, true, true, true]) rfl (by kernel_rfl) (T_storeSl (v := gv) (u := v162_) rfl rfl z41 (Holds.sl_one H164_ 2 rfl) H164_ 3 rfl (by first | omega | (rw [fm_len GN.len]; simp only [List.length_append, List.length_cons, List.length_nil]; omega)) rfl rfl ?_)
   intro w168_ S170_ H169_
   replace H169_ : Holds w168_ (cl b157_ 31 [(vI .i64 x38_.rev_Main), (vI .i64 x38_.rev_Sub)] :: cl b41_ 66 [(vI .i64 x38_.rev_Main), (vI .i64 x38_.rev_Sub), (vI .i64 x38_.created_Main), (vI .i64 x38_.created_Sub), (vI .i64 x38_.ver), (vB x38_.gone)] :: sl 31 2 v162_ ((List.length ll) + 1) ((ll.flatMap RV.cells) ++ [(vI .i64 x38_.rev_Main), (vI .i64 x38_.rev_Sub)]) :: sl 68 4 gv (List.length N0 + 1) (List.set ((N0 ++ [(⟨x38_.ver, tb, tc, lv, ll⟩ : GN)]).flatMap GN.cells) ((List.length N0) * 4 + 3) v162_) :: cl b15_ 34 [(vI .i64 ((vLast L).rev_Main)), (vI .i64 ((vLast L).rev_Sub)), gv] :: ro R1 :: cl b2_ 34 [(vI .i64 0), (vI .i64 0), (vS none 0 0)] :: F) := H169_
   have S171_ := Same.trans S166_ S170_
   have H172_ := Holds.resl H169_ 3 rfl (gset rfl : List.set ((N0 ++ [(⟨x38_.ver, tb, tc, lv, ll⟩ : GN)]).flatMap GN.cells) ((List.length N0) * 4 + 3) v162_ = (N0 ++ [(⟨x38_.ver, tb, tc, v162_, (ll ++ [x38_.rv])⟩ : GN)]).flatMap GN.cells) (rfl : (List.length N0 + 1) = (List.length N0 + 1))
   refine ⟨⟨Holds.rd H172_ 1 rfl, (Holds.ro_at H172_ 5 rfl)⟩, ?_⟩
   refine A_done (by kernel_rfl) ?_
   refine (X_then (hK135_ _ _ ?_))
   clear hK135_
   refine C_reg ?_
   refine sv (v := (vP (some ⟨b41_, 5, none⟩))) (by kernel_rfl) ?_
   refine sv (v := (vB x38_.gone)) (x_load1 rfl Try.underlying4 rfl ((Holds.rd H172_ 1 rfl) 5 (vB x38_.gone) rfl)) ?_
   refine sv (v := (vB (!x38_.gone))) (x_not rfl) ?_
   refine sv (v := (vB (!x38_.gone))) (x_assign rfl) ?_
   refine wpList_nil (X_blkN (X_then (hK36_ _ _ ?_)))
   clear hK36_
   refine C_reg ?_
   refine sv (v := (vI .i64 ((k : Int) + 1))) (x_bin rfl rfl (ib_add (IntWalk.i64_in _ (by omega)))) ?_
   refine sv (v := (vI .i64 ((k : Int) + 1))) (x_move rfl) ?_
   refine wpList_nil (X_then ?_)
   have H173_ := Holds.resl H172_ 2 rfl ((by first | rfl | (simp [RV.cells, VR.rv, GN.cells]; done) | (simp; omega)) : (ll.flatMap RV.cells) ++ [(vI .i64 x38_.rev_Main), (vI .i64 x38_.rev_Sub)] = (ll ++ [x38_.rv]).flatMap RV.cells) ((by first | rfl | (simp [RV.cells, VR.rv, GN.cells]; done) | (simp; omega)) : (List.length ll) + 1 = (List.length (ll ++ [x38_.rv])))
   have H174_ := Holds.resl H173_ 3 rfl ((by first | rfl | (simp [RV.cells, VR.rv, GN.cells]; done) | (simp; omega)) : (N0 ++ [(⟨x38_.ver, tb, tc, v162_, (ll ++ [x38_.rv])⟩ : GN)]).flatMap GN.cells = (N0 ++ [(⟨x38_.ver, tb, tc, v162_, (ll ++ [x38_.rv])⟩ : GN)]).flatMap GN.cells) ((by first | rfl | (simp [RV.cells, VR.rv, GN.cells]; done) | (simp; omega)) : (List.length N0 + 1) = (List.length (N0 ++ [(⟨x38_.ver, tb, tc, v162_, (ll ++ [x38_.rv])⟩ : GN)])))
   have H175_ : Holds w168_ (sl 31 2 v162_ (List.length (ll ++ [x38_.rv])) ((ll ++ [x38_.rv]).flatMap RV.cells) :: sl 68 4 gv (List.length (N0 ++ [(⟨x38_.ver, tb, tc, v162_, (ll ++ [x38_.rv])⟩ : GN)])) ((N0 ++ [(⟨x38_.ver, tb, tc, v162_, (ll ++ [x38_.rv])⟩ : GN)]).flatMap GN.cells) :: cl b15_ 34 [(vI .i64 ((vLast L).rev_Main)), (vI .i64 ((vLast L).rev_Sub)), gv] :: ro R1 :: cl b2_ 34 [(vI .i64 0), (vI .i64 0), (vS none 0 0)] :: F) := (Holds.pkF H174_ [2, 2, 2, 2, 2] 2 :)
   exact ⟨⟨R1, k + 1, N0, [(⟨x38_.ver, tb, tc, v162_, (ll ++ [x38_.rv])⟩ : GN)], gv, v162_, (ll ++ [x38_.rv]), !x38_.gone⟩, ⟨_, congrArg (fun e => mkA 69 e []) (ch (ch (ch (ch (ch (ch (ch rfl rfl) rfl) rfl) rfl) rfl) rfl) (congrArg (vI .i64) ((by first | rfl | omega | (simp; done) | (simp; omega)) : (k : Int) + 1 = ((k + 1 : Nat) : Int)))), H175_, S171_, (hsR1), (by first | assumption | omega | exact rfl), (by rw [rv_take_snoc hx39_, dGo_snoc]; exact dGo_old hm_), (hN), (Or.inr ⟨_, _, _, rfl⟩), (fun _ h => by cases h), (by simp_all; omega)⟩, by first | omega | (dsimp only; omega) | (simp; omega)⟩
 ·have c35_fp : ¬ ((k : Int) < ((List.length L) : Int)) := of_decide_eq_false c35_f
  refine C_exit (X_thenX (X_thenX (X_blkHit ?_)))
  refine (X_then (hK25_ _ _ ?_))
  clear hK25_
  refine C_seq (fun K176_ hK176_ => ?_)
  refine C_seq (fun K177_ hK177_ => C_reg ?_)
  refine sv (v := v) (x_move rfl) ?_
  refine sv (v := (vI .i64 ((List.length L) : Int))) (x_lenRS rfl (RS.mono hL hsR1) Try.underlying23) ?_
  refine sv (v := (vB (decide (0 < ((List.length L) : Int))))) (x_bin rfl rfl rfl) ?_
  refine sv (v := (vB (decide (0 < ((List.length L) : Int))))) (x_move rfl) ?_
  rcases Bool.eq_false_or_eq_true (decide (0 < ((List.length L) : Int))) with c178_t | c178_f
  ·have c178_tp : 0 < ((List.length L) : Int) := of_decide_eq_true c178_t
   refine S_yes (j := 3) (dj := 57) (b := true) rfl rfl (congrArg vB c178_t) (T_val (v := v) (x_move rfl) ?_)
   have H180_ := ((Holds.bring H31_ 3 rfl) :)
   refine S_yes (j := 3) (dj := 57) (b := true) rfl rfl (congrArg vB c178_t) (T_call (al := [v]) (pre := []) rfl rfl cb16 (kLives R1 v L (RS.set_ (RS.mono hL hsR1) rfl (by first | rfl | (simp [RV.cells, VR.rv, GN.cells]; done) | (simp; omega))) (by first | assumption | omega)) H180_ ?_)
   rintro v179_ p184_ w181_ ⟨rfl, rfl⟩ S183_ H182_
   have S185_ := Same.trans S32_ S183_
   refine S_yes (j := 3) (dj := 57) (b := true) rfl rfl (congrArg vB c178_t) (T_val (v := (vB (!(!(vLast L).gone)))) (x_not rfl) ?_)
   refine S_list (T_pickT (v := (vB (!(!(vLast L).gone)))) (congrArg vB c178_t) rfl ?_)
   refine wpList_nil (X_then (hK177_ _ _ ?_))
   clear hK177_
   refine C_cond (b := !(!(vLast L).gone)) rfl (fun c186_t => ?_) (fun c186_f => ?_)
   ·skip
    refine C_reg ?_
    refine sv (v := (vP (some ⟨b15_, 2, none⟩))) (by kernel_rfl) ?_
    refine sv (v := gv) (x_load1 rfl Try.underlying32 rfl ((Holds.rd H182_ 3 rfl) 2 gv rfl)) ?_
    refine sv (v := (vA #[(vI .i64 0), (vI .i64 0), (vI .i64 0), (vS none 0 0)])) (by kernel_rfl) ?_
    refine S_list (T_new (obj := .cells #[(vI .i64 0), (vI .i64 0), (vI .i64 0), (vS none 0 0)] 68) (f := fun b__ => .slice (some ⟨b__, 0, none⟩) 1 1) (A := fun b__ => cl b__ 68 [(vI .i64 0), (vI .i64 0), (vI .i64 0), (vS none 0 0)]) (by kernel_rfl) (fun l h => h.alloc _ _) H182_ ?_)
    intro b187_ w188_ S190_ H189_
    replace H189_ : Holds w188_ (cl b187_ 68 [(vI .i64 0), (vI .i64 0), (vI .i64 0), (vS none 0 0)] :: ro R1 :: sl 31 2 lv (List.length ll) (ll.flatMap RV.cells) :: sl 68 4 gv (List.length (N0 ++ T)) ((N0 ++ T).flatMap GN.cells) :: cl b15_ 34 [(vI .i64 ((vLast L).rev_Main)), (vI .i64 ((vLast L).rev_Sub)), gv] :: cl b2_ 34 [(vI .i64 0), (vI .i64 0), (vS none 0 0)] :: F) := H189_
    have S191_ := Same.trans S185_ S190_
    refine S_list (T_append rfl rfl Try.underlying32 z68 rfl (by decide) H189_ 3 rfl (Holds.cl_src H189_ 0 rfl Try.underlying32 (by simp [Value.oneCell']) rfl) (by first | omega | (simp only [List.length_append, List.length_cons, List.length_nil]; omega)) ?_)
    intro v192_ w193_ S195_ H194_
    have S196_ := Same.trans S191_ S195_
    refine sv (v := (vP (some ⟨b15_, 2, none⟩))) (by kernel_rfl) ?_
    refine S_list0 (T_store1 (v := v192_) rfl rfl z32 (Holds.sl_one H194_ 3 rfl) H194_ 4 rfl (Nat.le_of_ble_eq_true (by rfl)) ?_)
    intro w197_ S199_ H198_
    have S200_ := Same.trans S196_ S199_
    refine wpList_nil (X_then (hK176_ _ _ ?_))
    clear hK176_
    refine C_seq (fun K201_ hK201_ => C_reg ?_)
    refine sv (v := (vA #[(vI .i64 ((vLast L).rev_Main)), (vI .i64 ((vLast L).rev_Sub)), v192_])) (x_loadN (vs := [(vI .i64 ((vLast L).rev_Main)), (vI .i64 ((vLast L).rev_Sub)), v192_]) rfl Try.underlying34 rfl z34 rfl (Rd.cells (Holds.rd H198_ 4 rfl) 0 rfl)) ?_
    refine S_list0 (T_storeN (vs := [(vI .i64 ((vLast L).rev_Main)), (vI .i64 ((vLast L).rev_Sub)), v192_]) rfl rfl z34 rfl (List.forall_mem_cons.2 ⟨rfl, (List.forall_mem_cons.2 ⟨rfl, (List.forall_mem_cons.2 ⟨(Holds.sl_one H198_ 3 rfl), (fun _ h__ => by cases h__)⟩)⟩)⟩) H198_ 5 rfl (Nat.le_of_ble_eq_true (by rfl)) ?_)
    intro w202_ S204_ H203_
    replace H203_ : Holds w202_ (cl b187_ 68 [(vI .i64 0), (vI .i64 0), (vI .i64 0), (vS none 0 0)] :: ro R1 :: sl 31 2 lv (List.length ll) (ll.flatMap RV.cells) :: sl 68 4 v192_ ((List.length (N0 ++ T)) + 1) (((N0 ++ T).flatMap GN.cells) ++ [(vI .i64 0), (vI .i64 0), (vI .i64 0), (vS none 0 0)]) :: cl b15_ 34 [(vI .i64 ((vLast L).rev_Main)), (vI .i64 ((vLast L).rev_Sub)), v192_] :: cl b2_ 34 [(vI .i64 ((vLast L).rev_Main)), (vI .i64 ((vLast L).rev_Sub)), v192_] :: F) := H203_
    have S205_ := Same.trans S200_ S204_
    refine wpList_nil (X_then (hK201_ _ _ ?_))
    clear hK201_
    refine C_ret ?_
    refine R_any (v := (vA #[(vI .i64 ((vLast L).rev_Main)), (vI .i64 ((vLast L).rev_Sub)), v192_])) (run_results1 rfl ⟨_, rfl, load_resN Try.underlying34 rfl z34 rfl (vs := [(vI .i64 ((vLast L).rev_Main)), (vI .i64 ((vLast L).rev_Sub)), v192_]) (Holds.cl_cells H203_ 5 rfl 0 rfl)⟩) ?_
    have hk_ : k = L.length := (by omega)
    rw [hk_, List.take_length] at hm
    have H206_ := ((Holds.bring (Holds.bring H203_ 2 rfl) 2 rfl) :)
    obtain ⟨R207_, hs208_, ⟨R209_, ha210_, hs211_⟩, H212_⟩ := Holds.gift H206_
    have hz_R_R207_ := Sub.trans' hsR1 hs208_
    have hr213_ : RS R207_ 2 lv (List.length ll) (ll.flatMap RV.cells) := (sl_RS ha210_ (Sub.rfl' _)).mono hs211_
    have H214_ := Holds.resl H212_ 2 rfl (by simp [GN.cells] : ((N0 ++ T).flatMap GN.cells) ++ [(vI .i64 0), (vI .i64 0), (vI .i64 0), (vS none 0 0)] = ((N0 ++ T) ++ [(⟨0, 0, 0, (vS none 0 0), ([] : List RV)⟩ : GN)]).flatMap GN.cells) (by simp : (List.length (N0 ++ T)) + 1 = (List.length (N0 ++ T) + 1))
    have H215_ := ((Holds.bring (Holds.bring H214_ 2 rfl) 1 rfl) :)
    replace H215_ : Holds w202_ (ro R207_ :: sl 68 4 v192_ (List.length (N0 ++ T) + 1) (((N0 ++ T) ++ [(⟨0, 0, 0, (vS none 0 0), ([] : List RV)⟩ : GN)]).flatMap GN.cells) :: cl b187_ 68 [(vI .i64 0), (vI .i64 0), (vI .i64 0), (vS none 0 0)] :: cl b15_ 34 [(vI .i64 ((vLast L).rev_Main)), (vI .i64 ((vLast L).rev_Sub)), v192_] :: cl b2_ 34 [(vI .i64 ((vLast L).rev_Main)), (vI .i64 ((vLast L).rev_Sub)), v192_] :: F) := H215_
    obtain ⟨R216_, hs217_, ⟨R218_, ha219_, hs220_⟩, H221_⟩ := Holds.gift H215_
    have hz_R_R216_ := Sub.trans' hz_R_R207_ hs217_
    have hz_R1_R216_ := Sub.trans' hs208_ hs217_
    have hr222_ : RS R216_ 4 v192_ (List.length (N0 ++ T) + 1) (((N0 ++ T) ++ [(⟨0, 0, 0, (vS none 0 0), ([] : List RV)⟩ : GN)]).flatMap GN.cells) := (sl_RS ha219_ (Sub.rfl' _)).mono hs220_
    have H223_ : Holds w202_ (ro R216_ :: F) := (Holds.pkF H221_ [0] 3 :)
    exact ⟨R216_, _, _, rfl, hz_R_R216_, ⟨v192_, rfl, rfl, (⟨N0 ++ T ++ [(⟨0, 0, 0, .slice none 0 0, []⟩ : GN)], dGens_yes hm ⟨by omega, by simpa using c186_t⟩, RS.set_ hr222_ rfl (by simp; omega), GOk_nil (GOk_app hN hz_R1_R216_ hT (RS.mono hr213_ hs217_))⟩)⟩, S205_, H223_⟩
   ·skip
    refine C_skip (X_then (hK176_ _ _ ?_))
    clear hK176_
    refine C_seq (fun K224_ hK224_ => C_reg ?_)
    refine sv (v := (vA #[(vI .i64 ((vLast L).rev_Main)), (vI .i64 ((vLast L).rev_Sub)), gv])) (x_loadN (vs := [(vI .i64 ((vLast L).rev_Main)), (vI .i64 ((vLast L).rev_Sub)), gv]) rfl Try.underlying34 rfl z34 rfl (Rd.cells (Holds.rd H182_ 3 rfl) 0 rfl)) ?_
    refine S_list0 (T_storeN (vs := [(vI .i64 ((vLast L).rev_Main)), (vI .i64 ((vLast L).rev_Sub)), gv]) rfl rfl z34 rfl (List.forall_mem_cons.2 ⟨rfl, (List.forall_mem_cons.2 ⟨rfl, (List.forall_mem_cons.2 ⟨(Holds.sl_one H182_ 2 rfl), (fun _ h__ => by cases h__)⟩)⟩)⟩) H182_ 4 rfl (Nat.le_of_ble_eq_true (by rfl)) ?_)
    intro w225_ S227_ H226_
    have S228_ := Same.trans S185_ S227_
    refine wpList_nil (X_then (hK224_ _ _ ?_))
    clear hK224_
    refine C_ret ?_
    refine R_any (v := (vA #[(vI .i64 ((vLast L).rev_Main)), (vI .i64 ((vLast L).rev_Sub)), gv])) (run_results1 rfl ⟨_, rfl, load_resN Try.underlying34 rfl z34 rfl (vs := [(vI .i64 ((vLast L).rev_Main)), (vI .i64 ((vLast L).rev_Sub)), gv]) (Holds.cl_cells H226_ 4 rfl 0 rfl)⟩) ?_
    have hk_ : k = L.length := (by omega)
    rw [hk_, List.take_length] at hm
    obtain ⟨R229_, hs230_, ⟨R231_, ha232_, hs233_⟩, H234_⟩ := Holds.gift H226_
    have hz_R_R229_ := Sub.trans' hsR1 hs230_
    have hr235_ : RS R229_ 2 lv (List.length ll) (ll.flatMap RV.cells) := (sl_RS ha232_ (Sub.rfl' _)).mono hs233_
    obtain ⟨R236_, hs237_, ⟨R238_, ha239_, hs240_⟩, H241_⟩ := Holds.gift H234_
    replace H241_ : Holds w225_ (ro R236_ :: cl b15_ 34 [(vI .i64 ((vLast L).rev_Main)), (vI .i64 ((vLast L).rev_Sub)), gv] :: cl b2_ 34 [(vI .i64 ((vLast L).rev_Main)), (vI .i64 ((vLast L).rev_Sub)), gv] :: F) := H241_
    have hz_R_R236_ := Sub.trans' hz_R_R229_ hs237_
    have hz_R1_R236_ := Sub.trans' hs230_ hs237_
    have hr242_ : RS R236_ 4 gv (List.length (N0 ++ T)) ((N0 ++ T).flatMap GN.cells) := (sl_RS ha239_ (Sub.rfl' _)).mono hs240_
    have H243_ : Holds w225_ (ro R236_ :: F) := (Holds.pkF H241_ [0] 2 :)
    exact ⟨R236_, _, _, rfl, hz_R_R236_, ⟨gv, rfl, rfl, (⟨N0 ++ T, dGens_no hm (by simp_all), hr242_, GOk_app hN hz_R1_R236_ hT (RS.mono hr235_ hs237_)⟩)⟩, S228_, H243_⟩
  ·have c178_fp : ¬ (0 < ((List.length L) : Int)) := of_decide_eq_false c178_f
   refine S_no (j := 3) (dj := 57) (b := false) rfl rfl (congrArg vB c178_f) (by decide) ?_
   refine S_no (j := 3) (dj := 57) (b := false) rfl rfl (congrArg vB c178_f) (by decide) ?_
   refine S_no (j := 3) (dj := 57) (b := false) rfl rfl (congrArg vB c178_f) (by decide) ?_
   refine S_list (T_pickF (v := (vB false)) (congrArg vB c178_f) rfl ?_)
   refine wpList_nil (X_then (hK177_ _ _ ?_))
   clear hK177_
   refine C_condF rfl ?_
   refine C_skip (X_then (hK176_ _ _ ?_))
   clear hK176_
   refine C_seq (fun K244_ hK244_ => C_reg ?_)
   refine sv (v := (vA #[(vI .i64 ((vLast L).rev_Main)), (vI .i64 ((vLast L).rev_Sub)), gv])) (x_loadN (vs := [(vI .i64 ((vLast L).rev_Main)), (vI .i64 ((vLast L).rev_Sub)), gv]) rfl Try.underlying34 rfl z34 rfl (Rd.cells (Holds.rd H31_ 2 rfl) 0 rfl)) ?_
   refine S_list0 (T_storeN (vs := [(vI .i64 ((vLast L).rev_Main)), (vI .i64 ((vLast L).rev_Sub)), gv]) rfl rfl z34 rfl (List.forall_mem_cons.2 ⟨rfl, (List.forall_mem_cons.2 ⟨rfl, (List.forall_mem_cons.2 ⟨(Holds.sl_one H31_ 1 rfl), (fun _ h__ => by cases h__)⟩)⟩)⟩) H31_ 4 rfl (Nat.le_of_ble_eq_true (by rfl)) ?_)
   intro w245_ S247_ H246_
   have S248_ := Same.trans S32_ S247_
   refine wpList_nil (X_then (hK244_ _ _ ?_))
   clear hK244_
   refine C_ret ?_
   refine R_any (v := (vA #[(vI .i64 ((vLast L).rev_Main)), (vI .i64 ((vLast L).rev_Sub)), gv])) (run_results1 rfl ⟨_, rfl, load_resN Try.underlying34 rfl z34 rfl (vs := [(vI .i64 ((vLast L).rev_Main)), (vI .i64 ((vLast L).rev_Sub)), gv]) (Holds.cl_cells H246_ 4 rfl 0 rfl)⟩) ?_
   have hk_ : k = L.length := (by omega)
   rw [hk_, List.take_length] at hm
   have H249_ := ((Holds.bring H246_ 3 rfl) :)
   obtain ⟨R250_, hs251_, ⟨R252_, ha253_, hs254_⟩, H255_⟩ := Holds.gift H249_
   replace H255_ : Holds w245_ (ro R250_ :: sl 68 4 gv (List.length (N0 ++ T)) ((N0 ++ T).flatMap GN.cells) :: cl b15_ 34 [(vI .i64 ((vLast L).rev_Main)), (vI .i64 ((vLast L).rev_Sub)), gv] :: cl b2_ 34 [(vI .i64 ((vLast L).rev_Main)), (vI .i64 ((vLast L).rev_Sub)), gv] :: F) := H255_
   have hz_R_R250_ := Sub.trans' hsR1 hs251_
   have hr256_ : RS R250_ 2 lv (List.length ll) (ll.flatMap RV.cells) := (sl_RS ha253_ (Sub.rfl' _)).mono hs254_
   obtain ⟨R257_, hs258_, ⟨R259_, ha260_, hs261_⟩, H262_⟩ := Holds.gift H255_
   have hz_R_R257_ := Sub.trans' hz_R_R250_ hs258_
   have hz_R1_R257_ := Sub.trans' hs251_ hs258_
   have hr263_ : RS R257_ 4 gv (List.length (N0 ++ T)) ((N0 ++ T).flatMap GN.cells) := (sl_RS ha260_ (Sub.rfl' _)).mono hs261_
   have H264_ : Holds w245_ (ro R257_ :: F) := (Holds.pkF H262_ [0] 2 :)
   exact ⟨R257_, _, _, rfl, hz_R_R257_, ⟨gv, rfl, rfl, (⟨N0 ++ T, dGens_no hm (by simp_all), hr263_, GOk_app hN hz_R1_R257_ hT (RS.mono hr256_ hs258_)⟩)⟩, S248_, H264_⟩
end Go.Proofs.Ytiblemgccgbhoaa
set_option linter.unusedVariables false
set_option linter.unusedSimpArgs false
namespace Go.Proofs.Ytiblemgccgbhoaa
open Go Go.RowKit Gw
open Go.Value renaming int → vI, bool → vB, slice → vS, pointer → vP, agg → vA, tuple → vT

def kmOk (b : Bool) : KM := ⟨b, 0, 0, 0, 0, 0, [], 0, 0, []⟩
def kmRev (r : List RV) : KM := ⟨false, 0, 0, 0, 0, 0, r, 0, 0, []⟩
/-- One operation on some changes; none: it is refused. -/
def kDo (l : List VR) (o : KO) : Option (List VR × KM) :=
  if o.kind = 1 then (if vLessB (vLast l).rev_Main (vLast l).rev_Sub o.rev_Main o.rev_Sub then some (l ++ [vPut l o.rev_Main o.rev_Sub], kmOk true) else none)
  else if o.kind = 2 then (if (vLast l).gone then some (l, kmOk false) else if vLessB (vLast l).rev_Main (vLast l).rev_Sub o.rev_Main o.rev_Sub then some (l ++ [vEnd l o.rev_Main o.rev_Sub], kmOk true) else none)
  else if o.kind = 5 then some (l, ⟨vHoldB l o.at_, (vHold l o.at_).rev_Main, (vHold l o.at_).rev_Sub, (vHold l o.at_).created_Main, (vHold l o.at_).created_Sub, (vHold l o.at_).ver, [], 0, 0, []⟩)
  else if o.kind = 6 then some (l, kmRev (vSince l o.at_))
  else if o.kind = 7 then some (vCompact l o.at_, kmRev (vKept l o.at_ true))
  else if o.kind = 8 then some (l, kmRev (vKept l o.at_ false))
  else some (l, kmOk false)
section
variable {l : List VR} {o : KO}
theorem kDo_put (h : o.kind = 1) (hl : vLessB (vLast l).rev_Main (vLast l).rev_Sub o.rev_Main o.rev_Sub = true) : kDo l o = some (l ++ [vPut l o.rev_Main o.rev_Sub], kmOk true) := by
  unfold kDo; rw [if_pos h, if_pos hl]
theorem kDo_putNo (h : o.kind = 1) (hl : vLessB (vLast l).rev_Main (vLast l).rev_Sub o.rev_Main o.rev_Sub = false) : kDo l o = none := by
  unfold kDo; rw [if_pos h, hl]; rfl
theorem kDo_end (h : o.kind = 2) (hg : (!(vLast l).gone) = true) (hl : vLessB (vLast l).rev_Main (vLast l).rev_Sub o.rev_Main o.rev_Sub = true) : kDo l o = some (l ++ [vEnd l o.rev_Main o.rev_Sub], kmOk true) := by
  unfold kDo; rw [if_neg (by omega), if_pos h, if_neg (by simpa using hg), if_pos hl]
theorem kDo_endNo (h : o.kind = 2) (hg : (!(vLast l).gone) = true) (hl : vLessB (vLast l).rev_Main (vLast l).rev_Sub o.rev_Main o.rev_Sub = false) : kDo l o = none := by
  unfold kDo; rw [if_neg (by omega), if_pos h, if_neg (by simpa using hg), hl]; rfl
theorem kDo_endGone (h : o.kind = 2) (hg : (!(vLast l).gone) = false) : kDo l o = some (l, kmOk false) := by
  unfold kDo; rw [if_neg (by omega), if_pos h, if_pos (by simpa using hg)]
theorem kDo_get (h : o.kind = 5) : kDo l o = some (l, ⟨vHoldB l o.at_, (vHold l o.at_).rev_Main, (vHold l o.at_).rev_Sub, (vHold l o.at_).created_Main, (vHold l o.at_).created_Sub, (vHold l o.at_).ver, [], 0, 0, []⟩) := by
  unfold kDo; rw [if_neg (by omega), if_neg (by omega), if_pos h]
theorem kDo_since (h : o.kind = 6) : kDo l o = some (l, kmRev (vSince l o.at_)) := by
  unfold kDo; rw [if_neg (by omega), if_neg (by omega), if_neg (by omega), if_pos h]
theorem kDo_compact (h : o.kind = 7) : kDo l o = some (vCompact l o.at_, kmRev (vKept l o.at_ true)) := by
  unfold kDo; rw [if_neg (by omega), if_neg (by omega), if_neg (by omega), if_neg (by omega), if_pos h]
theorem kDo_keep (h : o.kind = 8) : kDo l o = some (l, kmRev (vKept l o.at_ false)) := by
  unfold kDo; rw [if_neg (by omega), if_neg (by omega), if_neg (by omega), if_neg (by omega), if_neg (by omega), if_pos h]
theorem kDo_else (h1 : ¬ o.kind = 1) (h2 : ¬ o.kind = 2) (h5 : ¬ o.kind = 5) (h6 : ¬ o.kind = 6) (h7 : ¬ o.kind = 7) (h8 : ¬ o.kind = 8) : kDo l o = some (l, kmOk false) := by
  unfold kDo; rw [if_neg h1, if_neg h2, if_neg h5, if_neg h6, if_neg h7, if_neg h8]
end


set_option maxHeartbeats 1600000 in
theorem kKeyDo (R : HP) (v : Value) (L : List VR) (o : KO) (hL : RS R 6 v (List.length L) (L.flatMap VR.cells)) (hl : L.length ≤ 10000) (hv : ∀ x ∈ L, 0 ≤ x.ver ∧ x.ver ≤ 10000) :
    TriG Try.prog 18 #[v, (vA #[(vI .i64 o.kind), (vI .i64 o.rev_Main), (vI .i64 o.rev_Sub), (vI .i64 o.created_Main), (vI .i64 o.created_Sub), (vI .i64 o.ver), (vI .i64 o.at_)])] R [] (fun R' v__ post__ => (∃ (v' rv : Value) (ok : Bool) (mm ms cm cs ver : Int) (L' : List VR) (rl : List RV), v__ = (vT #[v', (vA #[(vB ok), (vI .i64 mm), (vI .i64 ms), (vI .i64 cm), (vI .i64 cs), (vI .i64 ver), rv, (vI .i64 0), (vI .i64 0), (vS none 0 0)]), (vB true)]) ∧ post__ = [] ∧ (kDo L o = some (L', ⟨ok, mm, ms, cm, cs, ver, rl, 0, 0, []⟩)) ∧ (RS R' 6 v' (List.length L') (L'.flatMap VR.cells)) ∧ (RS R' 2 rv (List.length rl) (rl.flatMap RV.cells))) ∨ (∃ (v' : Value), v__ = (vT #[v', (vA #[(vB false), (vI .i64 0), (vI .i64 0), (vI .i64 0), (vI .i64 0), (vI .i64 0), (vS none 0 0), (vI .i64 0), (vI .i64 0), (vS none 0 0)]), (vB false)]) ∧ post__ = [] ∧ (kDo L o = none))) := by
 refine TriG.into (n := 90) (al := [v, (vA #[(vI .i64 o.kind), (vI .i64 o.rev_Main), (vI .i64 o.rev_Sub), (vI .i64 o.created_Main), (vI .i64 o.created_Sub), (vI .i64 o.ver), (vI .i64 o.at_)])]) Try.func18 rfl Try.ntmps18 rfl rfl fun w F H => ?_
 refine C_seq (fun K1_ hK1_ => C_reg ?_)
 refine S_list (T_box (v := (vA #[(vI .i64 o.kind), (vI .i64 o.rev_Main), (vI .i64 o.rev_Sub), (vI .i64 o.created_Main), (vI .i64 o.created_Sub), (vI .i64 o.ver), (vI .i64 o.at_)])) rfl H ?_)
 intro b2_ w3_ S5_ H4_
 have S6_ := Same.trans (Same.refl w) S5_
 refine sv (v := (vS none 0 0)) (x_assign rfl) ?_
 refine S_list (T_alloc z43 H4_ ?_)
 intro b7_ w8_ S10_ H9_
 have S11_ := Same.trans S6_ S10_
 refine sv (v := (vB false)) (x_assign rfl) ?_
 refine wpList_nil (X_then (hK1_ _ _ ?_))
 clear hK1_
 refine C_seq (fun K12_ hK12_ => C_reg ?_)
 refine S_list (T_alloc z43 H9_ ?_)
 intro b13_ w14_ S16_ H15_
 have S17_ := Same.trans S11_ S16_
 refine wpList_nil (X_then (hK12_ _ _ ?_))
 clear hK12_
 refine C_seq (fun K18_ hK18_ => ?_)
 refine C_seq (fun K19_ hK19_ => C_reg ?_)
 refine sv (v := (vP (some ⟨b2_, 0, none⟩))) (by kernel_rfl) ?_
 refine sv (v := (vI .i64 o.kind)) (x_load1 rfl Try.underlying3 rfl ((Holds.rd H15_ 2 rfl) 0 (vI .i64 o.kind) rfl)) ?_
 refine wpList_nil (X_then (hK19_ _ _ ?_))
 clear hK19_
 refine C_block ?_
 refine C_seq (fun K20_ hK20_ => C_reg ?_)
 refine sv (v := (vB (decide (o.kind = 1)))) (x_bin rfl rfl rfl) ?_
 refine sv (v := (vB (decide (o.kind = 1)))) (x_assign rfl) ?_
 refine wpList_nil (X_then (hK20_ _ _ ?_))
 clear hK20_
 refine C_cond (b := decide (o.kind = 1)) rfl (fun c21_t => ?_) (fun c21_f => ?_)
 ·have c21_tp : o.kind = 1 := of_decide_eq_true c21_t
  refine C_seq (fun K22_ hK22_ => ?_)
  refine C_seq (fun K23_ hK23_ => ?_)
  refine A_start (S := fun w => Rd b2_ [(vI .i64 o.kind), (vI .i64 o.rev_Main), (vI .i64 o.rev_Sub), (vI .i64 o.created_Main), (vI .i64 o.created_Sub), (vI .i64 o.ver), (vI .i64 o.at_)] w ∧ Sub R (hp w)) (N := 6) foll rfl rfl ?_
  have H24_ := Holds.drew_ H15_
  have hq25_ := And.intro (Holds.rd H24_ 2 rfl) ((Holds.ro_at H24_ 3 rfl))
  refine A_tk 0 (v := v) rfl (by kernel_rfl) (fun w hS => x_move rfl) hq25_ ?_
  refine A_tk 2 (v := (vP (some ⟨b2_, 1, none⟩))) rfl (by kernel_rfl) (fun w hS => by kernel_rfl) hq25_ ?_
  refine A_tk 3 (v := (vA #[(vI .i64 o.rev_Main), (vI .i64 o.rev_Sub)])) rfl (by kernel_rfl) (fun w hS => x_loadN (vs := [(vI .i64 o.rev_Main), (vI .i64 o.rev_Sub)]) rfl Try.underlying31 rfl z31 rfl (Rd.cells hS.1 1 rfl)) hq25_ ?_
  refine A_ready (i := 1) (rs := []) (by kernel_rfl) ?_
  refine AllR.cons ?_ AllR.nil
  have H27_ := ((Holds.bring H24_ 3 rfl) :)
  refine A_op (ls' := #[true, true, true, true, false, false]) rfl (by kernel_rfl) (T_call (al := [v]) (pre := []) rfl rfl cb17 (kModified R v L hL (by first | assumption | omega)) H27_ ?_)
  rintro v26_ p31_ w28_ ⟨rfl, rfl⟩ S30_ H29_
  have S32_ := Same.trans (Same.trans S17_ (Same.drew _)) S30_
  refine ⟨⟨Holds.rd H29_ 3 rfl, (Holds.ro_at H29_ 0 rfl)⟩, ?_⟩
  refine A_ready (i := 4) (rs := []) (by kernel_rfl) ?_
  refine AllR.cons ?_ AllR.nil
  refine A_op (ls' := #[true, true, true, true, true, false]) rfl (by kernel_rfl) (T_call (al := [(vA #[(vI .i64 ((vLast L).rev_Main)), (vI .i64 ((vLast L).rev_Sub))]), (vA #[(vI .i64 o.rev_Main), (vI .i64 o.rev_Sub)])]) (pre := []) rfl rfl cb26 (kLess R ((vLast L).rev_Main) ((vLast L).rev_Sub) o.rev_Main o.rev_Sub) H29_ ?_)
  rintro v33_ p37_ w34_ ⟨rfl, rfl⟩ S36_ H35_
  have S38_ := Same.trans S32_ S36_
  refine ⟨⟨Holds.rd H35_ 3 rfl, (Holds.ro_at H35_ 0 rfl)⟩, ?_⟩
  have hq39_ := And.intro (Holds.rd H35_ 3 rfl) ((Holds.ro_at H35_ 0 rfl))
  refine A_tk 5 (v := (vB (!(vLessB ((vLast L).rev_Main) ((vLast L).rev_Sub) o.rev_Main o.rev_Sub)))) rfl (by kernel_rfl) (fun w hS => x_not rfl) hq39_ ?_
  refine A_done (by kernel_rfl) ?_
  refine (X_then (hK23_ _ _ ?_))
  clear hK23_
  refine C_cond (b := !(vLessB ((vLast L).rev_Main) ((vLast L).rev_Sub) o.rev_Main o.rev_Sub)) rfl (fun c40_t => ?_) (fun c40_f => ?_)
  ·skip
   refine C_seq (fun K41_ hK41_ => ?_)
   refine A_start (S := fun w => Rd b13_ [(vB false), (vI .i64 0), (vI .i64 0), (vI .i64 0), (vI .i64 0), (vI .i64 0), (vS none 0 0), (vI .i64 0), (vI .i64 0), (vS none 0 0)] w ∧ Sub R (hp w)) (N := 5) foll rfl rfl ?_
   have H42_ := Holds.drew_ H35_
   have hq43_ := And.intro (Holds.rd H42_ 1 rfl) ((Holds.ro_at H42_ 0 rfl))
   refine A_tk 0 (v := v) rfl (by kernel_rfl) (fun w hS => x_move rfl) hq43_ ?_
   refine A_tk 1 (v := (vA #[(vB false), (vI .i64 0), (vI .i64 0), (vI .i64 0), (vI .i64 0), (vI .i64 0), (vS none 0 0), (vI .i64 0), (vI .i64 0), (vS none 0 0)])) rfl (by kernel_rfl) (fun w hS => x_loadN (vs := [(vB false), (vI .i64 0), (vI .i64 0), (vI .i64 0), (vI .i64 0), (vI .i64 0), (vS none 0 0), (vI .i64 0), (vI .i64 0), (vS none 0 0)]) rfl Try.underlying43 rfl z43 rfl (Rd.cells hS.1 0 rfl)) hq43_ ?_
   refine A_tk 2 (v := v) rfl (by kernel_rfl) (fun w hS => x_assign rfl) hq43_ ?_
   refine A_ready (i := 3) (rs := []) (by kernel_rfl) ?_
   refine AllR.cons ?_ AllR.nil
   refine A_op0 (ls' := #[true, true, true, true, false]) rfl (by kernel_rfl) (T_storeN (vs := [(vB false), (vI .i64 0), (vI .i64 0), (vI .i64 0), (vI .i64 0), (vI .i64 0), (vS none 0 0), (vI .i64 0), (vI .i64 0), (vS none 0 0)]) rfl rfl z43 rfl (by simp [Value.oneCell']) H42_ 2 rfl (Nat.le_of_ble_eq_true (by rfl)) ?_)
   intro w44_ S46_ H45_
   have S47_ := Same.trans (Same.trans S38_ (Same.drew _)) S46_
   refine ⟨⟨Holds.rd H45_ 1 rfl, (Holds.ro_at H45_ 0 rfl)⟩, ?_⟩
   have hq48_ := And.intro (Holds.rd H45_ 1 rfl) ((Holds.ro_at H45_ 0 rfl))
   refine A_tk 4 (v := (vB false)) rfl (by kernel_rfl) (fun w hS => x_assign rfl) hq48_ ?_
   refine A_done (by kernel_rfl) ?_
   refine (X_then (hK41_ _ _ ?_))
   clear hK41_
   refine C_ret (X_thenR (X_blkR (X_thenR ?_)))
   refine R_any (v := (vT #[v, (vA #[(vB false), (vI .i64 0), (vI .i64 0), (vI .i64 0), (vI .i64 0), (vI .i64 0), (vS none 0 0), (vI .i64 0), (vI .i64 0), (vS none 0 0)]), (vB false)])) (run_results3 rfl rfl ⟨_, rfl, load_resN Try.underlying43 rfl z43 rfl (vs := [(vB false), (vI .i64 0), (vI .i64 0), (vI .i64 0), (vI .i64 0), (vI .i64 0), (vS none 0 0), (vI .i64 0), (vI .i64 0), (vS none 0 0)]) (Holds.cl_cells H45_ 2 rfl 0 rfl)⟩ rfl) ?_
   have H49_ : Holds w44_ (ro R :: F) := (Holds.pkF H45_ [0] 3 :)
   exact ⟨R, _, _, rfl, (Sub.rfl' _), (.inr ⟨v, rfl, rfl, (kDo_putNo c21_tp (by simpa using c40_t))⟩), S47_, H49_⟩
  ·skip
   refine C_skip (X_then (hK22_ _ _ ?_))
   clear hK22_
   refine C_reg ?_
   refine sv (v := v) (x_move rfl) ?_
   refine sv (v := (vP (some ⟨b2_, 1, none⟩))) (by kernel_rfl) ?_
   refine sv (v := (vA #[(vI .i64 o.rev_Main), (vI .i64 o.rev_Sub)])) (x_loadN (vs := [(vI .i64 o.rev_Main), (vI .i64 o.rev_Sub)]) rfl Try.underlying31 rfl z31 rfl (Rd.cells (Holds.rd H35_ 3 rfl) 1 rfl)) ?_
   refine S_list (T_call (al := [v, (vA #[(vI .i64 o.rev_Main), (vI .i64 o.rev_Sub)])]) (pre := []) rfl rfl cb27 (kWritten R v L o.rev_Main o.rev_Sub hL (by first | assumption | omega) (by first | assumption | omega)) H35_ ?_)
   rintro v50_ p54_ w51_ ⟨_, rfl, rfl⟩ S53_ H52_
   have S55_ := Same.trans S38_ S53_
   refine sv (v := v50_) (x_assign rfl) ?_
   refine sv (v := (vP (some ⟨b13_, 0, none⟩))) (by kernel_rfl) ?_
   refine S_list0 (T_store1 (v := (vB true)) rfl rfl z4 rfl H52_ 2 rfl (Nat.le_of_ble_eq_true (by rfl)) ?_)
   intro w56_ S58_ H57_
   have S59_ := Same.trans S55_ S58_
   refine wpList_nil (X_blkN (X_then (hK18_ _ _ ?_)))
   clear hK18_
   refine C_seq (fun K60_ hK60_ => ?_)
   refine A_start (S := fun w => SlRd v50_ ((L ++ [vPut L o.rev_Main o.rev_Sub]).flatMap VR.cells) w ∧ Rd b13_ [(vB true), (vI .i64 0), (vI .i64 0), (vI .i64 0), (vI .i64 0), (vI .i64 0), (vS none 0 0), (vI .i64 0), (vI .i64 0), (vS none 0 0)] w ∧ Sub R (hp w)) (N := 5) foll rfl rfl ?_
   have H61_ := Holds.drew_ H57_
   have hq62_ := And.intro (Holds.slrd H61_ 1 rfl) (And.intro (Holds.rd H61_ 2 rfl) ((Holds.ro_at H61_ 0 rfl)))
   refine A_tk 0 (v := v50_) rfl (by kernel_rfl) (fun w hS => x_move rfl) hq62_ ?_
   refine A_tk 1 (v := (vA #[(vB true), (vI .i64 0), (vI .i64 0), (vI .i64 0), (vI .i64 0), (vI .i64 0), (vS none 0 0), (vI .i64 0), (vI .i64 0), (vS none 0 0)])) rfl (by kernel_rfl) (fun w hS => x_loadN (vs := [(vB true), (vI .i64 0), (vI .i64 0), (vI .i64 0), (vI .i64 0), (vI .i64 0), (vS none 0 0), (vI .i64 0), (vI .i64 0), (vS none 0 0)]) rfl Try.underlying43 rfl z43 rfl (Rd.cells hS.2.1 0 rfl)) hq62_ ?_
   refine A_tk 2 (v := v50_) rfl (by kernel_rfl) (fun w hS => x_assign rfl) hq62_ ?_
   refine A_ready (i := 3) (rs := []) (by kernel_rfl) ?_
   refine AllR.cons ?_ AllR.nil
   refine A_op0 (ls' := #[true, true, true, true, false]) rfl (by kernel_rfl) (T_storeN (vs := [(vB true), (vI .i64 0), (vI .i64 0), (vI .i64 0), (vI .i64 0), (vI .i64 0), (vS none 0 0), (vI .i64 0), (vI .i64 0), (vS none 0 0)]) rfl rfl z43 rfl (by simp [Value.oneCell']) H61_ 3 rfl (Nat.le_of_ble_eq_true (by rfl)) ?_)
   intro w63_ S65_ H64_
   have S66_ := Same.trans (Same.trans S59_ (Same.drew _)) S65_
   refine ⟨⟨Holds.slrd H64_ 1 rfl, Holds.rd H64_ 2 rfl, (Holds.ro_at H64_ 0 rfl)⟩, ?_⟩
   have hq67_ := And.intro (Holds.slrd H64_ 1 rfl) (And.intro (Holds.rd H64_ 2 rfl) ((Holds.ro_at H64_ 0 rfl)))
   refine A_tk 4 (v := (vB true)) rfl (by kernel_rfl) (fun w hS => x_assign rfl) hq67_ ?_
   refine A_done (by kernel_rfl) ?_
   refine (X_then (hK60_ _ _ ?_))
   clear hK60_
   refine C_ret ?_
   refine R_any (v := (vT #[v50_, (vA #[(vB true), (vI .i64 0), (vI .i64 0), (vI .i64 0), (vI .i64 0), (vI .i64 0), (vS none 0 0), (vI .i64 0), (vI .i64 0), (vS none 0 0)]), (vB true)])) (run_results3 rfl rfl ⟨_, rfl, load_resN Try.underlying43 rfl z43 rfl (vs := [(vB true), (vI .i64 0), (vI .i64 0), (vI .i64 0), (vI .i64 0), (vI .i64 0), (vS none 0 0), (vI .i64 0), (vI .i64 0), (vS none 0 0)]) (Holds.cl_cells H64_ 3 rfl 0 rfl)⟩ rfl) ?_
   obtain ⟨R68_, hs69_, ⟨R70_, ha71_, hs72_⟩, H73_⟩ := Holds.gift H64_
   have hr74_ : RS R68_ 6 v50_ (List.length (L ++ [vPut L o.rev_Main o.rev_Sub])) ((L ++ [vPut L o.rev_Main o.rev_Sub]).flatMap VR.cells) := (sl_RS ha71_ (Sub.rfl' _)).mono hs72_
   have H75_ : Holds w63_ (ro R68_ :: F) := (Holds.pkF H73_ [0] 3 :)
   exact ⟨R68_, _, _, rfl, hs69_, (.inl ⟨v50_, (vS none 0 0), true, 0, 0, 0, 0, 0, (L ++ [vPut L o.rev_Main o.rev_Sub]), (([] : List RV)), (congrArg (fun l => vT (List.toArray l)) (lcons rfl (lcons (congrArg (fun l => vA (List.toArray l)) (lcons rfl (lcons rfl (lcons rfl (lcons rfl (lcons rfl (lcons rfl (lcons (rfl : (vS none 0 0) = ((vS none 0 0))) rfl)))))))) rfl))), rfl, (kDo_put c21_tp (by simpa using c40_f)), (hr74_), (RS.nil _ _)⟩), S66_, H75_⟩
 ·have c21_fp : ¬ (o.kind = 1) := of_decide_eq_false c21_f
  refine C_seq (fun K76_ hK76_ => C_reg ?_)
  refine sv (v := (vB (decide (o.kind = 2)))) (x_bin rfl rfl rfl) ?_
  refine sv (v := (vB (decide (o.kind = 2)))) (x_assign rfl) ?_
  refine wpList_nil (X_then (hK76_ _ _ ?_))
  clear hK76_
  refine C_cond (b := decide (o.kind = 2)) rfl (fun c77_t => ?_) (fun c77_f => ?_)
  ·have c77_tp : o.kind = 2 := of_decide_eq_true c77_t
   refine C_seq (fun K78_ hK78_ => C_reg ?_)
   refine sv (v := v) (x_move rfl) ?_
   have H80_ := ((Holds.bring H15_ 3 rfl) :)
   refine S_list (T_call (al := [v]) (pre := []) rfl rfl cb16 (kLives R v L hL (by first | assumption | omega)) H80_ ?_)
   rintro v79_ p84_ w81_ ⟨rfl, rfl⟩ S83_ H82_
   have S85_ := Same.trans S17_ S83_
   refine sv (v := (vP (some ⟨b13_, 0, none⟩))) (by kernel_rfl) ?_
   refine S_list0 (T_store1 (v := (vB (!(vLast L).gone))) rfl rfl z4 rfl H82_ 1 rfl (Nat.le_of_ble_eq_true (by rfl)) ?_)
   intro w86_ S88_ H87_
   have S89_ := Same.trans S85_ S88_
   refine wpList_nil (X_then (hK78_ _ _ ?_))
   clear hK78_
   refine C_seq (fun K90_ hK90_ => C_reg ?_)
   refine sv (v := (vP (some ⟨b13_, 0, none⟩))) (by kernel_rfl) ?_
   refine sv (v := (vB (!(vLast L).gone))) (x_load1 rfl Try.underlying4 rfl ((Holds.rd H87_ 1 rfl) 0 (vB (!(vLast L).gone)) rfl)) ?_
   refine wpList_nil (X_then (hK90_ _ _ ?_))
   clear hK90_
   refine C_cond (b := !(vLast L).gone) rfl (fun c91_t => ?_) (fun c91_f => ?_)
   ·skip
    have h0_ := vLast_pos c91_t
    refine C_seq (fun K92_ hK92_ => ?_)
    refine C_seq (fun K93_ hK93_ => ?_)
    refine A_start (S := fun w => Rd b2_ [(vI .i64 o.kind), (vI .i64 o.rev_Main), (vI .i64 o.rev_Sub), (vI .i64 o.created_Main), (vI .i64 o.created_Sub), (vI .i64 o.ver), (vI .i64 o.at_)] w ∧ Sub R (hp w)) (N := 6) foll rfl rfl ?_
    have H94_ := Holds.drew_ H87_
    have hq95_ := And.intro (Holds.rd H94_ 3 rfl) ((Holds.ro_at H94_ 0 rfl))
    refine A_tk 0 (v := v) rfl (by kernel_rfl) (fun w hS => x_move rfl) hq95_ ?_
    refine A_tk 2 (v := (vP (some ⟨b2_, 1, none⟩))) rfl (by kernel_rfl) (fun w hS => by kernel_rfl) hq95_ ?_
    refine A_tk 3 (v := (vA #[(vI .i64 o.rev_Main), (vI .i64 o.rev_Sub)])) rfl (by kernel_rfl) (fun w hS => x_loadN (vs := [(vI .i64 o.rev_Main), (vI .i64 o.rev_Sub)]) rfl Try.underlying31 rfl z31 rfl (Rd.cells hS.1 1 rfl)) hq95_ ?_
    refine A_ready (i := 1) (rs := []) (by kernel_rfl) ?_
    refine AllR.cons ?_ AllR.nil
    refine A_op (ls' := #[true, true, true, true, false, false]) rfl (by kernel_rfl) (T_call (al := [v]) (pre := []) rfl rfl cb17 (kModified R v L hL (by first | assumption | omega)) H94_ ?_)
    rintro v96_ p100_ w97_ ⟨rfl, rfl⟩ S99_ H98_
    have S101_ := Same.trans (Same.trans S89_ (Same.drew _)) S99_
    refine ⟨⟨Holds.rd H98_ 3 rfl, (Holds.ro_at H98_ 0 rfl)⟩, ?_⟩
    refine A_ready (i := 4) (rs := []) (by kernel_rfl) ?_
    refine AllR.cons ?_ AllR.nil
    refine A_op (ls' := #[true, true, true, true, true, false]) rfl (by kernel_rfl) (T_call (al := [(vA #[(vI .i64 ((vLast L).rev_Main)), (vI .i64 ((vLast L).rev_Sub))]), (vA #[(vI .i64 o.rev_Main), (vI .i64 o.rev_Sub)])]) (pre := []) rfl rfl cb26 (kLess R ((vLast L).rev_Main) ((vLast L).rev_Sub) o.rev_Main o.rev_Sub) H98_ ?_)
    rintro v102_ p106_ w103_ ⟨rfl, rfl⟩ S105_ H104_
    have S107_ := Same.trans S101_ S105_
    refine ⟨⟨Holds.rd H104_ 3 rfl, (Holds.ro_at H104_ 0 rfl)⟩, ?_⟩
    have hq108_ := And.intro (Holds.rd H104_ 3 rfl) ((Holds.ro_at H104_ 0 rfl))
    refine A_tk 5 (v := (vB (!(vLessB ((vLast L).rev_Main) ((vLast L).rev_Sub) o.rev_Main o.rev_Sub)))) rfl (by kernel_rfl) (fun w hS => x_not rfl) hq108_ ?_
    refine A_done (by kernel_rfl) ?_
    refine (X_then (hK93_ _ _ ?_))
    clear hK93_
    refine C_cond (b := !(vLessB ((vLast L).rev_Main) ((vLast L).rev_Sub) o.rev_Main o.rev_Sub)) rfl (fun c109_t => ?_) (fun c109_f => ?_)
    ·skip
     refine C_seq (fun K110_ hK110_ => C_reg ?_)
     refine sv (v := v) (x_move rfl) ?_
     refine sv (v := (vA #[(vB false), (vI .i64 0), (vI .i64 0), (vI .i64 0), (vI .i64 0), (vI .i64 0), (vS none 0 0), (vI .i64 0), (vI .i64 0), (vS none 0 0)])) (by kernel_rfl) ?_
     refine sv (v := v) (x_assign rfl) ?_
     refine S_list0 (T_storeN (vs := [(vB false), (vI .i64 0), (vI .i64 0), (vI .i64 0), (vI .i64 0), (vI .i64 0), (vS none 0 0), (vI .i64 0), (vI .i64 0), (vS none 0 0)]) rfl rfl z43 rfl (by simp [Value.oneCell']) H104_ 2 rfl (Nat.le_of_ble_eq_true (by rfl)) ?_)
     intro w111_ S113_ H112_
     have S114_ := Same.trans S107_ S113_
     refine sv (v := (vB false)) (x_assign rfl) ?_
     refine wpList_nil (X_then (hK110_ _ _ ?_))
     clear hK110_
     refine C_ret (X_thenR (X_blkR (X_thenR ?_)))
     refine R_any (v := (vT #[v, (vA #[(vB false), (vI .i64 0), (vI .i64 0), (vI .i64 0), (vI .i64 0), (vI .i64 0), (vS none 0 0), (vI .i64 0), (vI .i64 0), (vS none 0 0)]), (vB false)])) (run_results3 rfl rfl ⟨_, rfl, load_resN Try.underlying43 rfl z43 rfl (vs := [(vB false), (vI .i64 0), (vI .i64 0), (vI .i64 0), (vI .i64 0), (vI .i64 0), (vS none 0 0), (vI .i64 0), (vI .i64 0), (vS none 0 0)]) (Holds.cl_cells H112_ 2 rfl 0 rfl)⟩ rfl) ?_
     have H115_ : Holds w111_ (ro R :: F) := (Holds.pkF H112_ [0] 3 :)
     exact ⟨R, _, _, rfl, (Sub.rfl' _), (.inr ⟨v, rfl, rfl, (kDo_endNo c77_tp (by simpa using c91_t) (by simpa using c109_t))⟩), S114_, H115_⟩
    ·skip
     refine C_skip (X_then (hK92_ _ _ ?_))
     clear hK92_
     refine C_reg ?_
     refine sv (v := v) (x_move rfl) ?_
     refine sv (v := (vP (some ⟨b2_, 1, none⟩))) (by kernel_rfl) ?_
     refine sv (v := (vA #[(vI .i64 o.rev_Main), (vI .i64 o.rev_Sub)])) (x_loadN (vs := [(vI .i64 o.rev_Main), (vI .i64 o.rev_Sub)]) rfl Try.underlying31 rfl z31 rfl (Rd.cells (Holds.rd H104_ 3 rfl) 1 rfl)) ?_
     refine S_list (T_call (al := [v, (vA #[(vI .i64 o.rev_Main), (vI .i64 o.rev_Sub)])]) (pre := []) rfl rfl cb28 (kEnded R v L o.rev_Main o.rev_Sub hL (by first | assumption | omega) (by first | assumption | omega) (by first | assumption | omega)) H104_ ?_)
     rintro v116_ p120_ w117_ ⟨_, rfl, rfl⟩ S119_ H118_
     have S121_ := Same.trans S107_ S119_
     refine sv (v := v116_) (x_assign rfl) ?_
     refine wpList_nil (X_blkN (X_then (hK18_ _ _ ?_)))
     clear hK18_
     refine C_seq (fun K122_ hK122_ => ?_)
     refine A_start (S := fun w => SlRd v116_ ((L ++ [vEnd L o.rev_Main o.rev_Sub]).flatMap VR.cells) w ∧ Rd b13_ [(vB (!(vLast L).gone)), (vI .i64 0), (vI .i64 0), (vI .i64 0), (vI .i64 0), (vI .i64 0), (vS none 0 0), (vI .i64 0), (vI .i64 0), (vS none 0 0)] w ∧ Sub R (hp w)) (N := 5) foll rfl rfl ?_
     have H123_ := Holds.drew_ H118_
     have hq124_ := And.intro (Holds.slrd H123_ 1 rfl) (And.intro (Holds.rd H123_ 2 rfl) ((Holds.ro_at H123_ 0 rfl)))
     refine A_tk 0 (v := v116_) rfl (by kernel_rfl) (fun w hS => x_move rfl) hq124_ ?_
     refine A_tk 1 (v := (vA #[(vB (!(vLast L).gone)), (vI .i64 0), (vI .i64 0), (vI .i64 0), (vI .i64 0), (vI .i64 0), (vS none 0 0), (vI .i64 0), (vI .i64 0), (vS none 0 0)])) rfl (by kernel_rfl) (fun w hS => x_loadN (vs := [(vB (!(vLast L).gone)), (vI .i64 0), (vI .i64 0), (vI .i64 0), (vI .i64 0), (vI .i64 0), (vS none 0 0), (vI .i64 0), (vI .i64 0), (vS none 0 0)]) rfl Try.underlying43 rfl z43 rfl (Rd.cells hS.2.1 0 rfl)) hq124_ ?_
     refine A_tk 2 (v := v116_) rfl (by kernel_rfl) (fun w hS => x_assign rfl) hq124_ ?_
     refine A_ready (i := 3) (rs := []) (by kernel_rfl) ?_
     refine AllR.cons ?_ AllR.nil
     refine A_op0 (ls' := #[true, true, true, true, false]) rfl (by kernel_rfl) (T_storeN (vs := [(vB (!(vLast L).gone)), (vI .i64 0), (vI .i64 0), (vI .i64 0), (vI .i64 0), (vI .i64 0), (vS none 0 0), (vI .i64 0), (vI .i64 0), (vS none 0 0)]) rfl rfl z43 rfl (by simp [Value.oneCell']) H123_ 3 rfl (Nat.le_of_ble_eq_true (by rfl)) ?_)
     intro w125_ S127_ H126_
     have S128_ := Same.trans (Same.trans S121_ (Same.drew _)) S127_
     refine ⟨⟨Holds.slrd H126_ 1 rfl, Holds.rd H126_ 2 rfl, (Holds.ro_at H126_ 0 rfl)⟩, ?_⟩
     have hq129_ := And.intro (Holds.slrd H126_ 1 rfl) (And.intro (Holds.rd H126_ 2 rfl) ((Holds.ro_at H126_ 0 rfl)))
     refine A_tk 4 (v := (vB true)) rfl (by kernel_rfl) (fun w hS => x_assign rfl) hq129_ ?_
     refine A_done (by kernel_rfl) ?_
     refine (X_then (hK122_ _ _ ?_))
     clear hK122_
     refine C_ret ?_
     refine R_any (v := (vT #[v116_, (vA #[(vB (!(vLast L).gone)), (vI .i64 0), (vI .i64 0), (vI .i64 0), (vI .i64 0), (vI .i64 0), (vS none 0 0), (vI .i64 0), (vI .i64 0), (vS none 0 0)]), (vB true)])) (run_results3 rfl rfl ⟨_, rfl, load_resN Try.underlying43 rfl z43 rfl (vs := [(vB (!(vLast L).gone)), (vI .i64 0), (vI .i64 0), (vI .i64 0), (vI .i64 0), (vI .i64 0), (vS none 0 0), (vI .i64 0), (vI .i64 0), (vS none 0 0)]) (Holds.cl_cells H126_ 3 rfl 0 rfl)⟩ rfl) ?_
     obtain ⟨R130_, hs131_, ⟨R132_, ha133_, hs134_⟩, H135_⟩ := Holds.gift H126_
     have hr136_ : RS R130_ 6 v116_ (List.length (L ++ [vEnd L o.rev_Main o.rev_Sub])) ((L ++ [vEnd L o.rev_Main o.rev_Sub]).flatMap VR.cells) := (sl_RS ha133_ (Sub.rfl' _)).mono hs134_
     have H137_ : Holds w125_ (ro R130_ :: F) := (Holds.pkF H135_ [0] 3 :)
     exact ⟨R130_, _, _, rfl, hs131_, (.inl ⟨v116_, (vS none 0 0), !(vLast L).gone, 0, 0, 0, 0, 0, (L ++ [vEnd L o.rev_Main o.rev_Sub]), (([] : List RV)), (congrArg (fun l => vT (List.toArray l)) (lcons rfl (lcons (congrArg (fun l => vA (List.toArray l)) (lcons rfl (lcons rfl (lcons rfl (lcons rfl (lcons rfl (lcons rfl (lcons (rfl : (vS none 0 0) = ((vS none 0 0))) rfl)))))))) rfl))), rfl, (by rw [c91_t]; exact kDo_end c77_tp (by simpa using c91_t) (by simpa using c109_f)), (hr136_), (RS.nil _ _)⟩), S128_, H137_⟩
   ·skip
    refine C_skip (X_blkN (X_then (hK18_ _ _ ?_)))
    clear hK18_
    refine C_seq (fun K138_ hK138_ => ?_)
    refine A_start (S := fun w => Rd b13_ [(vB (!(vLast L).gone)), (vI .i64 0), (vI .i64 0), (vI .i64 0), (vI .i64 0), (vI .i64 0), (vS none 0 0), (vI .i64 0), (vI .i64 0), (vS none 0 0)] w ∧ Sub R (hp w)) (N := 5) foll rfl rfl ?_
    have H139_ := Holds.drew_ H87_
    have hq140_ := And.intro (Holds.rd H139_ 1 rfl) ((Holds.ro_at H139_ 0 rfl))
    refine A_tk 0 (v := v) rfl (by kernel_rfl) (fun w hS => x_move rfl) hq140_ ?_
    refine A_tk 1 (v := (vA #[(vB (!(vLast L).gone)), (vI .i64 0), (vI .i64 0), (vI .i64 0), (vI .i64 0), (vI .i64 0), (vS none 0 0), (vI .i64 0), (vI .i64 0), (vS none 0 0)])) rfl (by kernel_rfl) (fun w hS => x_loadN (vs := [(vB (!(vLast L).gone)), (vI .i64 0), (vI .i64 0), (vI .i64 0), (vI .i64 0), (vI .i64 0), (vS none 0 0), (vI .i64 0), (vI .i64 0), (vS none 0 0)]) rfl Try.underlying43 rfl z43 rfl (Rd.cells hS.1 0 rfl)) hq140_ ?_
    refine A_tk 2 (v := v) rfl (by kernel_rfl) (fun w hS => x_assign rfl) hq140_ ?_
    refine A_ready (i := 3) (rs := []) (by kernel_rfl) ?_
    refine AllR.cons ?_ AllR.nil
    refine A_op0 (ls' := #[true, true, true, true, false]) rfl (by kernel_rfl) (T_storeN (vs := [(vB (!(vLast L).gone)), (vI .i64 0), (vI .i64 0), (vI .i64 0), (vI .i64 0), (vI .i64 0), (vS none 0 0), (vI .i64 0), (vI .i64 0), (vS none 0 0)]) rfl rfl z43 rfl (by simp [Value.oneCell']) H139_ 2 rfl (Nat.le_of_ble_eq_true (by rfl)) ?_)
    intro w141_ S143_ H142_
    have S144_ := Same.trans (Same.trans S89_ (Same.drew _)) S143_
    refine ⟨⟨Holds.rd H142_ 1 rfl, (Holds.ro_at H142_ 0 rfl)⟩, ?_⟩
    have hq145_ := And.intro (Holds.rd H142_ 1 rfl) ((Holds.ro_at H142_ 0 rfl))
    refine A_tk 4 (v := (vB true)) rfl (by kernel_rfl) (fun w hS => x_assign rfl) hq145_ ?_
    refine A_done (by kernel_rfl) ?_
    refine (X_then (hK138_ _ _ ?_))
    clear hK138_
    refine C_ret ?_
    refine R_any (v := (vT #[v, (vA #[(vB (!(vLast L).gone)), (vI .i64 0), (vI .i64 0), (vI .i64 0), (vI .i64 0), (vI .i64 0), (vS none 0 0), (vI .i64 0), (vI .i64 0), (vS none 0 0)]), (vB true)])) (run_results3 rfl rfl ⟨_, rfl, load_resN Try.underlying43 rfl z43 rfl (vs := [(vB (!(vLast L).gone)), (vI .i64 0), (vI .i64 0), (vI .i64 0), (vI .i64 0), (vI .i64 0), (vS none 0 0), (vI .i64 0), (vI .i64 0), (vS none 0 0)]) (Holds.cl_cells H142_ 2 rfl 0 rfl)⟩ rfl) ?_
    have H146_ : Holds w141_ (ro R :: F) := (Holds.pkF H142_ [0] 3 :)
    exact ⟨R, _, _, rfl, (Sub.rfl' _), (.inl ⟨v, (vS none 0 0), !(vLast L).gone, 0, 0, 0, 0, 0, (L), (([] : List RV)), (congrArg (fun l => vT (List.toArray l)) (lcons rfl (lcons (congrArg (fun l => vA (List.toArray l)) (lcons rfl (lcons rfl (lcons rfl (lcons rfl (lcons rfl (lcons rfl (lcons (rfl : (vS none 0 0) = ((vS none 0 0))) rfl)))))))) rfl))), rfl, (by rw [c91_f]; exact kDo_endGone c77_tp (by simpa using c91_f)), (hL), (RS.nil _ _)⟩), S144_, H146_⟩
  ·have c77_fp : ¬ (o.kind = 2) := of_decide_eq_false c77_f
   refine C_seq (fun K147_ hK147_ => C_reg ?_)
   refine sv (v := (vB (decide (o.kind = 5)))) (x_bin rfl rfl rfl) ?_
   refine sv (v := (vB (decide (o.kind = 5)))) (x_assign rfl) ?_
   refine wpList_nil (X_then (hK147_ _ _ ?_))
   clear hK147_
   refine C_cond (b := decide (o.kind = 5)) rfl (fun c148_t => ?_) (fun c148_f => ?_)
   ·have c148_tp : o.kind = 5 := of_decide_eq_true c148_t
    refine C_seq (fun K149_ hK149_ => C_reg ?_)
    refine sv (v := v) (x_move rfl) ?_
    refine sv (v := (vP (some ⟨b2_, 6, none⟩))) (by kernel_rfl) ?_
    refine sv (v := (vI .i64 o.at_)) (x_load1 rfl Try.underlying2 rfl ((Holds.rd H15_ 2 rfl) 6 (vI .i64 o.at_) rfl)) ?_
    have H151_ := ((Holds.bring H15_ 3 rfl) :)
    refine S_list (T_call (al := [v, (vI .i64 o.at_)]) (pre := []) rfl rfl cb29 (kHolds R v L o.at_ hL (by first | assumption | omega)) H151_ ?_)
    rintro v150_ p155_ w152_ ⟨rfl, rfl⟩ S154_ H153_
    have S156_ := Same.trans S17_ S154_
    refine sv (v := (vT #[(vA #[(vI .i64 ((vHold L o.at_).rev_Main)), (vI .i64 ((vHold L o.at_).rev_Sub)), (vI .i64 ((vHold L o.at_).created_Main)), (vI .i64 ((vHold L o.at_).created_Sub)), (vI .i64 ((vHold L o.at_).ver)), (vB ((vHold L o.at_).gone))]), (vB (vHoldB L o.at_))])) (x_move rfl) ?_
    refine sv (v := (vA #[(vI .i64 ((vHold L o.at_).rev_Main)), (vI .i64 ((vHold L o.at_).rev_Sub)), (vI .i64 ((vHold L o.at_).created_Main)), (vI .i64 ((vHold L o.at_).created_Sub)), (vI .i64 ((vHold L o.at_).ver)), (vB ((vHold L o.at_).gone))])) (by kernel_rfl) ?_
    refine sv (v := (vB (vHoldB L o.at_))) (by kernel_rfl) ?_
    refine S_list (T_alloc z66 H153_ ?_)
    intro b157_ w158_ S160_ H159_
    have S161_ := Same.trans S156_ S160_
    refine S_list0 (T_storeN (vs := [(vI .i64 ((vHold L o.at_).rev_Main)), (vI .i64 ((vHold L o.at_).rev_Sub)), (vI .i64 ((vHold L o.at_).created_Main)), (vI .i64 ((vHold L o.at_).created_Sub)), (vI .i64 ((vHold L o.at_).ver)), (vB ((vHold L o.at_).gone))]) rfl rfl z66 rfl (by simp [Value.oneCell']) H159_ 0 rfl (Nat.le_of_ble_eq_true (by rfl)) ?_)
    intro w162_ S164_ H163_
    have S165_ := Same.trans S161_ S164_
    refine sv (v := (vB (vHoldB L o.at_))) (x_assign rfl) ?_
    refine wpList_nil (X_then (hK149_ _ _ ?_))
    clear hK149_
    refine C_reg ?_
    refine sv (v := (vB (vHoldB L o.at_))) (x_move rfl) ?_
    refine sv (v := (vP (some ⟨b157_, 0, none⟩))) (by kernel_rfl) ?_
    refine sv (v := (vA #[(vI .i64 ((vHold L o.at_).rev_Main)), (vI .i64 ((vHold L o.at_).rev_Sub))])) (x_loadN (vs := [(vI .i64 ((vHold L o.at_).rev_Main)), (vI .i64 ((vHold L o.at_).rev_Sub))]) rfl Try.underlying31 rfl z31 rfl (Rd.cells (Holds.rd H163_ 0 rfl) 0 rfl)) ?_
    refine sv (v := (vP (some ⟨b157_, 2, none⟩))) (by kernel_rfl) ?_
    refine sv (v := (vA #[(vI .i64 ((vHold L o.at_).created_Main)), (vI .i64 ((vHold L o.at_).created_Sub))])) (x_loadN (vs := [(vI .i64 ((vHold L o.at_).created_Main)), (vI .i64 ((vHold L o.at_).created_Sub))]) rfl Try.underlying31 rfl z31 rfl (Rd.cells (Holds.rd H163_ 0 rfl) 2 rfl)) ?_
    refine sv (v := (vP (some ⟨b157_, 4, none⟩))) (by kernel_rfl) ?_
    refine sv (v := (vI .i64 ((vHold L o.at_).ver))) (x_load1 rfl Try.underlying2 rfl ((Holds.rd H163_ 0 rfl) 4 (vI .i64 ((vHold L o.at_).ver)) rfl)) ?_
    refine sv (v := (vA #[(vB (vHoldB L o.at_)), (vI .i64 ((vHold L o.at_).rev_Main)), (vI .i64 ((vHold L o.at_).rev_Sub)), (vI .i64 ((vHold L o.at_).created_Main)), (vI .i64 ((vHold L o.at_).created_Sub)), (vI .i64 ((vHold L o.at_).ver)), (vS none 0 0), (vI .i64 0), (vI .i64 0), (vS none 0 0)])) (by kernel_rfl) ?_
    refine S_list0 (T_storeN (vs := [(vB (vHoldB L o.at_)), (vI .i64 ((vHold L o.at_).rev_Main)), (vI .i64 ((vHold L o.at_).rev_Sub)), (vI .i64 ((vHold L o.at_).created_Main)), (vI .i64 ((vHold L o.at_).created_Sub)), (vI .i64 ((vHold L o.at_).ver)), (vS none 0 0), (vI .i64 0), (vI .i64 0), (vS none 0 0)]) rfl rfl z43 rfl (by simp [Value.oneCell']) H163_ 2 rfl (Nat.le_of_ble_eq_true (by rfl)) ?_)
    intro w166_ S168_ H167_
    have S169_ := Same.trans S165_ S168_
    refine wpList_nil (X_blkN (X_then (hK18_ _ _ ?_)))
    clear hK18_
    refine C_seq (fun K170_ hK170_ => ?_)
    refine A_start (S := fun w => Rd b13_ [(vB (vHoldB L o.at_)), (vI .i64 ((vHold L o.at_).rev_Main)), (vI .i64 ((vHold L o.at_).rev_Sub)), (vI .i64 ((vHold L o.at_).created_Main)), (vI .i64 ((vHold L o.at_).created_Sub)), (vI .i64 ((vHold L o.at_).ver)), (vS none 0 0), (vI .i64 0), (vI .i64 0), (vS none 0 0)] w ∧ Sub R (hp w)) (N := 5) foll rfl rfl ?_
    have H171_ := Holds.drew_ H167_
    have hq172_ := And.intro (Holds.rd H171_ 2 rfl) ((Holds.ro_at H171_ 1 rfl))
    refine A_tk 0 (v := v) rfl (by kernel_rfl) (fun w hS => x_move rfl) hq172_ ?_
    refine A_tk 1 (v := (vA #[(vB (vHoldB L o.at_)), (vI .i64 ((vHold L o.at_).rev_Main)), (vI .i64 ((vHold L o.at_).rev_Sub)), (vI .i64 ((vHold L o.at_).created_Main)), (vI .i64 ((vHold L o.at_).created_Sub)), (vI .i64 ((vHold L o.at_).ver)), (vS none 0 0), (vI .i64 0), (vI .i64 0), (vS none 0 0)])) rfl (by kernel_rfl) (fun w hS => x_loadN (vs := [(vB (vHoldB L o.at_)), (vI .i64 ((vHold L o.at_).rev_Main)), (vI .i64 ((vHold L o.at_).rev_Sub)), (vI .i64 ((vHold L o.at_).created_Main)), (vI .i64 ((vHold L o.at_).created_Sub)), (vI .i64 ((vHold L o.at_).ver)), (vS none 0 0), (vI .i64 0), (vI .i64 0), (vS none 0 0)]) rfl Try.underlying43 rfl z43 rfl (Rd.cells hS.1 0 rfl)) hq172_ ?_
    refine A_tk 2 (v := v) rfl (by kernel_rfl) (fun w hS => x_assign rfl) hq172_ ?_
    refine A_ready (i := 3) (rs := []) (by kernel_rfl) ?_
    refine AllR.cons ?_ AllR.nil
    refine A_op0 (ls' := #[true, true, true, true, false]) rfl (by kernel_rfl) (T_storeN (vs := [(vB (vHoldB L o.at_)), (vI .i64 ((vHold L o.at_).rev_Main)), (vI .i64 ((vHold L o.at_).rev_Sub)), (vI .i64 ((vHold L o.at_).created_Main)), (vI .i64 ((vHold L o.at_).created_Sub)), (vI .i64 ((vHold L o.at_).ver)), (vS none 0 0), (vI .i64 0), (vI .i64 0), (vS none 0 0)]) rfl rfl z43 rfl (by simp [Value.oneCell']) H171_ 3 rfl (Nat.le_of_ble_eq_true (by rfl)) ?_)
    intro w173_ S175_ H174_
    have S176_ := Same.trans (Same.trans S169_ (Same.drew _)) S175_
    refine ⟨⟨Holds.rd H174_ 2 rfl, (Holds.ro_at H174_ 1 rfl)⟩, ?_⟩
    have hq177_ := And.intro (Holds.rd H174_ 2 rfl) ((Holds.ro_at H174_ 1 rfl))
    refine A_tk 4 (v := (vB true)) rfl (by kernel_rfl) (fun w hS => x_assign rfl) hq177_ ?_
    refine A_done (by kernel_rfl) ?_
    refine (X_then (hK170_ _ _ ?_))
    clear hK170_
    refine C_ret ?_
    refine R_any (v := (vT #[v, (vA #[(vB (vHoldB L o.at_)), (vI .i64 ((vHold L o.at_).rev_Main)), (vI .i64 ((vHold L o.at_).rev_Sub)), (vI .i64 ((vHold L o.at_).created_Main)), (vI .i64 ((vHold L o.at_).created_Sub)), (vI .i64 ((vHold L o.at_).ver)), (vS none 0 0), (vI .i64 0), (vI .i64 0), (vS none 0 0)]), (vB true)])) (run_results3 rfl rfl ⟨_, rfl, load_resN Try.underlying43 rfl z43 rfl (vs := [(vB (vHoldB L o.at_)), (vI .i64 ((vHold L o.at_).rev_Main)), (vI .i64 ((vHold L o.at_).rev_Sub)), (vI .i64 ((vHold L o.at_).created_Main)), (vI .i64 ((vHold L o.at_).created_Sub)), (vI .i64 ((vHold L o.at_).ver)), (vS none 0 0), (vI .i64 0), (vI .i64 0), (vS none 0 0)]) (Holds.cl_cells H174_ 3 rfl 0 rfl)⟩ rfl) ?_
    have H178_ : Holds w173_ (ro R :: F) := (Holds.pkF H174_ [1] 4 :)
    exact ⟨R, _, _, rfl, (Sub.rfl' _), (.inl ⟨v, (vS none 0 0), vHoldB L o.at_, (vHold L o.at_).rev_Main, (vHold L o.at_).rev_Sub, (vHold L o.at_).created_Main, (vHold L o.at_).created_Sub, (vHold L o.at_).ver, (L), (([] : List RV)), (congrArg (fun l => vT (List.toArray l)) (lcons rfl (lcons (congrArg (fun l => vA (List.toArray l)) (lcons rfl (lcons rfl (lcons rfl (lcons rfl (lcons rfl (lcons rfl (lcons (rfl : (vS none 0 0) = ((vS none 0 0))) rfl)))))))) rfl))), rfl, (kDo_get c148_tp), (hL), (RS.nil _ _)⟩), S176_, H178_⟩
   ·have c148_fp : ¬ (o.kind = 5) := of_decide_eq_false c148_f
    refine C_seq (fun K179_ hK179_ => C_reg ?_)
    refine sv (v := (vB (decide (o.kind = 6)))) (x_bin rfl rfl rfl) ?_
    refine sv (v := (vB (decide (o.kind = 6)))) (x_assign rfl) ?_
    refine wpList_nil (X_then (hK179_ _ _ ?_))
    clear hK179_
    refine C_cond (b := decide (o.kind = 6)) rfl (fun c180_t => ?_) (fun c180_f => ?_)
    ·have c180_tp : o.kind = 6 := of_decide_eq_true c180_t
     refine C_reg ?_
     refine sv (v := v) (x_move rfl) ?_
     refine sv (v := (vP (some ⟨b2_, 6, none⟩))) (by kernel_rfl) ?_
     refine sv (v := (vI .i64 o.at_)) (x_load1 rfl Try.underlying2 rfl ((Holds.rd H15_ 2 rfl) 6 (vI .i64 o.at_) rfl)) ?_
     have H182_ := ((Holds.bring H15_ 3 rfl) :)
     refine S_list (T_call (al := [v, (vI .i64 o.at_)]) (pre := []) rfl rfl cb12 (kSince R v L o.at_ hL (by first | assumption | omega)) H182_ ?_)
     rintro v181_ p186_ w183_ ⟨_, rfl, rfl⟩ S185_ H184_
     have S187_ := Same.trans S17_ S185_
     refine sv (v := (vP (some ⟨b13_, 6, none⟩))) (by kernel_rfl) ?_
     refine S_list0 (T_store1 (v := v181_) rfl rfl z41 (Holds.sl_one H184_ 1 rfl) H184_ 2 rfl (Nat.le_of_ble_eq_true (by rfl)) ?_)
     intro w188_ S190_ H189_
     have S191_ := Same.trans S187_ S190_
     refine wpList_nil (X_blkN (X_then (hK18_ _ _ ?_)))
     clear hK18_
     refine C_seq (fun K192_ hK192_ => ?_)
     refine A_start (S := fun w => SlRd v181_ (((vSieve L (vSinceP L o.at_) L.length).map VR.rv).flatMap RV.cells) w ∧ Rd b13_ [(vB false), (vI .i64 0), (vI .i64 0), (vI .i64 0), (vI .i64 0), (vI .i64 0), v181_, (vI .i64 0), (vI .i64 0), (vS none 0 0)] w ∧ Sub R (hp w)) (N := 5) foll rfl rfl ?_
     have H193_ := Holds.drew_ H189_
     have hq194_ := And.intro (Holds.slrd H193_ 1 rfl) (And.intro (Holds.rd H193_ 2 rfl) ((Holds.ro_at H193_ 0 rfl)))
     refine A_tk 0 (v := v) rfl (by kernel_rfl) (fun w hS => x_move rfl) hq194_ ?_
     refine A_tk 1 (v := (vA #[(vB false), (vI .i64 0), (vI .i64 0), (vI .i64 0), (vI .i64 0), (vI .i64 0), v181_, (vI .i64 0), (vI .i64 0), (vS none 0 0)])) rfl (by kernel_rfl) (fun w hS => x_loadN (vs := [(vB false), (vI .i64 0), (vI .i64 0), (vI .i64 0), (vI .i64 0), (vI .i64 0), v181_, (vI .i64 0), (vI .i64 0), (vS none 0 0)]) rfl Try.underlying43 rfl z43 rfl (Rd.cells hS.2.1 0 rfl)) hq194_ ?_
     refine A_tk 2 (v := v) rfl (by kernel_rfl) (fun w hS => x_assign rfl) hq194_ ?_
     refine A_ready (i := 3) (rs := []) (by kernel_rfl) ?_
     refine AllR.cons ?_ AllR.nil
     refine A_op0 (ls' := #[true, true, true, true, false]) rfl (by kernel_rfl) (T_storeN (vs := [(vB false), (vI .i64 0), (vI .i64 0), (vI .i64 0), (vI .i64 0), (vI .i64 0), v181_, (vI .i64 0), (vI .i64 0), (vS none 0 0)]) rfl rfl z43 rfl (List.forall_mem_cons.2 ⟨rfl, (List.forall_mem_cons.2 ⟨rfl, (List.forall_mem_cons.2 ⟨rfl, (List.forall_mem_cons.2 ⟨rfl, (List.forall_mem_cons.2 ⟨rfl, (List.forall_mem_cons.2 ⟨rfl, (List.forall_mem_cons.2 ⟨(Holds.sl_one H193_ 1 rfl), (List.forall_mem_cons.2 ⟨rfl, (List.forall_mem_cons.2 ⟨rfl, (List.forall_mem_cons.2 ⟨rfl, (fun _ h__ => by cases h__)⟩)⟩)⟩)⟩)⟩)⟩)⟩)⟩)⟩)⟩) H193_ 3 rfl (Nat.le_of_ble_eq_true (by rfl)) ?_)
     intro w195_ S197_ H196_
     have S198_ := Same.trans (Same.trans S191_ (Same.drew _)) S197_
     refine ⟨⟨Holds.slrd H196_ 1 rfl, Holds.rd H196_ 2 rfl, (Holds.ro_at H196_ 0 rfl)⟩, ?_⟩
     have hq199_ := And.intro (Holds.slrd H196_ 1 rfl) (And.intro (Holds.rd H196_ 2 rfl) ((Holds.ro_at H196_ 0 rfl)))
     refine A_tk 4 (v := (vB true)) rfl (by kernel_rfl) (fun w hS => x_assign rfl) hq199_ ?_
     refine A_done (by kernel_rfl) ?_
     refine (X_then (hK192_ _ _ ?_))
     clear hK192_
     refine C_ret ?_
     refine R_any (v := (vT #[v, (vA #[(vB false), (vI .i64 0), (vI .i64 0), (vI .i64 0), (vI .i64 0), (vI .i64 0), v181_, (vI .i64 0), (vI .i64 0), (vS none 0 0)]), (vB true)])) (run_results3 rfl rfl ⟨_, rfl, load_resN Try.underlying43 rfl z43 rfl (vs := [(vB false), (vI .i64 0), (vI .i64 0), (vI .i64 0), (vI .i64 0), (vI .i64 0), v181_, (vI .i64 0), (vI .i64 0), (vS none 0 0)]) (Holds.cl_cells H196_ 3 rfl 0 rfl)⟩ rfl) ?_
     obtain ⟨R200_, hs201_, ⟨R202_, ha203_, hs204_⟩, H205_⟩ := Holds.gift H196_
     have hr206_ : RS R200_ 2 v181_ (List.length ((vSieve L (vSinceP L o.at_) L.length).map VR.rv)) (((vSieve L (vSinceP L o.at_) L.length).map VR.rv).flatMap RV.cells) := (sl_RS ha203_ (Sub.rfl' _)).mono hs204_
     have H207_ : Holds w195_ (ro R200_ :: F) := (Holds.pkF H205_ [0] 3 :)
     exact ⟨R200_, _, _, rfl, hs201_, (.inl ⟨v, v181_, false, 0, 0, 0, 0, 0, (L), (vSince L o.at_), rfl, rfl, (kDo_since c180_tp), ((RS.mono hL hs201_)), (hr206_)⟩), S198_, H207_⟩
    ·have c180_fp : ¬ (o.kind = 6) := of_decide_eq_false c180_f
     refine C_seq (fun K208_ hK208_ => C_reg ?_)
     refine sv (v := (vB (decide (o.kind = 7)))) (x_bin rfl rfl rfl) ?_
     refine sv (v := (vB (decide (o.kind = 7)))) (x_assign rfl) ?_
     refine wpList_nil (X_then (hK208_ _ _ ?_))
     clear hK208_
     refine C_cond (b := decide (o.kind = 7)) rfl (fun c209_t => ?_) (fun c209_f => ?_)
     ·have c209_tp : o.kind = 7 := of_decide_eq_true c209_t
      refine C_seq (fun K210_ hK210_ => C_reg ?_)
      refine sv (v := v) (x_move rfl) ?_
      refine sv (v := (vP (some ⟨b2_, 6, none⟩))) (by kernel_rfl) ?_
      refine sv (v := (vI .i64 o.at_)) (x_load1 rfl Try.underlying2 rfl ((Holds.rd H15_ 2 rfl) 6 (vI .i64 o.at_) rfl)) ?_
      have H212_ := ((Holds.bring H15_ 3 rfl) :)
      refine S_list (T_call (al := [v, (vI .i64 o.at_), (vB true)]) (pre := []) rfl rfl cb30 (kKept R v L o.at_ true hL (by first | assumption | omega)) H212_ ?_)
      rintro v211_ p216_ w213_ ⟨_, rfl, rfl⟩ S215_ H214_
      have S217_ := Same.trans S17_ S215_
      refine sv (v := (vP (some ⟨b13_, 6, none⟩))) (by kernel_rfl) ?_
      refine S_list0 (T_store1 (v := v211_) rfl rfl z41 (Holds.sl_one H214_ 1 rfl) H214_ 2 rfl (Nat.le_of_ble_eq_true (by rfl)) ?_)
      intro w218_ S220_ H219_
      have S221_ := Same.trans S217_ S220_
      refine wpList_nil (X_then (hK210_ _ _ ?_))
      clear hK210_
      refine C_reg ?_
      refine sv (v := v) (x_move rfl) ?_
      refine sv (v := (vP (some ⟨b2_, 6, none⟩))) (by kernel_rfl) ?_
      refine sv (v := (vI .i64 o.at_)) (x_load1 rfl Try.underlying2 rfl ((Holds.rd H219_ 4 rfl) 6 (vI .i64 o.at_) rfl)) ?_
      refine S_list (T_call (al := [v, (vI .i64 o.at_)]) (pre := []) rfl rfl cb31 (kCompacted R v L o.at_ hL (by first | assumption | omega)) H219_ ?_)
      rintro v222_ p226_ w223_ ⟨_, rfl, rfl⟩ S225_ H224_
      have S227_ := Same.trans S221_ S225_
      refine sv (v := v222_) (x_assign rfl) ?_
      refine wpList_nil (X_blkN (X_then (hK18_ _ _ ?_)))
      clear hK18_
      refine C_seq (fun K228_ hK228_ => ?_)
      refine A_start (S := fun w => SlRd v222_ ((vSieve L (vStay L o.at_) L.length).flatMap VR.cells) w ∧ SlRd v211_ (((vSieve L (fun i v => decide (v.rev_Main ≤ o.at_) && vStay L o.at_ i v && (true || !v.gone)) L.length).map VR.rv).flatMap RV.cells) w ∧ Rd b13_ [(vB false), (vI .i64 0), (vI .i64 0), (vI .i64 0), (vI .i64 0), (vI .i64 0), v211_, (vI .i64 0), (vI .i64 0), (vS none 0 0)] w ∧ Sub R (hp w)) (N := 5) foll rfl rfl ?_
      have H229_ := Holds.drew_ H224_
      have hq230_ := And.intro (Holds.slrd H229_ 1 rfl) (And.intro (Holds.slrd H229_ 2 rfl) (And.intro (Holds.rd H229_ 3 rfl) ((Holds.ro_at H229_ 0 rfl))))
      refine A_tk 0 (v := v222_) rfl (by kernel_rfl) (fun w hS => x_move rfl) hq230_ ?_
      refine A_tk 1 (v := (vA #[(vB false), (vI .i64 0), (vI .i64 0), (vI .i64 0), (vI .i64 0), (vI .i64 0), v211_, (vI .i64 0), (vI .i64 0), (vS none 0 0)])) rfl (by kernel_rfl) (fun w hS => x_loadN (vs := [(vB false), (vI .i64 0), (vI .i64 0), (vI .i64 0), (vI .i64 0), (vI .i64 0), v211_, (vI .i64 0), (vI .i64 0), (vS none 0 0)]) rfl Try.underlying43 rfl z43 rfl (Rd.cells hS.2.2.1 0 rfl)) hq230_ ?_
      refine A_tk 2 (v := v222_) rfl (by kernel_rfl) (fun w hS => x_assign rfl) hq230_ ?_
      refine A_ready (i := 3) (rs := []) (by kernel_rfl) ?_
      refine AllR.cons ?_ AllR.nil
      refine A_op0 (ls' := #[true, true, true, true, false]) rfl (by kernel_rfl) (T_storeN (vs := [(vB false), (vI .i64 0), (vI .i64 0), (vI .i64 0), (vI .i64 0), (vI .i64 0), v211_, (vI .i64 0), (vI .i64 0), (vS none 0 0)]) rfl rfl z43 rfl (List.forall_mem_cons.2 ⟨rfl, (List.forall_mem_cons.2 ⟨rfl, (List.forall_mem_cons.2 ⟨rfl, (List.forall_mem_cons.2 ⟨rfl, (List.forall_mem_cons.2 ⟨rfl, (List.forall_mem_cons.2 ⟨rfl, (List.forall_mem_cons.2 ⟨(Holds.sl_one H229_ 2 rfl), (List.forall_mem_cons.2 ⟨rfl, (List.forall_mem_cons.2 ⟨rfl, (List.forall_mem_cons.2 ⟨rfl, (fun _ h__ => by cases h__)⟩)⟩)⟩)⟩)⟩)⟩)⟩)⟩)⟩)⟩) H229_ 4 rfl (Nat.le_of_ble_eq_true (by rfl)) ?_)
      intro w231_ S233_ H232_
      have S234_ := Same.trans (Same.trans S227_ (Same.drew _)) S233_
      refine ⟨⟨Holds.slrd H232_ 1 rfl, Holds.slrd H232_ 2 rfl, Holds.rd H232_ 3 rfl, (Holds.ro_at H232_ 0 rfl)⟩, ?_⟩
      have hq235_ := And.intro (Holds.slrd H232_ 1 rfl) (And.intro (Holds.slrd H232_ 2 rfl) (And.intro (Holds.rd H232_ 3 rfl) ((Holds.ro_at H232_ 0 rfl))))
      refine A_tk 4 (v := (vB true)) rfl (by kernel_rfl) (fun w hS => x_assign rfl) hq235_ ?_
      refine A_done (by kernel_rfl) ?_
      refine (X_then (hK228_ _ _ ?_))
      clear hK228_
      refine C_ret ?_
      refine R_any (v := (vT #[v222_, (vA #[(vB false), (vI .i64 0), (vI .i64 0), (vI .i64 0), (vI .i64 0), (vI .i64 0), v211_, (vI .i64 0), (vI .i64 0), (vS none 0 0)]), (vB true)])) (run_results3 rfl rfl ⟨_, rfl, load_resN Try.underlying43 rfl z43 rfl (vs := [(vB false), (vI .i64 0), (vI .i64 0), (vI .i64 0), (vI .i64 0), (vI .i64 0), v211_, (vI .i64 0), (vI .i64 0), (vS none 0 0)]) (Holds.cl_cells H232_ 4 rfl 0 rfl)⟩ rfl) ?_
      obtain ⟨R236_, hs237_, ⟨R238_, ha239_, hs240_⟩, H241_⟩ := Holds.gift H232_
      have hr242_ : RS R236_ 6 v222_ (List.length (vSieve L (vStay L o.at_) L.length)) ((vSieve L (vStay L o.at_) L.length).flatMap VR.cells) := (sl_RS ha239_ (Sub.rfl' _)).mono hs240_
      obtain ⟨R243_, hs244_, ⟨R245_, ha246_, hs247_⟩, H248_⟩ := Holds.gift H241_
      have hz_R_R243_ := Sub.trans' hs237_ hs244_
      have hr249_ : RS R243_ 2 v211_ (List.length ((vSieve L (fun i v => decide (v.rev_Main ≤ o.at_) && vStay L o.at_ i v && (true || !v.gone)) L.length).map VR.rv)) (((vSieve L (fun i v => decide (v.rev_Main ≤ o.at_) && vStay L o.at_ i v && (true || !v.gone)) L.length).map VR.rv).flatMap RV.cells) := (sl_RS ha246_ (Sub.rfl' _)).mono hs247_
      have H250_ : Holds w231_ (ro R243_ :: F) := (Holds.pkF H248_ [0] 3 :)
      exact ⟨R243_, _, _, rfl, hz_R_R243_, (.inl ⟨v222_, v211_, false, 0, 0, 0, 0, 0, (vCompact L o.at_), (vKept L o.at_ true), rfl, rfl, (kDo_compact c209_tp), ((RS.mono hr242_ hs244_)), (hr249_)⟩), S234_, H250_⟩
     ·have c209_fp : ¬ (o.kind = 7) := of_decide_eq_false c209_f
      refine C_seq (fun K251_ hK251_ => C_reg ?_)
      refine sv (v := (vB (decide (o.kind = 8)))) (x_bin rfl rfl rfl) ?_
      refine sv (v := (vB (decide (o.kind = 8)))) (x_assign rfl) ?_
      refine wpList_nil (X_then (hK251_ _ _ ?_))
      clear hK251_
      refine C_cond (b := decide (o.kind = 8)) rfl (fun c252_t => ?_) (fun c252_f => ?_)
      ·have c252_tp : o.kind = 8 := of_decide_eq_true c252_t
       refine C_reg ?_
       refine sv (v := v) (x_move rfl) ?_
       refine sv (v := (vP (some ⟨b2_, 6, none⟩))) (by kernel_rfl) ?_
       refine sv (v := (vI .i64 o.at_)) (x_load1 rfl Try.underlying2 rfl ((Holds.rd H15_ 2 rfl) 6 (vI .i64 o.at_) rfl)) ?_
       have H254_ := ((Holds.bring H15_ 3 rfl) :)
       refine S_list (T_call (al := [v, (vI .i64 o.at_), (vB false)]) (pre := []) rfl rfl cb30 (kKept R v L o.at_ false hL (by first | assumption | omega)) H254_ ?_)
       rintro v253_ p258_ w255_ ⟨_, rfl, rfl⟩ S257_ H256_
       have S259_ := Same.trans S17_ S257_
       refine sv (v := (vP (some ⟨b13_, 6, none⟩))) (by kernel_rfl) ?_
       refine S_list0 (T_store1 (v := v253_) rfl rfl z41 (Holds.sl_one H256_ 1 rfl) H256_ 2 rfl (Nat.le_of_ble_eq_true (by rfl)) ?_)
       intro w260_ S262_ H261_
       have S263_ := Same.trans S259_ S262_
       refine wpList_nil (X_blkN (X_then (hK18_ _ _ ?_)))
       clear hK18_
       refine C_seq (fun K264_ hK264_ => ?_)
       refine A_start (S := fun w => SlRd v253_ (((vSieve L (fun i v => decide (v.rev_Main ≤ o.at_) && vStay L o.at_ i v && (false || !v.gone)) L.length).map VR.rv).flatMap RV.cells) w ∧ Rd b13_ [(vB false), (vI .i64 0), (vI .i64 0), (vI .i64 0), (vI .i64 0), (vI .i64 0), v253_, (vI .i64 0), (vI .i64 0), (vS none 0 0)] w ∧ Sub R (hp w)) (N := 5) foll rfl rfl ?_
       have H265_ := Holds.drew_ H261_
       have hq266_ := And.intro (Holds.slrd H265_ 1 rfl) (And.intro (Holds.rd H265_ 2 rfl) ((Holds.ro_at H265_ 0 rfl)))
       refine A_tk 0 (v := v) rfl (by kernel_rfl) (fun w hS => x_move rfl) hq266_ ?_
       refine A_tk 1 (v := (vA #[(vB false), (vI .i64 0), (vI .i64 0), (vI .i64 0), (vI .i64 0), (vI .i64 0), v253_, (vI .i64 0), (vI .i64 0), (vS none 0 0)])) rfl (by kernel_rfl) (fun w hS => x_loadN (vs := [(vB false), (vI .i64 0), (vI .i64 0), (vI .i64 0), (vI .i64 0), (vI .i64 0), v253_, (vI .i64 0), (vI .i64 0), (vS none 0 0)]) rfl Try.underlying43 rfl z43 rfl (Rd.cells hS.2.1 0 rfl)) hq266_ ?_
       refine A_tk 2 (v := v) rfl (by kernel_rfl) (fun w hS => x_assign rfl) hq266_ ?_
       refine A_ready (i := 3) (rs := []) (by kernel_rfl) ?_
       refine AllR.cons ?_ AllR.nil
       refine A_op0 (ls' := #[true, true, true, true, false]) rfl (by kernel_rfl) (T_storeN (vs := [(vB false), (vI .i64 0), (vI .i64 0), (vI .i64 0), (vI .i64 0), (vI .i64 0), v253_, (vI .i64 0), (vI .i64 0), (vS none 0 0)]) rfl rfl z43 rfl (List.forall_mem_cons.2 ⟨rfl, (List.forall_mem_cons.2 ⟨rfl, (List.forall_mem_cons.2 ⟨rfl, (List.forall_mem_cons.2 ⟨rfl, (List.forall_mem_cons.2 ⟨rfl, (List.forall_mem_cons.2 ⟨rfl, (List.forall_mem_cons.2 ⟨(Holds.sl_one H265_ 1 rfl), (List.forall_mem_cons.2 ⟨rfl, (List.forall_mem_cons.2 ⟨rfl, (List.forall_mem_cons.2 ⟨rfl, (fun _ h__ => by cases h__)⟩)⟩)⟩)⟩)⟩)⟩)⟩)⟩)⟩)⟩) H265_ 3 rfl (Nat.le_of_ble_eq_true (by rfl)) ?_)
       intro w267_ S269_ H268_
       have S270_ := Same.trans (Same.trans S263_ (Same.drew _)) S269_
       refine ⟨⟨Holds.slrd H268_ 1 rfl, Holds.rd H268_ 2 rfl, (Holds.ro_at H268_ 0 rfl)⟩, ?_⟩
       have hq271_ := And.intro (Holds.slrd H268_ 1 rfl) (And.intro (Holds.rd H268_ 2 rfl) ((Holds.ro_at H268_ 0 rfl)))
       refine A_tk 4 (v := (vB true)) rfl (by kernel_rfl) (fun w hS => x_assign rfl) hq271_ ?_
       refine A_done (by kernel_rfl) ?_
       refine (X_then (hK264_ _ _ ?_))
       clear hK264_
       refine C_ret ?_
       refine R_any (v := (vT #[v, (vA #[(vB false), (vI .i64 0), (vI .i64 0), (vI .i64 0), (vI .i64 0), (vI .i64 0), v253_, (vI .i64 0), (vI .i64 0), (vS none 0 0)]), (vB true)])) (run_results3 rfl rfl ⟨_, rfl, load_resN Try.underlying43 rfl z43 rfl (vs := [(vB false), (vI .i64 0), (vI .i64 0), (vI .i64 0), (vI .i64 0), (vI .i64 0), v253_, (vI .i64 0), (vI .i64 0), (vS none 0 0)]) (Holds.cl_cells H268_ 3 rfl 0 rfl)⟩ rfl) ?_
       obtain ⟨R272_, hs273_, ⟨R274_, ha275_, hs276_⟩, H277_⟩ := Holds.gift H268_
       have hr278_ : RS R272_ 2 v253_ (List.length ((vSieve L (fun i v => decide (v.rev_Main ≤ o.at_) && vStay L o.at_ i v && (false || !v.gone)) L.length).map VR.rv)) (((vSieve L (fun i v => decide (v.rev_Main ≤ o.at_) && vStay L o.at_ i v && (false || !v.gone)) L.length).map VR.rv).flatMap RV.cells) := (sl_RS ha275_ (Sub.rfl' _)).mono hs276_
       have H279_ : Holds w267_ (ro R272_ :: F) := (Holds.pkF H277_ [0] 3 :)
       exact ⟨R272_, _, _, rfl, hs273_, (.inl ⟨v, v253_, false, 0, 0, 0, 0, 0, (L), (vKept L o.at_ false), rfl, rfl, (kDo_keep c252_tp), ((RS.mono hL hs273_)), (hr278_)⟩), S270_, H279_⟩
      ·have c252_fp : ¬ (o.kind = 8) := of_decide_eq_false c252_f
       refine C_skip (X_blkN (X_then (hK18_ _ _ ?_)))
       clear hK18_
       refine C_seq (fun K280_ hK280_ => ?_)
       refine A_start (S := fun w => Rd b13_ [(vB false), (vI .i64 0), (vI .i64 0), (vI .i64 0), (vI .i64 0), (vI .i64 0), (vS none 0 0), (vI .i64 0), (vI .i64 0), (vS none 0 0)] w ∧ Sub R (hp w)) (N := 5) foll rfl rfl ?_
       have H281_ := Holds.drew_ H15_
       have hq282_ := And.intro (Holds.rd H281_ 0 rfl) ((Holds.ro_at H281_ 3 rfl))
       refine A_tk 0 (v := v) rfl (by kernel_rfl) (fun w hS => x_move rfl) hq282_ ?_
       refine A_tk 1 (v := (vA #[(vB false), (vI .i64 0), (vI .i64 0), (vI .i64 0), (vI .i64 0), (vI .i64 0), (vS none 0 0), (vI .i64 0), (vI .i64 0), (vS none 0 0)])) rfl (by kernel_rfl) (fun w hS => x_loadN (vs := [(vB false), (vI .i64 0), (vI .i64 0), (vI .i64 0), (vI .i64 0), (vI .i64 0), (vS none 0 0), (vI .i64 0), (vI .i64 0), (vS none 0 0)]) rfl Try.underlying43 rfl z43 rfl (Rd.cells hS.1 0 rfl)) hq282_ ?_
       refine A_tk 2 (v := v) rfl (by kernel_rfl) (fun w hS => x_assign rfl) hq282_ ?_
       refine A_ready (i := 3) (rs := []) (by kernel_rfl) ?_
       refine AllR.cons ?_ AllR.nil
       refine A_op0 (ls' := #[true, true, true, true, false]) rfl (by kernel_rfl) (T_storeN (vs := [(vB false), (vI .i64 0), (vI .i64 0), (vI .i64 0), (vI .i64 0), (vI .i64 0), (vS none 0 0), (vI .i64 0), (vI .i64 0), (vS none 0 0)]) rfl rfl z43 rfl (by simp [Value.oneCell']) H281_ 1 rfl (Nat.le_of_ble_eq_true (by rfl)) ?_)
       intro w283_ S285_ H284_
       have S286_ := Same.trans (Same.trans S17_ (Same.drew _)) S285_
       refine ⟨⟨Holds.rd H284_ 0 rfl, (Holds.ro_at H284_ 3 rfl)⟩, ?_⟩
       have hq287_ := And.intro (Holds.rd H284_ 0 rfl) ((Holds.ro_at H284_ 3 rfl))
       refine A_tk 4 (v := (vB true)) rfl (by kernel_rfl) (fun w hS => x_assign rfl) hq287_ ?_
       refine A_done (by kernel_rfl) ?_
       refine (X_then (hK280_ _ _ ?_))
       clear hK280_
       refine C_ret ?_
       refine R_any (v := (vT #[v, (vA #[(vB false), (vI .i64 0), (vI .i64 0), (vI .i64 0), (vI .i64 0), (vI .i64 0), (vS none 0 0), (vI .i64 0), (vI .i64 0), (vS none 0 0)]), (vB true)])) (run_results3 rfl rfl ⟨_, rfl, load_resN Try.underlying43 rfl z43 rfl (vs := [(vB false), (vI .i64 0), (vI .i64 0), (vI .i64 0), (vI .i64 0), (vI .i64 0), (vS none 0 0), (vI .i64 0), (vI .i64 0), (vS none 0 0)]) (Holds.cl_cells H284_ 1 rfl 0 rfl)⟩ rfl) ?_
       have H288_ : Holds w283_ (ro R :: F) := (Holds.pkF H284_ [3] 3 :)
       exact ⟨R, _, _, rfl, (Sub.rfl' _), (.inl ⟨v, (vS none 0 0), false, 0, 0, 0, 0, 0, (L), (([] : List RV)), (congrArg (fun l => vT (List.toArray l)) (lcons rfl (lcons (congrArg (fun l => vA (List.toArray l)) (lcons rfl (lcons rfl (lcons rfl (lcons rfl (lcons rfl (lcons rfl (lcons (rfl : (vS none 0 0) = ((vS none 0 0))) rfl)))))))) rfl))), rfl, (kDo_else c21_fp c77_fp c148_fp c180_fp c209_fp c252_fp), (hL), (RS.nil _ _)⟩), S286_, H288_⟩
end Go.Proofs.Ytiblemgccgbhoaa
