/- Two dumps, by the law. -/
import Derived.Test.YtiblemgccgbhoaaKyI0
set_option linter.unusedVariables false
set_option linter.unusedSimpArgs false
namespace Go.Proofs.Ytiblemgccgbhoaa
open Go Go.RowKit Gw

set_option maxHeartbeats 2000000 in
theorem kIxEqual (R : HP) (v1 v2 : Value) (N1 N2 : List GN) (ma na mb nb : Int) (h1 : RS R 4 v1 (List.length N1) (N1.flatMap GN.cells)) (h2 : RS R 4 v2 (List.length N2) (N2.flatMap GN.cells)) (hg1 : ∀ x ∈ N1, GOk R x) (hg2 : ∀ x ∈ N2, GOk R x) (hb1 : N1.length ≤ 100000) (hb2 : ∀ x ∈ N1, x.l.length ≤ 100000) :
    Tri Try.prog 14 #[(Value.agg #[(Value.int .i64 ma), (Value.int .i64 na), v1]), (Value.agg #[(Value.int .i64 mb), (Value.int .i64 nb), v2])] R [] (fun v__ post__ => (v__ = (Value.bool true) ∧ post__ = [] ∧ ((ma = mb ∧ na = nb) ∧ N1.map GN.k = N2.map GN.k)) ∨ (v__ = (Value.bool false) ∧ post__ = [] ∧ (¬ ((ma = mb ∧ na = nb) ∧ N1.map GN.k = N2.map GN.k)))) := by
 refine Tri.into (n := 51) (al := [(Value.agg #[(Value.int .i64 ma), (Value.int .i64 na), v1]), (Value.agg #[(Value.int .i64 mb), (Value.int .i64 nb), v2])]) Try.func14 rfl Try.ntmps14 rfl rfl fun w F H => ?_
 refine C_seq (fun K1_ hK1_ => ?_)
 refine C_reg ?_
 refine S_list (T_box (v := (Value.agg #[(Value.int .i64 ma), (Value.int .i64 na), v1])) rfl H ?_)
 intro b2_ w3_ S5_ H4_
 have S6_ := Same.trans (Same.refl w) S5_
 refine S_list (T_box (v := (Value.agg #[(Value.int .i64 mb), (Value.int .i64 nb), v2])) rfl H4_ ?_)
 intro b7_ w8_ S10_ H9_
 replace H9_ : Holds w8_ (cl b7_ 34 [(Value.int .i64 mb), (Value.int .i64 nb), v2] :: cl b2_ 34 [(Value.int .i64 ma), (Value.int .i64 na), v1] :: ro R :: F) := H9_
 have S11_ := Same.trans S6_ S10_
 refine S_list (T_val (v := (Value.bool false)) (x_assign rfl) ?_)
 refine wpList_nil ?_
 refine (X_then (hK1_ _ _ ?_))
 clear hK1_
 refine C_seq (fun K12_ hK12_ => ?_)
 refine C_seq (fun K13_ hK13_ => ?_)
 refine C_reg ?_
 refine S_list (T_val (v := (Value.pointer (some ⟨b2_, 0, none⟩))) (by kernel_rfl) ?_)
 refine S_list (T_val (v := (Value.agg #[(Value.int .i64 ma), (Value.int .i64 na)])) (x_loadN (vs := [(Value.int .i64 ma), (Value.int .i64 na)]) rfl Try.underlying31 rfl z31 rfl (Rd.cells (Holds.rd H9_ 1 rfl) 0 rfl)) ?_)
 refine S_list (T_val (v := (Value.pointer (some ⟨b7_, 0, none⟩))) (by kernel_rfl) ?_)
 refine S_list (T_val (v := (Value.agg #[(Value.int .i64 mb), (Value.int .i64 nb)])) (x_loadN (vs := [(Value.int .i64 mb), (Value.int .i64 nb)]) rfl Try.underlying31 rfl z31 rfl (Rd.cells (Holds.rd H9_ 0 rfl) 0 rfl)) ?_)
 refine S_list (T_val (v := (Value.bool (!((decide (ma = mb)) && ((decide (na = nb)) && (true)))))) (x_neqS rfl rfl (by kernel_rfl) (eq_struct Try.underlying31 (by kernel_rfl) (eqf_cons rfl (run_part1 Try.underlying2 rfl rfl) (run_part1 Try.underlying2 rfl rfl) (eq_int Try.underlying2) (eqf_cons rfl (run_part1 Try.underlying2 rfl rfl) (run_part1 Try.underlying2 rfl rfl) (eq_int Try.underlying2) (eqf_nil))))) ?_)
 refine S_list (T_val (v := (Value.bool (!((decide (ma = mb)) && ((decide (na = nb)) && (true)))))) (x_move rfl) ?_)
 rcases Bool.eq_false_or_eq_true (!((decide (ma = mb)) && ((decide (na = nb)) && (true)))) with c14_t | c14_f
 ·skip
  refine S_no (j := 5) (dj := 12) (b := true) rfl rfl (congrArg Value.bool c14_t) (by decide) ?_
  refine S_no (j := 5) (dj := 12) (b := true) rfl rfl (congrArg Value.bool c14_t) (by decide) ?_
  refine S_no (j := 5) (dj := 12) (b := true) rfl rfl (congrArg Value.bool c14_t) (by decide) ?_
  refine S_no (j := 5) (dj := 12) (b := true) rfl rfl (congrArg Value.bool c14_t) (by decide) ?_
  refine S_no (j := 5) (dj := 12) (b := true) rfl rfl (congrArg Value.bool c14_t) (by decide) ?_
  refine S_no (j := 5) (dj := 12) (b := true) rfl rfl (congrArg Value.bool c14_t) (by decide) ?_
  refine S_no (j := 5) (dj := 12) (b := true) rfl rfl (congrArg Value.bool c14_t) (by decide) ?_
  refine S_list (T_pickT (v := (Value.bool true)) (congrArg Value.bool c14_t) rfl ?_)
  refine wpList_nil ?_
  refine (X_then (hK13_ _ _ ?_))
  clear hK13_
  refine C_condT rfl ?_
  refine C_seq (fun K15_ hK15_ => ?_)
  refine C_reg ?_
  refine S_list (T_val (v := (Value.bool false)) (x_assign rfl) ?_)
  refine wpList_nil ?_
  refine (X_then (hK15_ _ _ ?_))
  clear hK15_
  refine C_ret (X_thenR ?_)
  refine R_any (v := (Value.bool false)) (run_results1 rfl rfl) ?_
  have H16_ : Holds w8_ (ro R :: F) := (Holds.pkF H9_ [2] 2 :)
  exact ⟨_, _, rfl, (.inr ⟨rfl, rfl, (fun e_ => by first | (simp_all; done) | exact map_nel (by first | (simp_all; done) | (simp_all; omega)) e_.2)⟩), S11_, H16_⟩
 ·skip
  refine S_yes (j := 5) (dj := 12) (b := false) rfl rfl (congrArg Value.bool c14_f) (T_val (v := (Value.pointer (some ⟨b2_, 2, none⟩))) (by kernel_rfl) ?_)
  refine S_yes (j := 5) (dj := 12) (b := false) rfl rfl (congrArg Value.bool c14_f) (T_val (v := v1) (x_load1 rfl Try.underlying32 rfl ((Holds.rd H9_ 1 rfl) 2 v1 rfl)) ?_)
  refine S_yes (j := 5) (dj := 12) (b := false) rfl rfl (congrArg Value.bool c14_f) (T_val (v := (Value.int .i64 ((List.length N1) : Int))) (x_lenRS rfl h1 Try.underlying32) ?_)
  refine S_yes (j := 5) (dj := 12) (b := false) rfl rfl (congrArg Value.bool c14_f) (T_val (v := (Value.pointer (some ⟨b7_, 2, none⟩))) (by kernel_rfl) ?_)
  refine S_yes (j := 5) (dj := 12) (b := false) rfl rfl (congrArg Value.bool c14_f) (T_val (v := v2) (x_load1 rfl Try.underlying32 rfl ((Holds.rd H9_ 0 rfl) 2 v2 rfl)) ?_)
  refine S_yes (j := 5) (dj := 12) (b := false) rfl rfl (congrArg Value.bool c14_f) (T_val (v := (Value.int .i64 ((List.length N2) : Int))) (x_lenRS rfl h2 Try.underlying32) ?_)
  refine S_yes (j := 5) (dj := 12) (b := false) rfl rfl (congrArg Value.bool c14_f) (T_val (v := (Value.bool (decide (((List.length N1) : Int) ≠ ((List.length N2) : Int))))) (x_bin rfl rfl rfl) ?_)
  refine S_list (T_pickF (v := (Value.bool (decide (((List.length N1) : Int) ≠ ((List.length N2) : Int))))) (congrArg Value.bool c14_f) rfl ?_)
  refine wpList_nil ?_
  refine (X_then (hK13_ _ _ ?_))
  clear hK13_
  refine C_cond (b := decide (((List.length N1) : Int) ≠ ((List.length N2) : Int))) rfl (fun c17_t => ?_) (fun c17_f => ?_)
  ·have c17_tp : ((List.length N1) : Int) ≠ ((List.length N2) : Int) := of_decide_eq_true c17_t
   refine C_seq (fun K18_ hK18_ => ?_)
   refine C_reg ?_
   refine S_list (T_val (v := (Value.bool false)) (x_assign rfl) ?_)
   refine wpList_nil ?_
   refine (X_then (hK18_ _ _ ?_))
   clear hK18_
   refine C_ret (X_thenR ?_)
   refine R_any (v := (Value.bool false)) (run_results1 rfl rfl) ?_
   have H19_ : Holds w8_ (ro R :: F) := (Holds.pkF H9_ [2] 2 :)
   exact ⟨_, _, rfl, (.inr ⟨rfl, rfl, (fun e_ => by first | (simp_all; done) | exact map_nel (by first | (simp_all; done) | (simp_all; omega)) e_.2)⟩), S11_, H19_⟩
  ·have c17_fp : ¬ (((List.length N1) : Int) ≠ ((List.length N2) : Int)) := of_decide_eq_false c17_f
   refine C_skip (X_then (hK12_ _ _ ?_))
   clear hK12_
   refine C_seq (fun K20_ hK20_ => ?_)
   refine C_seq (fun K21_ hK21_ => ?_)
   refine C_reg ?_
   refine S_list (T_val (v := (Value.pointer (some ⟨b2_, 2, none⟩))) (by kernel_rfl) ?_)
   refine S_list (T_val (v := v1) (x_load1 rfl Try.underlying32 rfl ((Holds.rd H9_ 1 rfl) 2 v1 rfl)) ?_)
   refine S_list (T_val (v := (Value.int .i64 ((List.length N1) : Int))) (x_lenRS rfl h1 Try.underlying32) ?_)
   refine S_list (T_val (v := (Value.int .i64 0)) (x_move rfl) ?_)
   refine wpList_nil ?_
   refine (X_then (hK21_ _ _ ?_))
   clear hK21_
   refine C_block ?_
   refine C_loop (γ := Nat × Bool) (fun x__ a__ w1__ => match x__ with | ⟨k, t4_v⟩ => ∃ h : Env, a__ = mkA 51 (upd (upd (upd (upd (upd h 3 (Value.pointer (some ⟨b7_, 0, none⟩))) 4 (Value.bool t4_v)) 22 v1) 23 (Value.int .i64 ((List.length N1) : Int))) 24 (Value.int .i64 (k : Int))) [] ∧ Holds w1__ (cl b7_ 34 [(Value.int .i64 mb), (Value.int .i64 nb), v2] :: cl b2_ 34 [(Value.int .i64 ma), (Value.int .i64 na), v1] :: ro R :: F) ∧ Same w w1__ ∧ (k ≤ N1.length) ∧ (N1.length = N2.length) ∧ (ma = mb ∧ na = nb) ∧ ((N1.take k).map GN.k = (N2.take k).map GN.k)) (fun x__ => match x__ with | ⟨k, t4_v⟩ => N1.length - k) (⟨0, false⟩) ⟨_, congrArg (fun e => mkA 51 e []) (ch (ch (ch (ch (ch rfl rfl) rfl) rfl) rfl) (congrArg (Value.int .i64) ((by first | rfl | omega | (simp; done) | (simp; omega)) : 0 = (0 : Int)))), H9_, S11_, (by first | assumption | omega | exact rfl), (by first | assumption | omega | exact rfl), (by first | assumption | (simp_all; done) | (simp_all; omega)), (rfl)⟩ ?_
   rintro ⟨k, t4_v⟩ _ w22_ ⟨h, rfl, H23_, S24_, hk, hln, hmm, hq⟩
   refine C_seq (fun K25_ hK25_ => ?_)
   refine C_reg ?_
   refine S_list (T_val (v := (Value.bool (decide ((k : Int) < ((List.length N1) : Int))))) (x_bin rfl rfl rfl) ?_)
   refine wpList_nil ?_
   refine (X_then (hK25_ _ _ ?_))
   clear hK25_
   refine C_seq (fun K26_ hK26_ => ?_)
   refine C_cond (b := decide ((k : Int) < ((List.length N1) : Int))) rfl (fun c27_t => ?_) (fun c27_f => ?_)
   ·have c27_tp : (k : Int) < ((List.length N1) : Int) := of_decide_eq_true c27_t
    refine C_skip (X_then (hK26_ _ _ ?_))
    clear hK26_
    refine C_seq (fun K28_ hK28_ => ?_)
    refine C_block ?_
    refine C_seq (fun K29_ hK29_ => ?_)
    refine C_reg ?_
    refine S_list (T_val (v := (Value.int .i64 (k : Int))) (x_move rfl) ?_)
    obtain ⟨x30_, hx31_, hm32_⟩ := elem_at N1 k (by omega)
    have hp33_ := hg1 x30_ hm32_
    have hp34_ := hb2 x30_ hm32_
    have hg35_ := hg1 x30_ hm32_
    refine S_list (T_val (v := (Value.pointer (some ⟨(sb v1), so v1 + (k * 4 + 0), none⟩))) (x_idxRS (v := v1) rfl h1 rfl Try.underlying32 z68 (by omega) (by omega) (by omega : _ = k) rfl) ?_)
    refine S_list (T_val (v := (Value.agg #[(Value.int .i64 x30_.ver), (Value.int .i64 x30_.created_Main), (Value.int .i64 x30_.created_Sub), x30_.revs])) (x_loadN (vs := [(Value.int .i64 x30_.ver), (Value.int .i64 x30_.created_Main), (Value.int .i64 x30_.created_Sub), x30_.revs]) rfl Try.underlying68 rfl z68 rfl (RC.cells (RS.rc h1) (Holds.ro_at H23_ 2 rfl) (k * 4 + 0) (fm_cells GN.len hx31_ (i := 0) rfl))) ?_)
    refine S_list (T_alloc z68 H23_ ?_)
    intro b36_ w37_ S39_ H38_
    have S40_ := Same.trans S24_ S39_
    refine S_list (T_val (v := (Value.int .i64 (k : Int))) (x_assign rfl) ?_)
    refine S_list0 (T_storeN (vs := [(Value.int .i64 x30_.ver), (Value.int .i64 x30_.created_Main), (Value.int .i64 x30_.created_Sub), x30_.revs]) rfl rfl z68 rfl (List.forall_mem_cons.2 ⟨rfl, (List.forall_mem_cons.2 ⟨rfl, (List.forall_mem_cons.2 ⟨rfl, (List.forall_mem_cons.2 ⟨(RS.one hg35_), (fun _ h__ => by cases h__)⟩)⟩)⟩)⟩) H38_ 0 rfl (Nat.le_of_ble_eq_true (by rfl)) ?_)
    intro w41_ S43_ H42_
    have S44_ := Same.trans S40_ S43_
    refine wpList_nil ?_
    refine (X_then (hK29_ _ _ ?_))
    clear hK29_
    refine C_seq (fun K45_ hK45_ => ?_)
    refine A_start (S := fun w => Rd b36_ [(Value.int .i64 x30_.ver), (Value.int .i64 x30_.created_Main), (Value.int .i64 x30_.created_Sub), x30_.revs] w ∧ Rd b7_ [(Value.int .i64 mb), (Value.int .i64 nb), v2] w ∧ Sub R (hp w)) (N := 21) foll rfl rfl ?_
    have H46_ := Holds.drew_ H42_
    have hq47_ := And.intro (Holds.rd H46_ 0 rfl) (And.intro (Holds.rd H46_ 1 rfl) ((Holds.ro_at H46_ 3 rfl)))
    refine A_tk 0 (v := (Value.pointer (some ⟨b36_, 0, none⟩))) rfl (by kernel_rfl) (fun w hS => by kernel_rfl) hq47_ ?_
    refine A_tk 1 (v := (Value.int .i64 x30_.ver)) rfl (by kernel_rfl) (fun w hS => x_load1 rfl Try.underlying2 rfl (hS.1 0 (Value.int .i64 x30_.ver) rfl)) hq47_ ?_
    refine A_tk 2 (v := (Value.pointer (some ⟨b7_, 2, none⟩))) rfl (by kernel_rfl) (fun w hS => by kernel_rfl) hq47_ ?_
    refine A_tk 3 (v := v2) rfl (by kernel_rfl) (fun w hS => x_load1 rfl Try.underlying32 rfl (hS.2.1 2 v2 rfl)) hq47_ ?_
    refine A_tk 4 (v := (Value.int .i64 (k : Int))) rfl (by kernel_rfl) (fun w hS => x_move rfl) hq47_ ?_
    obtain ⟨x48_, hx49_, hm50_⟩ := elem_at N2 k (by omega)
    have hp51_ := hg2 x48_ hm50_
    have hg52_ := hg2 x48_ hm50_
    refine A_tk 5 (v := (Value.pointer (some ⟨(sb v2), so v2 + (k * 4 + 0), none⟩))) rfl (by kernel_rfl) (fun w hS => x_idxRS (v := v2) rfl h2 rfl Try.underlying32 z68 (by omega) (by omega) (by omega : _ = k) rfl) hq47_ ?_
    refine A_tk 6 (v := (Value.pointer (some ⟨(sb v2), so v2 + (k * 4 + 0), none⟩))) rfl (by kernel_rfl) (fun w hS => by kernel_rfl) hq47_ ?_
    refine A_tk 7 (v := (Value.int .i64 x48_.ver)) rfl (by kernel_rfl) (fun w hS => x_load1 rfl Try.underlying2 rfl (RC.cell (RS.rc h2) hS.2.2 (j := k * 4 + 0) (u := (Value.int .i64 x48_.ver)) (fm_cell GN.len hx49_ (i := 0) rfl))) hq47_ ?_
    refine A_tk 8 (v := (Value.bool (decide (x30_.ver ≠ x48_.ver)))) rfl (by kernel_rfl) (fun w hS => x_bin rfl rfl rfl) hq47_ ?_
    refine A_tk 9 (v := (Value.bool (decide (x30_.ver ≠ x48_.ver)))) rfl (by kernel_rfl) (fun w hS => x_move rfl) hq47_ ?_
    rcases Bool.eq_false_or_eq_true (decide (x30_.ver ≠ x48_.ver)) with c53_t | c53_f
    ·have c53_tp : x30_.ver ≠ x48_.ver := of_decide_eq_true c53_t
     refine A_tkN 10 (j := 9) (dj := 38) (b := true) rfl (by kernel_rfl) rfl rfl (congrArg Value.bool c53_t) (by decide) hq47_ ?_
     refine A_tkN 11 (j := 9) (dj := 38) (b := true) rfl (by kernel_rfl) rfl rfl (congrArg Value.bool c53_t) (by decide) hq47_ ?_
     refine A_tkN 12 (j := 9) (dj := 38) (b := true) rfl (by kernel_rfl) rfl rfl (congrArg Value.bool c53_t) (by decide) hq47_ ?_
     refine A_tkN 13 (j := 9) (dj := 38) (b := true) rfl (by kernel_rfl) rfl rfl (congrArg Value.bool c53_t) (by decide) hq47_ ?_
     refine A_tkN 14 (j := 9) (dj := 38) (b := true) rfl (by kernel_rfl) rfl rfl (congrArg Value.bool c53_t) (by decide) hq47_ ?_
     refine A_tkN 15 (j := 9) (dj := 38) (b := true) rfl (by kernel_rfl) rfl rfl (congrArg Value.bool c53_t) (by decide) hq47_ ?_
     refine A_tkN 16 (j := 9) (dj := 38) (b := true) rfl (by kernel_rfl) rfl rfl (congrArg Value.bool c53_t) (by decide) hq47_ ?_
     refine A_tkN 17 (j := 9) (dj := 38) (b := true) rfl (by kernel_rfl) rfl rfl (congrArg Value.bool c53_t) (by decide) hq47_ ?_
     refine A_tkN 18 (j := 9) (dj := 38) (b := true) rfl (by kernel_rfl) rfl rfl (congrArg Value.bool c53_t) (by decide) hq47_ ?_
     refine A_tkN 19 (j := 9) (dj := 38) (b := true) rfl (by kernel_rfl) rfl rfl (congrArg Value.bool c53_t) (by decide) hq47_ ?_
     refine A_tk 20 (v := (Value.bool true)) rfl (by kernel_rfl) (fun w hS => (x_pickT (congrArg Value.bool c53_t) rfl)) hq47_ ?_
     refine A_done (by kernel_rfl) ?_
     refine (X_then (hK45_ _ _ ?_))
     clear hK45_
     refine C_condT rfl ?_
     refine C_seq (fun K54_ hK54_ => ?_)
     refine C_reg ?_
     refine S_list (T_val (v := (Value.bool false)) (x_assign rfl) ?_)
     refine wpList_nil ?_
     refine (X_then (hK54_ _ _ ?_))
     clear hK54_
     refine C_ret (X_blkR (X_thenR (X_thenR (X_blkR (X_thenR ?_)))))
     refine R_any (v := (Value.bool false)) (run_results1 rfl rfl) ?_
     have H55_ : Holds w41_.drew (ro R :: F) := (Holds.pkF H46_ [3] 3 :)
     exact ⟨_, _, rfl, (.inr ⟨rfl, rfl, (fun e_ => map_ne hx31_ hx49_ (gk_ne (fun e1_ => by simp_all)) e_.2)⟩), (Same.trans S44_ (Same.drew _)), H55_⟩
    ·have c53_fp : ¬ (x30_.ver ≠ x48_.ver) := of_decide_eq_false c53_f
     refine A_tkY 10 (j := 9) (dj := 38) (b := false) (v := (Value.pointer (some ⟨b36_, 3, none⟩))) rfl (by kernel_rfl) rfl rfl (congrArg Value.bool c53_f) (fun w hS => by kernel_rfl) hq47_ ?_
     refine A_tkY 11 (j := 9) (dj := 38) (b := false) (v := x30_.revs) rfl (by kernel_rfl) rfl rfl (congrArg Value.bool c53_f) (fun w hS => x_load1 rfl Try.underlying41 rfl (hS.1 3 x30_.revs rfl)) hq47_ ?_
     refine A_tkY 12 (j := 9) (dj := 38) (b := false) (v := (Value.pointer (some ⟨b7_, 2, none⟩))) rfl (by kernel_rfl) rfl rfl (congrArg Value.bool c53_f) (fun w hS => by kernel_rfl) hq47_ ?_
     refine A_tkY 13 (j := 9) (dj := 38) (b := false) (v := v2) rfl (by kernel_rfl) rfl rfl (congrArg Value.bool c53_f) (fun w hS => x_load1 rfl Try.underlying32 rfl (hS.2.1 2 v2 rfl)) hq47_ ?_
     refine A_tkY 14 (j := 9) (dj := 38) (b := false) (v := (Value.int .i64 (k : Int))) rfl (by kernel_rfl) rfl rfl (congrArg Value.bool c53_f) (fun w hS => x_move rfl) hq47_ ?_
     refine A_tkY 15 (j := 9) (dj := 38) (b := false) (v := (Value.pointer (some ⟨(sb v2), so v2 + (k * 4 + 0), none⟩))) rfl (by kernel_rfl) rfl rfl (congrArg Value.bool c53_f) (fun w hS => x_idxRS (v := v2) rfl h2 rfl Try.underlying32 z68 (by omega) (by omega) (by omega : _ = k) rfl) hq47_ ?_
     refine A_tkY 16 (j := 9) (dj := 38) (b := false) (v := (Value.pointer (some ⟨(sb v2), so v2 + (k * 4 + 3), none⟩))) rfl (by kernel_rfl) rfl rfl (congrArg Value.bool c53_f) (fun w hS => by kernel_rfl) hq47_ ?_
     refine A_tkY 17 (j := 9) (dj := 38) (b := false) (v := x48_.revs) rfl (by kernel_rfl) rfl rfl (congrArg Value.bool c53_f) (fun w hS => x_load1 rfl Try.underlying41 rfl (RC.cell (RS.rc h2) hS.2.2 (j := k * 4 + 3) (u := x48_.revs) (fm_cell GN.len hx49_ (i := 3) rfl))) hq47_ ?_
     refine A_ready (i := 18) (rs := []) (by kernel_rfl) ?_
     refine AllR.cons ?_ AllR.nil
     have H59_ := ((Holds.bring H46_ 3 rfl) :)
     refine A_opYes (ls' := #[true, true, true, true, true, true, true, true, true, true, true, true, true, true, true, true, true, true, true, false, false]) (j := 9) (dj := 38) (b := false) rfl (by kernel_rfl) rfl rfl (congrArg Value.bool c53_f) (T_call (al := [x30_.revs, x48_.revs]) (pre := []) rfl rfl cb11 (kSameRevs R x30_.revs x48_.revs x30_.l x48_.l hg35_ hg52_ (by first | assumption | omega)) H59_ ?_)
     rintro v56_ p63_ w60_ hq64_ S62_ H61_
     rcases hq64_ with ⟨rfl, rfl, he57_⟩ | ⟨rfl, rfl, he58_⟩
     ·skip
      have S65_ := Same.trans (Same.trans S44_ (Same.drew _)) S62_
      refine ⟨⟨Holds.rd H61_ 1 rfl, Holds.rd H61_ 2 rfl, (Holds.ro_at H61_ 0 rfl)⟩, ?_⟩
      have hq67_ := And.intro (Holds.rd H61_ 1 rfl) (And.intro (Holds.rd H61_ 2 rfl) ((Holds.ro_at H61_ 0 rfl)))
      refine A_tkY 19 (j := 9) (dj := 38) (b := false) (v := (Value.bool false)) rfl (by kernel_rfl) rfl rfl (congrArg Value.bool c53_f) (fun w hS => x_cast (x_not (b := true) rfl) rfl) hq67_ ?_
      refine A_tk 20 (v := (Value.bool false)) rfl (by kernel_rfl) (fun w hS => (x_pickF (congrArg Value.bool c53_f) rfl)) hq67_ ?_
      refine A_done (by kernel_rfl) ?_
      refine (X_then (hK45_ _ _ ?_))
      clear hK45_
      refine C_condF rfl ?_
      refine C_skip (X_blkN (X_then (hK28_ _ _ ?_)))
      clear hK28_
      refine C_reg ?_
      refine S_list (T_val (v := (Value.int .i64 ((k : Int) + 1))) (x_bin rfl rfl (ib_add (IntWalk.i64_in _ (by omega)))) ?_)
      refine S_list (T_val (v := (Value.int .i64 ((k : Int) + 1))) (x_move rfl) ?_)
      refine wpList_nil ?_
      refine (X_then ?_)
      have H68_ : Holds w60_ (cl b7_ 34 [(Value.int .i64 mb), (Value.int .i64 nb), v2] :: cl b2_ 34 [(Value.int .i64 ma), (Value.int .i64 na), v1] :: ro R :: F) := (Holds.pkF H61_ [2, 2, 0] 1 :)
      exact ⟨⟨k + 1, t4_v⟩, ⟨_, congrArg (fun e => mkA 51 e []) (ch (ch (ch (ch (ch rfl rfl) rfl) rfl) rfl) (congrArg (Value.int .i64) ((by first | rfl | omega | (simp; done) | (simp; omega)) : (k : Int) + 1 = ((k + 1 : Nat) : Int)))), H68_, S65_, (by first | assumption | omega | exact rfl), (by first | assumption | omega | exact rfl), (by first | assumption | omega | exact rfl), (map_snoc hq hx31_ hx49_ (gk_eq (by first | assumption | (simp_all; done) | (simp_all; omega)) (by first | assumption | (simp_all; done) | (simp_all; omega))))⟩, by first | omega | (dsimp only; omega) | (simp; omega)⟩
     ·skip
      replace H61_ : Holds w60_ (ro R :: cl b36_ 68 [(Value.int .i64 x30_.ver), (Value.int .i64 x30_.created_Main), (Value.int .i64 x30_.created_Sub), x30_.revs] :: cl b7_ 34 [(Value.int .i64 mb), (Value.int .i64 nb), v2] :: cl b2_ 34 [(Value.int .i64 ma), (Value.int .i64 na), v1] :: F) := H61_
      have S66_ := Same.trans (Same.trans S44_ (Same.drew _)) S62_
      refine ⟨⟨Holds.rd H61_ 1 rfl, Holds.rd H61_ 2 rfl, (Holds.ro_at H61_ 0 rfl)⟩, ?_⟩
      have hq69_ := And.intro (Holds.rd H61_ 1 rfl) (And.intro (Holds.rd H61_ 2 rfl) ((Holds.ro_at H61_ 0 rfl)))
      refine A_tkY 19 (j := 9) (dj := 38) (b := false) (v := (Value.bool true)) rfl (by kernel_rfl) rfl rfl (congrArg Value.bool c53_f) (fun w hS => x_cast (x_not (b := false) rfl) rfl) hq69_ ?_
      refine A_tk 20 (v := (Value.bool true)) rfl (by kernel_rfl) (fun w hS => (x_pickF (congrArg Value.bool c53_f) rfl)) hq69_ ?_
      refine A_done (by kernel_rfl) ?_
      refine (X_then (hK45_ _ _ ?_))
      clear hK45_
      refine C_condT rfl ?_
      refine C_seq (fun K70_ hK70_ => ?_)
      refine C_reg ?_
      refine S_list (T_val (v := (Value.bool false)) (x_assign rfl) ?_)
      refine wpList_nil ?_
      refine (X_then (hK70_ _ _ ?_))
      clear hK70_
      refine C_ret (X_blkR (X_thenR (X_thenR (X_blkR (X_thenR ?_)))))
      refine R_any (v := (Value.bool false)) (run_results1 rfl rfl) ?_
      have H71_ : Holds w60_ (ro R :: F) := (Holds.pkF H61_ [0] 3 :)
      exact ⟨_, _, rfl, (.inr ⟨rfl, rfl, (fun e_ => map_ne hx31_ hx49_ (gk_ne (fun e1_ => by simp_all)) e_.2)⟩), S66_, H71_⟩
   ·have c27_fp : ¬ ((k : Int) < ((List.length N1) : Int)) := of_decide_eq_false c27_f
    refine C_exit (X_thenX (X_thenX (X_blkHit ?_)))
    refine (X_then (hK20_ _ _ ?_))
    clear hK20_
    refine C_seq (fun K72_ hK72_ => ?_)
    refine C_reg ?_
    refine S_list (T_val (v := (Value.bool true)) (x_assign rfl) ?_)
    refine wpList_nil ?_
    refine (X_then (hK72_ _ _ ?_))
    clear hK72_
    refine C_ret ?_
    refine R_any (v := (Value.bool true)) (run_results1 rfl rfl) ?_
    have H73_ : Holds w22_ (ro R :: F) := (Holds.pkF H23_ [2] 2 :)
    exact ⟨_, _, rfl, (.inl ⟨rfl, rfl, (⟨by first | assumption | (simp_all; done) | (simp_all; omega), map_all hq (by omega) (by omega)⟩)⟩), S24_, H73_⟩
end Go.Proofs.Ytiblemgccgbhoaa
