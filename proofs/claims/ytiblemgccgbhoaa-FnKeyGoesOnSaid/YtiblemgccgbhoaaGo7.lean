/- Words, and proved steps, on which the proof leans. -/
import Derived.Test.YtiblemgccgbhoaaGo6
set_option linter.unusedVariables false
set_option linter.unusedSimpArgs false
namespace Go.Proofs.Ytiblemgccgbhoaa
open Go Go.RowKit Gw
open Go.Value renaming int → vI, bool → vB, slice → vS, pointer → vP, agg → vA, tuple → vT

theorem kSameRevsB (R : HP) (v1 v2 : Value) (K1 K2 : List RV) (h1 : RS R 2 v1 (List.length K1) (K1.flatMap RV.cells)) (h2 : RS R 2 v2 (List.length K2) (K2.flatMap RV.cells)) (hb1 : K1.length ≤ 100000) :
    Tri Try.prog 11 #[v1, v2] R [] (fun v__ post__ => v__ = (vB (kRevB K1 K2)) ∧ post__ = []) := by
  refine (kSameRevs R v1 v2 K1 K2 h1 h2 hb1).mono fun v post h => ?_
  rcases h with ⟨rfl, rfl, h⟩ | ⟨rfl, rfl, h⟩
  · exact ⟨by rw [kRevB_t h], rfl⟩
  · exact ⟨by rw [kRevB_f h], rfl⟩

set_option maxHeartbeats 4000000 in
theorem kSameDumpT (R : HP) (v1 v2 : Value) (N1 N2 : List GN) (m n m2 n2 : Int) (h1 : RS R 4 v1 (List.length N1) (N1.flatMap GN.cells)) (h2 : RS R 4 v2 (List.length N2) (N2.flatMap GN.cells)) (hg1 : ∀ x ∈ N1, GOk R x) (hg2 : ∀ x ∈ N2, GOk R x) (hb1 : N1.length ≤ 100000) (hb2 : ∀ x ∈ N1, x.l.length ≤ 100000) (hmn : m = m2 ∧ n = n2) (heq : N1.map GN.m = N2.map GN.m) :
    Tri Try.prog 50 #[(vA #[(vI .i64 m), (vI .i64 n), v1]), (vA #[(vI .i64 m2), (vI .i64 n2), v2])] R [] (fun v__ post__ => v__ = (vB true) ∧ post__ = []) := by
 have hln_ := congrArg List.length heq
 rw [List.length_map, List.length_map] at hln_
 refine Tri.into (n := 56) (al := [(vA #[(vI .i64 m), (vI .i64 n), v1]), (vA #[(vI .i64 m2), (vI .i64 n2), v2])]) Try.func50 rfl Try.ntmps50 rfl rfl fun w F H => ?_
 refine C_seq (fun K1_ hK1_ => C_reg ?_)
 refine S_list (T_box (v := (vA #[(vI .i64 m), (vI .i64 n), v1])) rfl H ?_)
 intro b2_ w3_ S5_ H4_
 have S6_ := Same.trans (Same.refl w) S5_
 refine S_list (T_box (v := (vA #[(vI .i64 m2), (vI .i64 n2), v2])) rfl H4_ ?_)
 intro b7_ w8_ S10_ H9_
 have S11_ := Same.trans S6_ S10_
 refine sv (v := (vB false)) (x_assign rfl) ?_
 refine wpList_nil (X_then (hK1_ _ _ ?_))
 clear hK1_
 refine C_seq (fun K12_ hK12_ => ?_)
 refine C_seq (fun K13_ hK13_ => C_reg ?_)
 refine sv (v := (vP (some ⟨b2_, 0, none⟩))) (by kernel_rfl) ?_
 refine sv (v := (vA #[(vI .i64 m), (vI .i64 n)])) (x_loadN (vs := [(vI .i64 m), (vI .i64 n)]) rfl Try.underlying31 rfl z31 rfl (Rd.cells (Holds.rd H9_ 1 rfl) 0 rfl)) ?_
 refine sv (v := (vP (some ⟨b7_, 0, none⟩))) (by kernel_rfl) ?_
 refine sv (v := (vA #[(vI .i64 m2), (vI .i64 n2)])) (x_loadN (vs := [(vI .i64 m2), (vI .i64 n2)]) rfl Try.underlying31 rfl z31 rfl (Rd.cells (Holds.rd H9_ 0 rfl) 0 rfl)) ?_
 refine sv (v := (vB (!((decide (m = m2)) && ((decide (n = n2)) && (true)))))) (x_neqS rfl rfl (by kernel_rfl) (eq_struct Try.underlying31 (by kernel_rfl) (eqf_cons rfl (run_part1 Try.underlying2 rfl rfl) (run_part1 Try.underlying2 rfl rfl) (eq_int Try.underlying2) (eqf_cons rfl (run_part1 Try.underlying2 rfl rfl) (run_part1 Try.underlying2 rfl rfl) (eq_int Try.underlying2) (eqf_nil))))) ?_
 refine sv (v := (vB (!((decide (m = m2)) && ((decide (n = n2)) && (true)))))) (x_move rfl) ?_
 rcases Bool.eq_false_or_eq_true (!((decide (m = m2)) && ((decide (n = n2)) && (true)))) with c14_t | c14_f
 ·skip
  simp [hmn.1, hmn.2] at c14_t
 ·skip
  refine S_yes (j := 5) (dj := 13) (b := false) rfl rfl (congrArg vB c14_f) (T_val (v := (vP (some ⟨b2_, 2, none⟩))) (by kernel_rfl) ?_)
  refine S_yes (j := 5) (dj := 13) (b := false) rfl rfl (congrArg vB c14_f) (T_val (v := v1) (x_load1 rfl Try.underlying32 rfl ((Holds.rd H9_ 1 rfl) 2 v1 rfl)) ?_)
  refine S_yes (j := 5) (dj := 13) (b := false) rfl rfl (congrArg vB c14_f) (T_val (v := (vI .i64 ((List.length N1) : Int))) (x_lenRS rfl h1 Try.underlying32) ?_)
  refine S_yes (j := 5) (dj := 13) (b := false) rfl rfl (congrArg vB c14_f) (T_val (v := (vP (some ⟨b7_, 2, none⟩))) (by kernel_rfl) ?_)
  refine S_yes (j := 5) (dj := 13) (b := false) rfl rfl (congrArg vB c14_f) (T_val (v := v2) (x_load1 rfl Try.underlying32 rfl ((Holds.rd H9_ 0 rfl) 2 v2 rfl)) ?_)
  refine S_yes (j := 5) (dj := 13) (b := false) rfl rfl (congrArg vB c14_f) (T_val (v := (vI .i64 ((List.length N2) : Int))) (x_lenRS rfl h2 Try.underlying32) ?_)
  refine S_yes (j := 5) (dj := 13) (b := false) rfl rfl (congrArg vB c14_f) (T_val (v := (vB (decide (((List.length N1) : Int) ≠ ((List.length N2) : Int))))) (x_bin rfl rfl rfl) ?_)
  refine S_list (T_pickF (v := (vB (decide (((List.length N1) : Int) ≠ ((List.length N2) : Int))))) (congrArg vB c14_f) rfl ?_)
  refine wpList_nil (X_then (hK13_ _ _ ?_))
  clear hK13_
  refine C_cond (b := decide (((List.length N1) : Int) ≠ ((List.length N2) : Int))) rfl (fun c15_t => ?_) (fun c15_f => ?_)
  ·have c15_tp : ((List.length N1) : Int) ≠ ((List.length N2) : Int) := of_decide_eq_true c15_t
   omega
  ·have c15_fp : ¬ (((List.length N1) : Int) ≠ ((List.length N2) : Int)) := of_decide_eq_false c15_f
   refine C_skip (X_then (hK12_ _ _ ?_))
   clear hK12_
   refine C_seq (fun K16_ hK16_ => ?_)
   refine C_seq (fun K17_ hK17_ => C_reg ?_)
   refine sv (v := (vP (some ⟨b2_, 2, none⟩))) (by kernel_rfl) ?_
   refine sv (v := v1) (x_load1 rfl Try.underlying32 rfl ((Holds.rd H9_ 1 rfl) 2 v1 rfl)) ?_
   refine sv (v := (vI .i64 ((List.length N1) : Int))) (x_lenRS rfl h1 Try.underlying32) ?_
   refine sv (v := (vI .i64 0)) (x_move rfl) ?_
   refine wpList_nil (X_then (hK17_ _ _ ?_))
   clear hK17_
   refine C_block ?_
   refine C_loop (γ := Nat × Bool) (fun x__ a__ w1__ => match x__ with | ⟨k, t4_v⟩ => ∃ h : Env, a__ = mkA 56 (upd (upd (upd (upd (upd h 3 (vP (some ⟨b7_, 0, none⟩))) 4 (vB t4_v)) 23 v1) 24 (vI .i64 ((List.length N1) : Int))) 25 (vI .i64 (k : Int))) [] ∧ Holds w1__ (cl b7_ 34 [(vI .i64 m2), (vI .i64 n2), v2] :: cl b2_ 34 [(vI .i64 m), (vI .i64 n), v1] :: ro R :: F) ∧ Same w w1__ ∧ (k ≤ N1.length)) (fun x__ => match x__ with | ⟨k, t4_v⟩ => N1.length - k) (⟨0, false⟩) ⟨_, congrArg (fun e => mkA 56 e []) (ch (ch (ch (ch (ch rfl rfl) rfl) rfl) rfl) (congrArg (vI .i64) ((by first | rfl | omega | (simp; done) | (simp; omega)) : 0 = (0 : Int)))), H9_, S11_, (by first | assumption | omega | exact rfl)⟩ ?_
   rintro ⟨k, t4_v⟩ _ w18_ ⟨h, rfl, H19_, S20_, hk⟩
   refine C_seq (fun K21_ hK21_ => C_reg ?_)
   refine sv (v := (vB (decide ((k : Int) < ((List.length N1) : Int))))) (x_bin rfl rfl rfl) ?_
   refine wpList_nil (X_then (hK21_ _ _ ?_))
   clear hK21_
   refine C_seq (fun K22_ hK22_ => ?_)
   refine C_cond (b := decide ((k : Int) < ((List.length N1) : Int))) rfl (fun c23_t => ?_) (fun c23_f => ?_)
   ·have c23_tp : (k : Int) < ((List.length N1) : Int) := of_decide_eq_true c23_t
    refine C_skip (X_then (hK22_ _ _ ?_))
    clear hK22_
    refine C_seq (fun K24_ hK24_ => ?_)
    refine C_block ?_
    refine C_seq (fun K25_ hK25_ => C_reg ?_)
    refine sv (v := (vI .i64 (k : Int))) (x_move rfl) ?_
    obtain ⟨x26_, hx27_, hm28_⟩ := elem_at N1 k (by omega)
    have hp29_ := hg1 x26_ hm28_
    have hp30_ := hb2 x26_ hm28_
    have hg31_ := hg1 x26_ hm28_
    have hqb_ := hb2 x26_ hm28_
    refine sv (v := (vP (some ⟨(sb v1), so v1 + (k * 4 + 0), none⟩))) (x_idxRS (v := v1) rfl h1 rfl Try.underlying32 z68 (by omega) (by omega) (by omega : _ = k) rfl) ?_
    refine sv (v := (vA #[(vI .i64 x26_.ver), (vI .i64 x26_.created_Main), (vI .i64 x26_.created_Sub), x26_.revs])) (x_loadN (vs := [(vI .i64 x26_.ver), (vI .i64 x26_.created_Main), (vI .i64 x26_.created_Sub), x26_.revs]) rfl Try.underlying68 rfl z68 rfl (RC.cells (RS.rc h1) (Holds.ro_at H19_ 2 rfl) (k * 4 + 0) (fm_cells GN.len hx27_ (i := 0) rfl))) ?_
    refine S_list (T_alloc z68 H19_ ?_)
    intro b32_ w33_ S35_ H34_
    have S36_ := Same.trans S20_ S35_
    refine sv (v := (vI .i64 (k : Int))) (x_assign rfl) ?_
    refine S_list0 (T_storeN (vs := [(vI .i64 x26_.ver), (vI .i64 x26_.created_Main), (vI .i64 x26_.created_Sub), x26_.revs]) rfl rfl z68 rfl (List.forall_mem_cons.2 ⟨rfl, (List.forall_mem_cons.2 ⟨rfl, (List.forall_mem_cons.2 ⟨rfl, (List.forall_mem_cons.2 ⟨(RS.one hg31_), (fun _ h__ => by cases h__)⟩)⟩)⟩)⟩) H34_ 0 rfl (Nat.le_of_ble_eq_true (by rfl)) ?_)
    intro w37_ S39_ H38_
    have S40_ := Same.trans S36_ S39_
    refine wpList_nil (X_then (hK25_ _ _ ?_))
    clear hK25_
    refine C_seq (fun K41_ hK41_ => C_reg ?_)
    refine sv (v := (vP (some ⟨b7_, 2, none⟩))) (by kernel_rfl) ?_
    refine sv (v := v2) (x_load1 rfl Try.underlying32 rfl ((Holds.rd H38_ 1 rfl) 2 v2 rfl)) ?_
    refine sv (v := (vI .i64 (k : Int))) (x_move rfl) ?_
    obtain ⟨x42_, hx43_, hm44_⟩ := elem_at N2 k (by omega)
    have hp45_ := hg2 x42_ hm44_
    have hg46_ := hg2 x42_ hm44_
    obtain ⟨hq1_, hq2_, hq3_, hq4_⟩ := mEq_at heq hx27_ hx43_
    refine sv (v := (vP (some ⟨(sb v2), so v2 + (k * 4 + 0), none⟩))) (x_idxRS (v := v2) rfl h2 rfl Try.underlying32 z68 (by omega) (by omega) (by omega : _ = k) rfl) ?_
    refine sv (v := (vA #[(vI .i64 x42_.ver), (vI .i64 x42_.created_Main), (vI .i64 x42_.created_Sub), x42_.revs])) (x_loadN (vs := [(vI .i64 x42_.ver), (vI .i64 x42_.created_Main), (vI .i64 x42_.created_Sub), x42_.revs]) rfl Try.underlying68 rfl z68 rfl (RC.cells (RS.rc h2) (Holds.ro_at H38_ 3 rfl) (k * 4 + 0) (fm_cells GN.len hx43_ (i := 0) rfl))) ?_
    refine S_list (T_alloc z68 H38_ ?_)
    intro b47_ w48_ S50_ H49_
    have S51_ := Same.trans S40_ S50_
    refine S_list0 (T_storeN (vs := [(vI .i64 x42_.ver), (vI .i64 x42_.created_Main), (vI .i64 x42_.created_Sub), x42_.revs]) rfl rfl z68 rfl (List.forall_mem_cons.2 ⟨rfl, (List.forall_mem_cons.2 ⟨rfl, (List.forall_mem_cons.2 ⟨rfl, (List.forall_mem_cons.2 ⟨(RS.one hg46_), (fun _ h__ => by cases h__)⟩)⟩)⟩)⟩) H49_ 0 rfl (Nat.le_of_ble_eq_true (by rfl)) ?_)
    intro w52_ S54_ H53_
    have S55_ := Same.trans S51_ S54_
    refine wpList_nil (X_then (hK41_ _ _ ?_))
    clear hK41_
    refine C_seq (fun K56_ hK56_ => C_reg ?_)
    refine sv (v := (vP (some ⟨b32_, 0, none⟩))) (by kernel_rfl) ?_
    refine sv (v := (vI .i64 x26_.ver)) (x_load1 rfl Try.underlying2 rfl ((Holds.rd H53_ 1 rfl) 0 (vI .i64 x26_.ver) rfl)) ?_
    refine sv (v := (vP (some ⟨b47_, 0, none⟩))) (by kernel_rfl) ?_
    refine sv (v := (vI .i64 x42_.ver)) (x_load1 rfl Try.underlying2 rfl ((Holds.rd H53_ 0 rfl) 0 (vI .i64 x42_.ver) rfl)) ?_
    refine sv (v := (vB (decide (x26_.ver ≠ x42_.ver)))) (x_bin rfl rfl rfl) ?_
    refine sv (v := (vB (decide (x26_.ver ≠ x42_.ver)))) (x_move rfl) ?_
    rcases Bool.eq_false_or_eq_true (decide (x26_.ver ≠ x42_.ver)) with c57_t | c57_f
    ·have c57_tp : x26_.ver ≠ x42_.ver := of_decide_eq_true c57_t
     simp [hq1_, hq2_, hq3_] at c57_t
    ·have c57_fp : ¬ (x26_.ver ≠ x42_.ver) := of_decide_eq_false c57_f
     refine S_yes (j := 5) (dj := 40) (b := false) rfl rfl (congrArg vB c57_f) (T_val (v := (vP (some ⟨b32_, 1, none⟩))) (by kernel_rfl) ?_)
     refine S_yes (j := 5) (dj := 40) (b := false) rfl rfl (congrArg vB c57_f) (T_val (v := (vA #[(vI .i64 x26_.created_Main), (vI .i64 x26_.created_Sub)])) (x_loadN (vs := [(vI .i64 x26_.created_Main), (vI .i64 x26_.created_Sub)]) rfl Try.underlying31 rfl z31 rfl (Rd.cells (Holds.rd H53_ 1 rfl) 1 rfl)) ?_)
     refine S_yes (j := 5) (dj := 40) (b := false) rfl rfl (congrArg vB c57_f) (T_val (v := (vP (some ⟨b47_, 1, none⟩))) (by kernel_rfl) ?_)
     refine S_yes (j := 5) (dj := 40) (b := false) rfl rfl (congrArg vB c57_f) (T_val (v := (vA #[(vI .i64 x42_.created_Main), (vI .i64 x42_.created_Sub)])) (x_loadN (vs := [(vI .i64 x42_.created_Main), (vI .i64 x42_.created_Sub)]) rfl Try.underlying31 rfl z31 rfl (Rd.cells (Holds.rd H53_ 0 rfl) 1 rfl)) ?_)
     refine S_yes (j := 5) (dj := 40) (b := false) rfl rfl (congrArg vB c57_f) (T_val (v := (vB (!((decide (x26_.created_Main = x42_.created_Main)) && ((decide (x26_.created_Sub = x42_.created_Sub)) && (true)))))) (x_neqS rfl rfl (by kernel_rfl) (eq_struct Try.underlying31 (by kernel_rfl) (eqf_cons rfl (run_part1 Try.underlying2 rfl rfl) (run_part1 Try.underlying2 rfl rfl) (eq_int Try.underlying2) (eqf_cons rfl (run_part1 Try.underlying2 rfl rfl) (run_part1 Try.underlying2 rfl rfl) (eq_int Try.underlying2) (eqf_nil))))) ?_)
     refine S_list (T_pickF (v := (vB (!((decide (x26_.created_Main = x42_.created_Main)) && ((decide (x26_.created_Sub = x42_.created_Sub)) && (true)))))) (congrArg vB c57_f) rfl ?_)
     refine sv (v := (vB (!((decide (x26_.created_Main = x42_.created_Main)) && ((decide (x26_.created_Sub = x42_.created_Sub)) && (true)))))) (x_move rfl) ?_
     rcases Bool.eq_false_or_eq_true (!((decide (x26_.created_Main = x42_.created_Main)) && ((decide (x26_.created_Sub = x42_.created_Sub)) && (true)))) with c58_t | c58_f
     ·skip
      simp [hq1_, hq2_, hq3_] at c58_t
     ·skip
      refine S_yes (j := 12) (dj := 47) (b := false) rfl rfl (congrArg vB c58_f) (T_val (v := (vP (some ⟨b32_, 3, none⟩))) (by kernel_rfl) ?_)
      refine S_yes (j := 12) (dj := 47) (b := false) rfl rfl (congrArg vB c58_f) (T_val (v := x26_.revs) (x_load1 rfl Try.underlying41 rfl ((Holds.rd H53_ 1 rfl) 3 x26_.revs rfl)) ?_)
      refine S_yes (j := 12) (dj := 47) (b := false) rfl rfl (congrArg vB c58_f) (T_val (v := (vP (some ⟨b47_, 3, none⟩))) (by kernel_rfl) ?_)
      refine S_yes (j := 12) (dj := 47) (b := false) rfl rfl (congrArg vB c58_f) (T_val (v := x42_.revs) (x_load1 rfl Try.underlying41 rfl ((Holds.rd H53_ 0 rfl) 3 x42_.revs rfl)) ?_)
      have H60_ := ((Holds.bring H53_ 4 rfl) :)
      refine S_yes (j := 12) (dj := 47) (b := false) rfl rfl (congrArg vB c58_f) (T_call (al := [x26_.revs, x42_.revs]) (pre := []) rfl rfl cb11 (kSameRevsB R x26_.revs x42_.revs x26_.l x42_.l hg31_ hg46_ (by first | assumption | omega)) H60_ ?_)
      rintro v59_ p64_ w61_ ⟨rfl, rfl⟩ S63_ H62_
      have S65_ := Same.trans S55_ S63_
      refine S_yes (j := 12) (dj := 47) (b := false) rfl rfl (congrArg vB c58_f) (T_val (v := (vB (!(kRevB x26_.l x42_.l)))) (x_not rfl) ?_)
      refine S_list (T_pickF (v := (vB (!(kRevB x26_.l x42_.l)))) (congrArg vB c58_f) rfl ?_)
      refine wpList_nil (X_then (hK56_ _ _ ?_))
      clear hK56_
      refine C_cond (b := !(kRevB x26_.l x42_.l)) rfl (fun c66_t => ?_) (fun c66_f => ?_)
      ·skip
       rw [kRevB_t hq4_] at c66_t; cases c66_t
      ·skip
       refine C_skip (X_blkN (X_then (hK24_ _ _ ?_)))
       clear hK24_
       refine C_reg ?_
       refine sv (v := (vI .i64 ((k : Int) + 1))) (x_bin rfl rfl (ib_add (IntWalk.i64_in _ (by omega)))) ?_
       refine sv (v := (vI .i64 ((k : Int) + 1))) (x_move rfl) ?_
       refine wpList_nil (X_then ?_)
       have H67_ : Holds w61_ (cl b7_ 34 [(vI .i64 m2), (vI .i64 n2), v2] :: cl b2_ 34 [(vI .i64 m), (vI .i64 n), v1] :: ro R :: F) := (Holds.pkF H62_ [3, 3, 0] 2 :)
       exact ⟨⟨k + 1, t4_v⟩, ⟨_, congrArg (fun e => mkA 56 e []) (ch (ch (ch (ch (ch rfl rfl) rfl) rfl) rfl) (congrArg (vI .i64) ((by first | rfl | omega | (simp; done) | (simp; omega)) : (k : Int) + 1 = ((k + 1 : Nat) : Int)))), H67_, S65_, (by first | assumption | omega | exact rfl)⟩, by first | omega | (dsimp only; omega) | (simp; omega)⟩
   ·have c23_fp : ¬ ((k : Int) < ((List.length N1) : Int)) := of_decide_eq_false c23_f
    refine C_exit (X_thenX (X_thenX (X_blkHit ?_)))
    refine (X_then (hK16_ _ _ ?_))
    clear hK16_
    refine C_seq (fun K68_ hK68_ => C_reg ?_)
    refine sv (v := (vB true)) (x_assign rfl) ?_
    refine wpList_nil (X_then (hK68_ _ _ ?_))
    clear hK68_
    refine C_ret ?_
    refine R_any (v := (vB true)) (run_results1 rfl rfl) ?_
    have H69_ : Holds w18_ (ro R :: F) := (Holds.pkF H19_ [2] 2 :)
    exact ⟨_, _, rfl, ⟨rfl, rfl⟩, S20_, H69_⟩

set_option maxHeartbeats 4000000 in
theorem kKySameT (R : HP) (x y : KA) (hx : KOk R x) (hy : KOk R y) (heq : x.m = y.m) (hb : KBd x.m) :
    Tri Try.prog 24 #[(vA #[(vB x.oK), (vI .i64 x.mod_Main), (vI .i64 x.mod_Sub), (vI .i64 x.created_Main), (vI .i64 x.created_Sub), (vI .i64 x.ver), x.revs, (vI .i64 x.dump_Modified_Main), (vI .i64 x.dump_Modified_Sub), x.dump_Gens]), (vA #[(vB y.oK), (vI .i64 y.mod_Main), (vI .i64 y.mod_Sub), (vI .i64 y.created_Main), (vI .i64 y.created_Sub), (vI .i64 y.ver), y.revs, (vI .i64 y.dump_Modified_Main), (vI .i64 y.dump_Modified_Sub), y.dump_Gens])] R [] (fun v__ post__ => v__ = (vB true) ∧ post__ = []) := by
 obtain ⟨⟨hq1_, hq2_, hq3_, hq4_, hq5_, hq6_⟩, hq7_, hq8_, hq9_, hq0_⟩ := kmEq heq
 obtain ⟨hz1_, hz2_, hz3_⟩ := hb.gl
 refine Tri.into (n := 45) (al := [(vA #[(vB x.oK), (vI .i64 x.mod_Main), (vI .i64 x.mod_Sub), (vI .i64 x.created_Main), (vI .i64 x.created_Sub), (vI .i64 x.ver), x.revs, (vI .i64 x.dump_Modified_Main), (vI .i64 x.dump_Modified_Sub), x.dump_Gens]), (vA #[(vB y.oK), (vI .i64 y.mod_Main), (vI .i64 y.mod_Sub), (vI .i64 y.created_Main), (vI .i64 y.created_Sub), (vI .i64 y.ver), y.revs, (vI .i64 y.dump_Modified_Main), (vI .i64 y.dump_Modified_Sub), y.dump_Gens])]) Try.func24 rfl Try.ntmps24 rfl rfl fun w F H => ?_
 refine C_seq (fun K1_ hK1_ => C_reg ?_)
 refine S_list (T_box (v := (vA #[(vB x.oK), (vI .i64 x.mod_Main), (vI .i64 x.mod_Sub), (vI .i64 x.created_Main), (vI .i64 x.created_Sub), (vI .i64 x.ver), x.revs, (vI .i64 x.dump_Modified_Main), (vI .i64 x.dump_Modified_Sub), x.dump_Gens])) rfl H ?_)
 intro b2_ w3_ S5_ H4_
 have S6_ := Same.trans (Same.refl w) S5_
 refine S_list (T_box (v := (vA #[(vB y.oK), (vI .i64 y.mod_Main), (vI .i64 y.mod_Sub), (vI .i64 y.created_Main), (vI .i64 y.created_Sub), (vI .i64 y.ver), y.revs, (vI .i64 y.dump_Modified_Main), (vI .i64 y.dump_Modified_Sub), y.dump_Gens])) rfl H4_ ?_)
 intro b7_ w8_ S10_ H9_
 have S11_ := Same.trans S6_ S10_
 refine sv (v := (vB false)) (x_assign rfl) ?_
 refine wpList_nil (X_then (hK1_ _ _ ?_))
 clear hK1_
 refine C_seq (fun K12_ hK12_ => C_reg ?_)
 refine sv (v := (vP (some ⟨b2_, 0, none⟩))) (by kernel_rfl) ?_
 refine sv (v := (vB x.oK)) (x_load1 rfl Try.underlying4 rfl ((Holds.rd H9_ 1 rfl) 0 (vB x.oK) rfl)) ?_
 refine sv (v := (vP (some ⟨b7_, 0, none⟩))) (by kernel_rfl) ?_
 refine sv (v := (vB y.oK)) (x_load1 rfl Try.underlying4 rfl ((Holds.rd H9_ 0 rfl) 0 (vB y.oK) rfl)) ?_
 refine sv (v := (vB (x.oK == y.oK))) (x_eqB rfl rfl Try.underlying4) ?_
 refine sv (v := (vB (x.oK == y.oK))) (x_move rfl) ?_
 rcases Bool.eq_false_or_eq_true ((x.oK == y.oK)) with c13_t | c13_f
 ·skip
  refine S_yes (j := 5) (dj := 10) (b := true) rfl rfl (congrArg vB c13_t) (T_val (v := (vP (some ⟨b2_, 1, none⟩))) (by kernel_rfl) ?_)
  refine S_yes (j := 5) (dj := 10) (b := true) rfl rfl (congrArg vB c13_t) (T_val (v := (vA #[(vI .i64 x.mod_Main), (vI .i64 x.mod_Sub)])) (x_loadN (vs := [(vI .i64 x.mod_Main), (vI .i64 x.mod_Sub)]) rfl Try.underlying31 rfl z31 rfl (Rd.cells (Holds.rd H9_ 1 rfl) 1 rfl)) ?_)
  refine S_yes (j := 5) (dj := 10) (b := true) rfl rfl (congrArg vB c13_t) (T_val (v := (vP (some ⟨b7_, 1, none⟩))) (by kernel_rfl) ?_)
  refine S_yes (j := 5) (dj := 10) (b := true) rfl rfl (congrArg vB c13_t) (T_val (v := (vA #[(vI .i64 y.mod_Main), (vI .i64 y.mod_Sub)])) (x_loadN (vs := [(vI .i64 y.mod_Main), (vI .i64 y.mod_Sub)]) rfl Try.underlying31 rfl z31 rfl (Rd.cells (Holds.rd H9_ 0 rfl) 1 rfl)) ?_)
  refine S_yes (j := 5) (dj := 10) (b := true) rfl rfl (congrArg vB c13_t) (T_val (v := (vB ((decide (x.mod_Main = y.mod_Main)) && ((decide (x.mod_Sub = y.mod_Sub)) && (true))))) (x_eqS rfl rfl (by kernel_rfl) (eq_struct Try.underlying31 (by kernel_rfl) (eqf_cons rfl (run_part1 Try.underlying2 rfl rfl) (run_part1 Try.underlying2 rfl rfl) (eq_int Try.underlying2) (eqf_cons rfl (run_part1 Try.underlying2 rfl rfl) (run_part1 Try.underlying2 rfl rfl) (eq_int Try.underlying2) (eqf_nil))))) ?_)
  refine S_list (T_pickT (v := (vB ((decide (x.mod_Main = y.mod_Main)) && ((decide (x.mod_Sub = y.mod_Sub)) && (true))))) (congrArg vB c13_t) rfl ?_)
  refine sv (v := (vB ((decide (x.mod_Main = y.mod_Main)) && ((decide (x.mod_Sub = y.mod_Sub)) && (true))))) (x_move rfl) ?_
  rcases Bool.eq_false_or_eq_true ((decide (x.mod_Main = y.mod_Main)) && ((decide (x.mod_Sub = y.mod_Sub)) && (true))) with c14_t | c14_f
  ·skip
   refine S_yes (j := 12) (dj := 17) (b := true) rfl rfl (congrArg vB c14_t) (T_val (v := (vP (some ⟨b2_, 3, none⟩))) (by kernel_rfl) ?_)
   refine S_yes (j := 12) (dj := 17) (b := true) rfl rfl (congrArg vB c14_t) (T_val (v := (vA #[(vI .i64 x.created_Main), (vI .i64 x.created_Sub)])) (x_loadN (vs := [(vI .i64 x.created_Main), (vI .i64 x.created_Sub)]) rfl Try.underlying31 rfl z31 rfl (Rd.cells (Holds.rd H9_ 1 rfl) 3 rfl)) ?_)
   refine S_yes (j := 12) (dj := 17) (b := true) rfl rfl (congrArg vB c14_t) (T_val (v := (vP (some ⟨b7_, 3, none⟩))) (by kernel_rfl) ?_)
   refine S_yes (j := 12) (dj := 17) (b := true) rfl rfl (congrArg vB c14_t) (T_val (v := (vA #[(vI .i64 y.created_Main), (vI .i64 y.created_Sub)])) (x_loadN (vs := [(vI .i64 y.created_Main), (vI .i64 y.created_Sub)]) rfl Try.underlying31 rfl z31 rfl (Rd.cells (Holds.rd H9_ 0 rfl) 3 rfl)) ?_)
   refine S_yes (j := 12) (dj := 17) (b := true) rfl rfl (congrArg vB c14_t) (T_val (v := (vB ((decide (x.created_Main = y.created_Main)) && ((decide (x.created_Sub = y.created_Sub)) && (true))))) (x_eqS rfl rfl (by kernel_rfl) (eq_struct Try.underlying31 (by kernel_rfl) (eqf_cons rfl (run_part1 Try.underlying2 rfl rfl) (run_part1 Try.underlying2 rfl rfl) (eq_int Try.underlying2) (eqf_cons rfl (run_part1 Try.underlying2 rfl rfl) (run_part1 Try.underlying2 rfl rfl) (eq_int Try.underlying2) (eqf_nil))))) ?_)
   refine S_list (T_pickT (v := (vB ((decide (x.created_Main = y.created_Main)) && ((decide (x.created_Sub = y.created_Sub)) && (true))))) (congrArg vB c14_t) rfl ?_)
   refine sv (v := (vB ((decide (x.created_Main = y.created_Main)) && ((decide (x.created_Sub = y.created_Sub)) && (true))))) (x_move rfl) ?_
   rcases Bool.eq_false_or_eq_true ((decide (x.created_Main = y.created_Main)) && ((decide (x.created_Sub = y.created_Sub)) && (true))) with c15_t | c15_f
   ·skip
    refine S_yes (j := 19) (dj := 24) (b := true) rfl rfl (congrArg vB c15_t) (T_val (v := (vP (some ⟨b2_, 5, none⟩))) (by kernel_rfl) ?_)
    refine S_yes (j := 19) (dj := 24) (b := true) rfl rfl (congrArg vB c15_t) (T_val (v := (vI .i64 x.ver)) (x_load1 rfl Try.underlying2 rfl ((Holds.rd H9_ 1 rfl) 5 (vI .i64 x.ver) rfl)) ?_)
    refine S_yes (j := 19) (dj := 24) (b := true) rfl rfl (congrArg vB c15_t) (T_val (v := (vP (some ⟨b7_, 5, none⟩))) (by kernel_rfl) ?_)
    refine S_yes (j := 19) (dj := 24) (b := true) rfl rfl (congrArg vB c15_t) (T_val (v := (vI .i64 y.ver)) (x_load1 rfl Try.underlying2 rfl ((Holds.rd H9_ 0 rfl) 5 (vI .i64 y.ver) rfl)) ?_)
    refine S_yes (j := 19) (dj := 24) (b := true) rfl rfl (congrArg vB c15_t) (T_val (v := (vB (decide (x.ver = y.ver)))) (x_bin rfl rfl rfl) ?_)
    refine S_list (T_pickT (v := (vB (decide (x.ver = y.ver)))) (congrArg vB c15_t) rfl ?_)
    refine sv (v := (vB (decide (x.ver = y.ver)))) (x_move rfl) ?_
    rcases Bool.eq_false_or_eq_true (decide (x.ver = y.ver)) with c16_t | c16_f
    ·have c16_tp : x.ver = y.ver := of_decide_eq_true c16_t
     refine S_yes (j := 26) (dj := 31) (b := true) rfl rfl (congrArg vB c16_t) (T_val (v := (vP (some ⟨b2_, 6, none⟩))) (by kernel_rfl) ?_)
     refine S_yes (j := 26) (dj := 31) (b := true) rfl rfl (congrArg vB c16_t) (T_val (v := x.revs) (x_load1 rfl Try.underlying41 rfl ((Holds.rd H9_ 1 rfl) 6 x.revs rfl)) ?_)
     refine S_yes (j := 26) (dj := 31) (b := true) rfl rfl (congrArg vB c16_t) (T_val (v := (vP (some ⟨b7_, 6, none⟩))) (by kernel_rfl) ?_)
     refine S_yes (j := 26) (dj := 31) (b := true) rfl rfl (congrArg vB c16_t) (T_val (v := y.revs) (x_load1 rfl Try.underlying41 rfl ((Holds.rd H9_ 0 rfl) 6 y.revs rfl)) ?_)
     have H18_ := ((Holds.bring H9_ 2 rfl) :)
     refine S_yes (j := 26) (dj := 31) (b := true) rfl rfl (congrArg vB c16_t) (T_call (al := [x.revs, y.revs]) (pre := []) rfl rfl cb11 (kSameRevsB R x.revs y.revs x.rl y.rl hx.1 hy.1 (by first | assumption | omega)) H18_ ?_)
     rintro v17_ p22_ w19_ ⟨rfl, rfl⟩ S21_ H20_
     have S23_ := Same.trans S11_ S21_
     refine S_list (T_pickT (v := (vB (kRevB x.rl y.rl))) (congrArg vB c16_t) rfl ?_)
     refine sv (v := (vB (kRevB x.rl y.rl))) (x_move rfl) ?_
     rcases Bool.eq_false_or_eq_true (kRevB x.rl y.rl) with c24_t | c24_f
     ·skip
      refine S_yes (j := 33) (dj := 38) (b := true) rfl rfl (congrArg vB c24_t) (T_val (v := (vP (some ⟨b2_, 7, none⟩))) (by kernel_rfl) ?_)
      refine S_yes (j := 33) (dj := 38) (b := true) rfl rfl (congrArg vB c24_t) (T_val (v := (vA #[(vI .i64 x.dump_Modified_Main), (vI .i64 x.dump_Modified_Sub), x.dump_Gens])) (x_loadN (vs := [(vI .i64 x.dump_Modified_Main), (vI .i64 x.dump_Modified_Sub), x.dump_Gens]) rfl Try.underlying34 rfl z34 rfl (Rd.cells (Holds.rd H20_ 2 rfl) 7 rfl)) ?_)
      refine S_yes (j := 33) (dj := 38) (b := true) rfl rfl (congrArg vB c24_t) (T_val (v := (vP (some ⟨b7_, 7, none⟩))) (by kernel_rfl) ?_)
      refine S_yes (j := 33) (dj := 38) (b := true) rfl rfl (congrArg vB c24_t) (T_val (v := (vA #[(vI .i64 y.dump_Modified_Main), (vI .i64 y.dump_Modified_Sub), y.dump_Gens])) (x_loadN (vs := [(vI .i64 y.dump_Modified_Main), (vI .i64 y.dump_Modified_Sub), y.dump_Gens]) rfl Try.underlying34 rfl z34 rfl (Rd.cells (Holds.rd H20_ 1 rfl) 7 rfl)) ?_)
      refine S_yes (j := 33) (dj := 38) (b := true) rfl rfl (congrArg vB c24_t) (T_call (al := [(vA #[(vI .i64 x.dump_Modified_Main), (vI .i64 x.dump_Modified_Sub), x.dump_Gens]), (vA #[(vI .i64 y.dump_Modified_Main), (vI .i64 y.dump_Modified_Sub), y.dump_Gens])]) (pre := []) rfl rfl cb50 (kSameDumpT R x.dump_Gens y.dump_Gens x.gl y.gl x.dump_Modified_Main x.dump_Modified_Sub y.dump_Modified_Main y.dump_Modified_Sub hx.2.1 hy.2.1 (hx.2.2) (hy.2.2) (hz2_) (hz3_) (⟨hq8_, hq9_⟩) (hq0_)) H20_ ?_)
      rintro v25_ p29_ w26_ ⟨rfl, rfl⟩ S28_ H27_
      have S30_ := Same.trans S23_ S28_
      refine S_list (T_pickT (v := (vB true)) (congrArg vB c24_t) rfl ?_)
      refine sv (v := (vB true)) (x_assign rfl) ?_
      refine wpList_nil (X_then (hK12_ _ _ ?_))
      clear hK12_
      refine C_ret ?_
      refine R_any (v := (vB true)) (run_results1 rfl rfl) ?_
      have H31_ : Holds w26_ (ro R :: F) := (Holds.pkF H27_ [0] 2 :)
      exact ⟨_, _, rfl, ⟨rfl, rfl⟩, S30_, H31_⟩
     ·skip
      rw [kRevB_t hq7_] at c24_f; cases c24_f
    ·have c16_fp : ¬ (x.ver = y.ver) := of_decide_eq_false c16_f
     simp [hq1_, hq2_, hq3_, hq4_, hq5_, hq6_] at c16_f
   ·skip
    simp [hq1_, hq2_, hq3_, hq4_, hq5_, hq6_] at c15_f
  ·skip
   simp [hq1_, hq2_, hq3_, hq4_, hq5_, hq6_] at c14_f
 ·skip
  simp [hq1_, hq2_, hq3_, hq4_, hq5_, hq6_] at c13_f

set_option maxHeartbeats 4000000 in
theorem kAlikeT (R : HP) (v1 v2 : Value) (A1 A2 : List KA) (h1 : RS R 10 v1 (List.length A1) (A1.flatMap KA.cells)) (h2 : RS R 10 v2 (List.length A2) (A2.flatMap KA.cells)) (hk1 : ∀ x ∈ A1, KOk R x) (hk2 : ∀ x ∈ A2, KOk R x) (heq : A1.map KA.m = A2.map KA.m) (hbd : ∀ a ∈ A1.map KA.m, KBd a) (hal : A1.length ≤ 100000) :
    Tri Try.prog 10 #[v1, v2] R [] (fun v__ post__ => v__ = (vB true) ∧ post__ = []) := by
 have hln_ := congrArg List.length heq
 rw [List.length_map, List.length_map] at hln_
 refine Tri.into (n := 27) (al := [v1, v2]) Try.func10 rfl Try.ntmps10 rfl rfl fun w F H => ?_
 refine C_seq (fun K1_ hK1_ => C_reg ?_)
 refine sv (v := (vB false)) (x_assign rfl) ?_
 refine wpList_nil (X_then (hK1_ _ _ ?_))
 clear hK1_
 refine C_seq (fun K2_ hK2_ => ?_)
 refine C_seq (fun K3_ hK3_ => C_reg ?_)
 refine sv (v := v1) (x_move rfl) ?_
 refine sv (v := (vI .i64 ((List.length A1) : Int))) (x_lenRS rfl h1 Try.underlying24) ?_
 refine sv (v := v2) (x_move rfl) ?_
 refine sv (v := (vI .i64 ((List.length A2) : Int))) (x_lenRS rfl h2 Try.underlying24) ?_
 refine sv (v := (vB (decide (((List.length A1) : Int) ≠ ((List.length A2) : Int))))) (x_bin rfl rfl rfl) ?_
 refine wpList_nil (X_then (hK3_ _ _ ?_))
 clear hK3_
 refine C_cond (b := decide (((List.length A1) : Int) ≠ ((List.length A2) : Int))) rfl (fun c4_t => ?_) (fun c4_f => ?_)
 ·have c4_tp : ((List.length A1) : Int) ≠ ((List.length A2) : Int) := of_decide_eq_true c4_t
  omega
 ·have c4_fp : ¬ (((List.length A1) : Int) ≠ ((List.length A2) : Int)) := of_decide_eq_false c4_f
  refine C_skip (X_then (hK2_ _ _ ?_))
  clear hK2_
  refine C_seq (fun K5_ hK5_ => ?_)
  refine C_seq (fun K6_ hK6_ => C_reg ?_)
  refine sv (v := v1) (x_move rfl) ?_
  refine sv (v := (vI .i64 ((List.length A1) : Int))) (x_lenRS rfl h1 Try.underlying24) ?_
  refine sv (v := (vI .i64 0)) (x_move rfl) ?_
  refine wpList_nil (X_then (hK6_ _ _ ?_))
  clear hK6_
  refine C_block ?_
  refine C_loop (γ := Nat × Bool) (fun x__ a__ w1__ => match x__ with | ⟨k, t4_v⟩ => ∃ h : Env, a__ = mkA 27 (upd (upd (upd (upd (upd h 0 v1) 1 v2) 4 (vB t4_v)) 12 (vI .i64 ((List.length A1) : Int))) 13 (vI .i64 (k : Int))) [] ∧ Holds w1__ (ro R :: F) ∧ Same w w1__ ∧ (k ≤ A1.length)) (fun x__ => match x__ with | ⟨k, t4_v⟩ => A1.length - k) (⟨0, false⟩) ⟨_, congrArg (fun e => mkA 27 e []) (ch (ch (ch (ch (ch rfl rfl) rfl) rfl) rfl) (congrArg (vI .i64) ((by first | rfl | omega | (simp; done) | (simp; omega)) : 0 = (0 : Int)))), H, (Same.refl w), (by first | assumption | omega | exact rfl)⟩ ?_
  rintro ⟨k, t4_v⟩ _ w7_ ⟨h, rfl, H8_, S9_, hk⟩
  refine C_seq (fun K10_ hK10_ => C_reg ?_)
  refine sv (v := (vB (decide ((k : Int) < ((List.length A1) : Int))))) (x_bin rfl rfl rfl) ?_
  refine wpList_nil (X_then (hK10_ _ _ ?_))
  clear hK10_
  refine C_seq (fun K11_ hK11_ => ?_)
  refine C_cond (b := decide ((k : Int) < ((List.length A1) : Int))) rfl (fun c12_t => ?_) (fun c12_f => ?_)
  ·have c12_tp : (k : Int) < ((List.length A1) : Int) := of_decide_eq_true c12_t
   refine C_skip (X_then (hK11_ _ _ ?_))
   clear hK11_
   refine C_seq (fun K13_ hK13_ => ?_)
   refine C_block ?_
   refine C_seq (fun K14_ hK14_ => C_reg ?_)
   refine sv (v := (vI .i64 (k : Int))) (x_move rfl) ?_
   refine sv (v := (vI .i64 (k : Int))) (x_assign rfl) ?_
   refine wpList_nil (X_then (hK14_ _ _ ?_))
   clear hK14_
   refine C_seq (fun K15_ hK15_ => ?_)
   refine A_start (S := fun w => Sub R (hp w)) (N := 10) foll rfl rfl ?_
   have H16_ := Holds.drew_ H8_
   have hq17_ := ((Holds.ro_at H16_ 0 rfl))
   refine A_tk 0 (v := v1) rfl (by kernel_rfl) (fun w hS => x_move rfl) hq17_ ?_
   refine A_tk 1 (v := (vI .i64 (k : Int))) rfl (by kernel_rfl) (fun w hS => x_move rfl) hq17_ ?_
   obtain ⟨x18_, hx19_, hm20_⟩ := elem_at A1 k (by omega)
   have hp21_ := hk1 x18_ hm20_
   refine A_tk 2 (v := (vP (some ⟨(sb v1), so v1 + (k * 10 + 0), none⟩))) rfl (by kernel_rfl) (fun w hS => x_idxRS (v := v1) rfl h1 rfl Try.underlying24 z43 (by omega) (by omega) (by omega : _ = k) rfl) hq17_ ?_
   refine A_tk 3 (v := (vA #[(vB x18_.oK), (vI .i64 x18_.mod_Main), (vI .i64 x18_.mod_Sub), (vI .i64 x18_.created_Main), (vI .i64 x18_.created_Sub), (vI .i64 x18_.ver), x18_.revs, (vI .i64 x18_.dump_Modified_Main), (vI .i64 x18_.dump_Modified_Sub), x18_.dump_Gens])) rfl (by kernel_rfl) (fun w hS => x_loadN (vs := [(vB x18_.oK), (vI .i64 x18_.mod_Main), (vI .i64 x18_.mod_Sub), (vI .i64 x18_.created_Main), (vI .i64 x18_.created_Sub), (vI .i64 x18_.ver), x18_.revs, (vI .i64 x18_.dump_Modified_Main), (vI .i64 x18_.dump_Modified_Sub), x18_.dump_Gens]) rfl Try.underlying43 rfl z43 rfl (RC.cells (RS.rc h1) hS (k * 10 + 0) (fm_cells KA.len hx19_ (i := 0) rfl))) hq17_ ?_
   refine A_tk 4 (v := v2) rfl (by kernel_rfl) (fun w hS => x_move rfl) hq17_ ?_
   refine A_tk 5 (v := (vI .i64 (k : Int))) rfl (by kernel_rfl) (fun w hS => x_move rfl) hq17_ ?_
   obtain ⟨x22_, hx23_, hm24_⟩ := elem_at A2 k (by omega)
   have hp25_ := hk2 x22_ hm24_
   refine A_tk 6 (v := (vP (some ⟨(sb v2), so v2 + (k * 10 + 0), none⟩))) rfl (by kernel_rfl) (fun w hS => x_idxRS (v := v2) rfl h2 rfl Try.underlying24 z43 (by omega) (by omega) (by omega : _ = k) rfl) hq17_ ?_
   refine A_tk 7 (v := (vA #[(vB x22_.oK), (vI .i64 x22_.mod_Main), (vI .i64 x22_.mod_Sub), (vI .i64 x22_.created_Main), (vI .i64 x22_.created_Sub), (vI .i64 x22_.ver), x22_.revs, (vI .i64 x22_.dump_Modified_Main), (vI .i64 x22_.dump_Modified_Sub), x22_.dump_Gens])) rfl (by kernel_rfl) (fun w hS => x_loadN (vs := [(vB x22_.oK), (vI .i64 x22_.mod_Main), (vI .i64 x22_.mod_Sub), (vI .i64 x22_.created_Main), (vI .i64 x22_.created_Sub), (vI .i64 x22_.ver), x22_.revs, (vI .i64 x22_.dump_Modified_Main), (vI .i64 x22_.dump_Modified_Sub), x22_.dump_Gens]) rfl Try.underlying43 rfl z43 rfl (RC.cells (RS.rc h2) hS (k * 10 + 0) (fm_cells KA.len hx23_ (i := 0) rfl))) hq17_ ?_
   refine A_ready (i := 8) (rs := []) (by kernel_rfl) ?_
   refine AllR.cons ?_ AllR.nil
   refine A_op (ls' := #[true, true, true, true, true, true, true, true, true, false]) rfl (by kernel_rfl) (T_call (al := [(vA #[(vB x18_.oK), (vI .i64 x18_.mod_Main), (vI .i64 x18_.mod_Sub), (vI .i64 x18_.created_Main), (vI .i64 x18_.created_Sub), (vI .i64 x18_.ver), x18_.revs, (vI .i64 x18_.dump_Modified_Main), (vI .i64 x18_.dump_Modified_Sub), x18_.dump_Gens]), (vA #[(vB x22_.oK), (vI .i64 x22_.mod_Main), (vI .i64 x22_.mod_Sub), (vI .i64 x22_.created_Main), (vI .i64 x22_.created_Sub), (vI .i64 x22_.ver), x22_.revs, (vI .i64 x22_.dump_Modified_Main), (vI .i64 x22_.dump_Modified_Sub), x22_.dump_Gens])]) (pre := []) rfl rfl cb24 (kKySameT R x18_ x22_ (hk1 _ hm20_) (hk2 _ hm24_) (kaEq_at heq hx19_ hx23_) (hbd _ (List.mem_map_of_mem hm20_))) H16_ ?_)
   rintro v26_ p30_ w27_ ⟨rfl, rfl⟩ S29_ H28_
   have S31_ := Same.trans (Same.trans S9_ (Same.drew _)) S29_
   refine ⟨((Holds.ro_at H28_ 0 rfl)), ?_⟩
   have hq32_ := ((Holds.ro_at H28_ 0 rfl))
   refine A_tk 9 (v := (vB false)) rfl (by kernel_rfl) (fun w hS => x_cast (x_not (b := true) rfl) rfl) hq32_ ?_
   refine A_done (by kernel_rfl) ?_
   refine (X_then (hK15_ _ _ ?_))
   clear hK15_
   refine C_condF rfl ?_
   refine C_skip (X_blkN (X_then (hK13_ _ _ ?_)))
   clear hK13_
   refine C_reg ?_
   refine sv (v := (vI .i64 ((k : Int) + 1))) (x_bin rfl rfl (ib_add (IntWalk.i64_in _ (by omega)))) ?_
   refine sv (v := (vI .i64 ((k : Int) + 1))) (x_move rfl) ?_
   refine wpList_nil (X_then ?_)
   exact ⟨⟨k + 1, t4_v⟩, ⟨_, congrArg (fun e => mkA 27 e []) (ch (ch (ch (ch (ch rfl rfl) rfl) rfl) rfl) (congrArg (vI .i64) ((by first | rfl | omega | (simp; done) | (simp; omega)) : (k : Int) + 1 = ((k + 1 : Nat) : Int)))), H28_, S31_, (by first | assumption | omega | exact rfl)⟩, by first | omega | (dsimp only; omega) | (simp; omega)⟩
  ·have c12_fp : ¬ ((k : Int) < ((List.length A1) : Int)) := of_decide_eq_false c12_f
   refine C_exit (X_thenX (X_thenX (X_blkHit ?_)))
   refine (X_then (hK5_ _ _ ?_))
   clear hK5_
   refine C_seq (fun K33_ hK33_ => C_reg ?_)
   refine sv (v := (vB true)) (x_assign rfl) ?_
   refine wpList_nil (X_then (hK33_ _ _ ?_))
   clear hK33_
   refine C_ret ?_
   refine R_any (v := (vB true)) (run_results1 rfl rfl) ?_
   exact ⟨_, _, rfl, ⟨rfl, rfl⟩, S9_, H8_⟩

theorem kRun_alen : ∀ (ops : List KO) (l m : List VR) (out res : List KM), kRun l out ops = some (m, res) → res.length = out.length + ops.length := by
  intro ops
  induction ops with
  | nil => intro l m out res e; rw [kRun] at e; cases e; rfl
  | cons o r ih =>
    intro l m out res e
    rw [kRun] at e
    cases hs : kStep out.length l o with
    | none => rw [hs] at e; cases e
    | some p =>
      rw [hs] at e
      have := ih _ _ _ _ e
      rw [this, List.length_append, List.length_cons, List.length_cons, List.length_nil]; omega
theorem kLife_alen {l m : List VR} {ops : List KO} {res : List KM} (e : kLife l ops = some (m, res)) : res.length ≤ 300 := by
  have h := kLife_len e
  unfold kLife at e
  rw [if_pos h] at e
  have := kRun_alen ops l m [] res e
  rw [this, List.length_nil]; omega

set_option maxHeartbeats 8000000 in
theorem fnKeyGoesOn (R : HP) (key : ByteArray) (av : Value) (oa : Option Addr) (ol oc : Nat) (OA OB : List KO) (hA : RS R 7 av (List.length OA) (OA.flatMap KO.cells)) (hB : RS R 7 (vS oa ol oc) (List.length OB) (OB.flatMap KO.cells)) :
    Tri Try.prog 3 #[(Value.string key), av, (vS oa ol oc)] R [] (fun v__ post__ => v__ = (vB true) ∧ post__ = []) := by
 refine Tri.into (n := 68) (al := [(Value.string key), av, (vS oa ol oc)]) Try.func3 rfl Try.ntmps3 rfl rfl fun w F H => ?_
 refine C_seq (fun K1_ hK1_ => C_reg ?_)
 refine sv (v := (vB false)) (x_assign rfl) ?_
 refine wpList_nil (X_then (hK1_ _ _ ?_))
 clear hK1_
 refine C_seq (fun K2_ hK2_ => ?_)
 refine C_seq (fun K3_ hK3_ => C_reg ?_)
 refine sv (v := (Value.string key)) (x_move rfl) ?_
 refine sv (v := (vI .i64 (key.size : Int))) (x_lenT rfl Try.underlying9) ?_
 refine sv (v := (vB (decide (2147483647 < (key.size : Int))))) (x_bin rfl rfl rfl) ?_
 refine sv (v := (vB (decide (2147483647 < (key.size : Int))))) (x_move rfl) ?_
 rcases Bool.eq_false_or_eq_true (decide (2147483647 < (key.size : Int))) with c4_t | c4_f
 ·have c4_tp : 2147483647 < (key.size : Int) := of_decide_eq_true c4_t
  refine S_no (j := 3) (dj := 17) (b := true) rfl rfl (congrArg vB c4_t) (by decide) ?_
  refine S_no (j := 3) (dj := 17) (b := true) rfl rfl (congrArg vB c4_t) (by decide) ?_
  refine S_no (j := 3) (dj := 17) (b := true) rfl rfl (congrArg vB c4_t) (by decide) ?_
  refine S_list (T_pickT (v := (vB true)) (congrArg vB c4_t) rfl ?_)
  refine sv (v := (vB true)) (x_move rfl) ?_
  refine S_no (j := 8) (dj := 22) (b := true) rfl rfl rfl (by decide) ?_
  refine S_no (j := 8) (dj := 22) (b := true) rfl rfl rfl (by decide) ?_
  refine S_no (j := 8) (dj := 22) (b := true) rfl rfl rfl (by decide) ?_
  refine S_list (T_pickT (v := (vB true)) rfl rfl ?_)
  refine wpList_nil (X_then (hK3_ _ _ ?_))
  clear hK3_
  refine C_condT rfl ?_
  refine C_seq (fun K5_ hK5_ => C_reg ?_)
  refine sv (v := (vB true)) (x_assign rfl) ?_
  refine wpList_nil (X_then (hK5_ _ _ ?_))
  clear hK5_
  refine C_ret (X_thenR ?_)
  refine R_any (v := (vB true)) (run_results1 rfl rfl) ?_
  exact ⟨_, _, rfl, ⟨rfl, rfl⟩, (Same.refl w), H⟩
 ·have c4_fp : ¬ (2147483647 < (key.size : Int)) := of_decide_eq_false c4_f
  refine S_yes (j := 3) (dj := 17) (b := false) rfl rfl (congrArg vB c4_f) (T_val (v := av) (x_move rfl) ?_)
  refine S_yes (j := 3) (dj := 17) (b := false) rfl rfl (congrArg vB c4_f) (T_val (v := (vI .i64 ((List.length OA) : Int))) (x_lenRS rfl hA Try.underlying22) ?_)
  refine S_yes (j := 3) (dj := 17) (b := false) rfl rfl (congrArg vB c4_f) (T_val (v := (vB (decide (2147483647 < ((List.length OA) : Int))))) (x_bin rfl rfl rfl) ?_)
  refine S_list (T_pickF (v := (vB (decide (2147483647 < ((List.length OA) : Int))))) (congrArg vB c4_f) rfl ?_)
  refine sv (v := (vB (decide (2147483647 < ((List.length OA) : Int))))) (x_move rfl) ?_
  rcases Bool.eq_false_or_eq_true (decide (2147483647 < ((List.length OA) : Int))) with c6_t | c6_f
  ·have c6_tp : 2147483647 < ((List.length OA) : Int) := of_decide_eq_true c6_t
   refine S_no (j := 8) (dj := 22) (b := true) rfl rfl (congrArg vB c6_t) (by decide) ?_
   refine S_no (j := 8) (dj := 22) (b := true) rfl rfl (congrArg vB c6_t) (by decide) ?_
   refine S_no (j := 8) (dj := 22) (b := true) rfl rfl (congrArg vB c6_t) (by decide) ?_
   refine S_list (T_pickT (v := (vB true)) (congrArg vB c6_t) rfl ?_)
   refine wpList_nil (X_then (hK3_ _ _ ?_))
   clear hK3_
   refine C_condT rfl ?_
   refine C_seq (fun K7_ hK7_ => C_reg ?_)
   refine sv (v := (vB true)) (x_assign rfl) ?_
   refine wpList_nil (X_then (hK7_ _ _ ?_))
   clear hK7_
   refine C_ret (X_thenR ?_)
   refine R_any (v := (vB true)) (run_results1 rfl rfl) ?_
   exact ⟨_, _, rfl, ⟨rfl, rfl⟩, (Same.refl w), H⟩
  ·have c6_fp : ¬ (2147483647 < ((List.length OA) : Int)) := of_decide_eq_false c6_f
   refine S_yes (j := 8) (dj := 22) (b := false) rfl rfl (congrArg vB c6_f) (T_val (v := (vS oa ol oc)) (x_move rfl) ?_)
   refine S_yes (j := 8) (dj := 22) (b := false) rfl rfl (congrArg vB c6_f) (T_val (v := (vI .i64 ((List.length OB) : Int))) (x_lenRS rfl hB Try.underlying22) ?_)
   refine S_yes (j := 8) (dj := 22) (b := false) rfl rfl (congrArg vB c6_f) (T_val (v := (vB (decide (2147483647 < ((List.length OB) : Int))))) (x_bin rfl rfl rfl) ?_)
   refine S_list (T_pickF (v := (vB (decide (2147483647 < ((List.length OB) : Int))))) (congrArg vB c6_f) rfl ?_)
   refine wpList_nil (X_then (hK3_ _ _ ?_))
   clear hK3_
   refine C_cond (b := decide (2147483647 < ((List.length OB) : Int))) rfl (fun c8_t => ?_) (fun c8_f => ?_)
   ·have c8_tp : 2147483647 < ((List.length OB) : Int) := of_decide_eq_true c8_t
    refine C_seq (fun K9_ hK9_ => C_reg ?_)
    refine sv (v := (vB true)) (x_assign rfl) ?_
    refine wpList_nil (X_then (hK9_ _ _ ?_))
    clear hK9_
    refine C_ret (X_thenR ?_)
    refine R_any (v := (vB true)) (run_results1 rfl rfl) ?_
    exact ⟨_, _, rfl, ⟨rfl, rfl⟩, (Same.refl w), H⟩
   ·have c8_fp : ¬ (2147483647 < ((List.length OB) : Int)) := of_decide_eq_false c8_f
    refine C_skip (X_then (hK2_ _ _ ?_))
    clear hK2_
    refine C_seq (fun K10_ hK10_ => C_reg ?_)
    refine sv (v := av) (x_move rfl) ?_
    refine S_list (T_callG (al := [((vS none 0 0)), av]) (pre := []) rfl (lcons (rfl : (vS none 0 0) = ((vS none 0 0))) rfl) cb6 (kLife_ R (vS none 0 0) av ([] : List VR) OA 0 (RS.nil R 6) hA (Nat.le_refl 0) (fun x hx => by cases hx) (by decide)) H ?_)
    rintro R12_ v13_ p27_ w24_ hs11_ hq28_ S26_ H25_
    rcases hq28_ with ⟨v14_, av15_, L16_, A17_, rfl, rfl, he18_, he19_, he20_, he21_, he22_⟩ | ⟨rfl, rfl, he23_⟩
    ·skip
     have S29_ := Same.trans (Same.refl w) S26_
     have hll_ := he22_
     have hok_ := kLife_good vGood_nil he18_
     refine sv (v := (vT #[v14_, av15_, (vB true)])) (x_move rfl) ?_
     refine sv (v := v14_) (by kernel_rfl) ?_
     refine sv (v := av15_) (by kernel_rfl) ?_
     refine sv (v := (vB true)) (by kernel_rfl) ?_
     refine sv (v := v14_) (x_assign rfl) ?_
     refine sv (v := av15_) (x_assign rfl) ?_
     refine sv (v := (vB true)) (x_assign rfl) ?_
     refine wpList_nil (X_then (hK10_ _ _ ?_))
     clear hK10_
     refine C_seq (fun K31_ hK31_ => ?_)
     refine C_seq (fun K32_ hK32_ => C_reg ?_)
     refine sv (v := (vB true)) (x_move rfl) ?_
     refine sv (v := (vB false)) (x_cast (x_not (b := true) rfl) rfl) ?_
     refine sv (v := (vB false)) (x_move rfl) ?_
     refine S_yes (j := 2) (dj := 35) (b := false) rfl rfl rfl (T_val (v := v14_) (x_move rfl) ?_)
     refine S_yes (j := 2) (dj := 35) (b := false) rfl rfl rfl (T_val (v := (vI .i64 ((List.length L16_) : Int))) (x_lenRS rfl he19_ Try.underlying23) ?_)
     refine S_yes (j := 2) (dj := 35) (b := false) rfl rfl rfl (T_val (v := (vB (decide (((List.length L16_) : Int) = 0)))) (x_bin rfl rfl rfl) ?_)
     refine S_list (T_pickF (v := (vB (decide (((List.length L16_) : Int) = 0)))) rfl rfl ?_)
     refine wpList_nil (X_then (hK32_ _ _ ?_))
     clear hK32_
     refine C_cond (b := decide (((List.length L16_) : Int) = 0)) rfl (fun c33_t => ?_) (fun c33_f => ?_)
     ·have c33_tp : ((List.length L16_) : Int) = 0 := of_decide_eq_true c33_t
      refine C_seq (fun K34_ hK34_ => C_reg ?_)
      refine S_list (T_call (al := []) (pre := []) rfl rfl cb7 (kLive R12_) H25_ ?_)
      rintro v35_ p39_ w36_ ⟨rfl, rfl⟩ S38_ H37_
      have S40_ := Same.trans S29_ S38_
      refine sv (v := (vB true)) (x_assign rfl) ?_
      refine wpList_nil (X_then (hK34_ _ _ ?_))
      clear hK34_
      refine C_ret (X_thenR ?_)
      refine R_any (v := (vB true)) (run_results1 rfl rfl) ?_
      have H41_ : Holds w36_ (ro R :: F) := Holds.ro_less H37_ hs11_
      exact ⟨_, _, rfl, ⟨rfl, rfl⟩, S40_, H41_⟩
     ·have c33_fp : ¬ (((List.length L16_) : Int) = 0) := of_decide_eq_false c33_f
      refine C_skip (X_then (hK31_ _ _ ?_))
      clear hK31_
      refine C_seq (fun K42_ hK42_ => C_reg ?_)
      refine sv (v := v14_) (x_move rfl) ?_
      refine sv (v := (vS oa ol oc)) (x_move rfl) ?_
      refine S_list (T_callG (al := [v14_, ((vS oa ol oc))]) (pre := []) rfl (lcons rfl (lcons (rfl : (vS oa ol oc) = ((vS oa ol oc))) rfl)) cb6 (kLife_ R12_ v14_ (vS oa ol oc) L16_ OB 300 he19_ (RS.mono hB hs11_) (by omega) (fun x hx => by have := hll_.2 x hx; omega) (by decide)) H25_ ?_)
      rintro R44_ v45_ p59_ w56_ hs43_ hq60_ S58_ H57_
      rcases hq60_ with ⟨v46_, av47_, L48_, A49_, rfl, rfl, he50_, he51_, he52_, he53_, he54_⟩ | ⟨rfl, rfl, he55_⟩
      ·skip
       have S61_ := Same.trans S29_ S58_
       have hz_R_R44_ := Sub.trans' hs11_ hs43_
       have hll2_ := he54_
       refine sv (v := (vT #[v46_, av47_, (vB true)])) (x_move rfl) ?_
       refine sv (v := v46_) (by kernel_rfl) ?_
       refine sv (v := av47_) (by kernel_rfl) ?_
       refine sv (v := (vB true)) (by kernel_rfl) ?_
       refine sv (v := v46_) (x_assign rfl) ?_
       refine sv (v := av47_) (x_assign rfl) ?_
       refine sv (v := (vB true)) (x_assign rfl) ?_
       refine wpList_nil (X_then (hK42_ _ _ ?_))
       clear hK42_
       refine C_seq (fun K63_ hK63_ => ?_)
       refine C_seq (fun K64_ hK64_ => C_reg ?_)
       refine sv (v := (vB true)) (x_move rfl) ?_
       refine sv (v := (vB false)) (x_cast (x_not (b := true) rfl) rfl) ?_
       refine wpList_nil (X_then (hK64_ _ _ ?_))
       clear hK64_
       refine C_condF rfl ?_
       refine C_skip (X_then (hK63_ _ _ ?_))
       clear hK63_
       refine C_seq (fun K65_ hK65_ => C_reg ?_)
       refine sv (v := (Value.string key)) (x_move rfl) ?_
       refine sv (v := v14_) (x_move rfl) ?_
       refine S_list (T_callG (al := [v14_]) (pre := []) rfl rfl cb9 (kDump R44_ v14_ L16_ (RS.mono he19_ hs43_) (by omega)) H57_ ?_)
       rintro R67_ v68_ p74_ w71_ hs66_ ⟨gv69_, rfl, rfl, he70_⟩ S73_ H72_
       have S75_ := Same.trans S61_ S73_
       have hz_R_R67_ := Sub.trans' hz_R_R44_ hs66_
       have hz_R12__R67_ := Sub.trans' hs43_ hs66_
       obtain ⟨gN1, hga1, hgb1, hgc1⟩ := he70_
       have hLne_ : L16_ ≠ [] := List.length_pos_iff.1 (by omega)
       have hbb_ : GBd 301 (gN1.map GN.m) := by rw [hga1]; exact dGens_bdd (B := 300) (by omega) (fun x hx => by have := hll_.2 x hx; omega)
       have hir_ := kLife_iRun hok_ hLne_ he50_
       refine sv (v := (vS oa ol oc)) (x_move rfl) ?_
       refine S_list (T_callG (al := [(Value.string key), (vA #[(vI .i64 ((vLast L16_).rev_Main)), (vI .i64 ((vLast L16_).rev_Sub)), gv69_]), (vS oa ol oc)]) (pre := []) rfl rfl cb8 (kKey R67_ key ((vLast L16_).rev_Main) ((vLast L16_).rev_Sub) gv69_ oa ol oc gN1 OB 301 (A49_.map KA.m) hgb1 (hgc1) (RS.mono hB hz_R_R67_) (by have := kLife_len he50_; omega) (hbb_) (by decide) (by rw [hga1]; exact hir_)) H72_ ?_)
       rintro R77_ v78_ p87_ w84_ hs76_ ⟨av79_, A80_, rfl, rfl, he81_, he82_, he83_⟩ S86_ H85_
       have S88_ := Same.trans S75_ S86_
       have hz_R_R77_ := Sub.trans' hz_R_R67_ hs76_
       have hz_R12__R77_ := Sub.trans' hz_R12__R67_ hs76_
       have hz_R44__R77_ := Sub.trans' hs66_ hs76_
       refine sv (v := (vT #[av79_, (vB true)])) (x_move rfl) ?_
       refine sv (v := av79_) (by kernel_rfl) ?_
       refine sv (v := (vB true)) (by kernel_rfl) ?_
       refine sv (v := av79_) (x_assign rfl) ?_
       refine sv (v := (vB true)) (x_assign rfl) ?_
       refine wpList_nil (X_then (hK65_ _ _ ?_))
       clear hK65_
       refine C_seq (fun K89_ hK89_ => C_reg ?_)
       refine sv (v := (vB true)) (x_move rfl) ?_
       refine sv (v := (vB true)) (x_move rfl) ?_
       refine S_yes (j := 1) (dj := 60) (b := true) rfl rfl rfl (T_val (v := av79_) (x_move rfl) ?_)
       refine S_yes (j := 1) (dj := 60) (b := true) rfl rfl rfl (T_val (v := av47_) (x_move rfl) ?_)
       refine S_yes (j := 1) (dj := 60) (b := true) rfl rfl rfl (T_call (al := [av79_, av47_]) (pre := []) rfl rfl cb10 (kAlikeT R77_ av79_ av47_ A80_ A49_ he81_ (RS.mono he52_ hz_R44__R77_) (he82_) (fun x hx => (he53_ x hx).mono hz_R44__R77_) (he83_) (by rw [he83_]; exact kLife_bd (by omega) he50_) (by have h1_ := congrArg List.length he83_; have h2_ := kLife_alen he50_; rw [List.length_map, List.length_map] at h1_; rw [List.length_map] at h2_; omega)) H85_ ?_)
       rintro v90_ p94_ w91_ ⟨rfl, rfl⟩ S93_ H92_
       have S95_ := Same.trans S88_ S93_
       refine S_list (T_pickT (v := (vB true)) rfl rfl ?_)
       refine sv (v := (vB true)) (x_move rfl) ?_
       refine S_yes (j := 6) (dj := 65) (b := true) rfl rfl rfl (T_call (al := []) (pre := []) rfl rfl cb7 (kLive R77_) H92_ ?_)
       rintro v96_ p100_ w97_ ⟨rfl, rfl⟩ S99_ H98_
       have S101_ := Same.trans S95_ S99_
       refine S_list (T_pickT (v := (vB true)) rfl rfl ?_)
       refine sv (v := (vB true)) (x_assign rfl) ?_
       refine wpList_nil (X_then (hK89_ _ _ ?_))
       clear hK89_
       refine C_ret ?_
       refine R_any (v := (vB true)) (run_results1 rfl rfl) ?_
       have H102_ : Holds w97_ (ro R :: F) := Holds.ro_less H98_ hz_R_R77_
       exact ⟨_, _, rfl, ⟨rfl, rfl⟩, S101_, H102_⟩
      ·skip
       have S62_ := Same.trans S29_ S58_
       have hz_R_R44_ := Sub.trans' hs11_ hs43_
       refine sv (v := (vT #[(vS none 0 0), (vS none 0 0), (vB false)])) (x_move rfl) ?_
       refine sv (v := (vS none 0 0)) (by kernel_rfl) ?_
       refine sv (v := (vS none 0 0)) (by kernel_rfl) ?_
       refine sv (v := (vB false)) (by kernel_rfl) ?_
       refine sv (v := (vS none 0 0)) (x_assign rfl) ?_
       refine sv (v := (vS none 0 0)) (x_assign rfl) ?_
       refine sv (v := (vB false)) (x_assign rfl) ?_
       refine wpList_nil (X_then (hK42_ _ _ ?_))
       clear hK42_
       refine C_seq (fun K103_ hK103_ => ?_)
       refine C_seq (fun K104_ hK104_ => C_reg ?_)
       refine sv (v := (vB false)) (x_move rfl) ?_
       refine sv (v := (vB true)) (x_cast (x_not (b := false) rfl) rfl) ?_
       refine wpList_nil (X_then (hK104_ _ _ ?_))
       clear hK104_
       refine C_condT rfl ?_
       refine C_seq (fun K105_ hK105_ => C_reg ?_)
       refine S_list (T_call (al := []) (pre := []) rfl rfl cb7 (kLive R44_) H57_ ?_)
       rintro v106_ p110_ w107_ ⟨rfl, rfl⟩ S109_ H108_
       have S111_ := Same.trans S62_ S109_
       refine sv (v := (vB true)) (x_assign rfl) ?_
       refine wpList_nil (X_then (hK105_ _ _ ?_))
       clear hK105_
       refine C_ret (X_thenR ?_)
       refine R_any (v := (vB true)) (run_results1 rfl rfl) ?_
       have H112_ : Holds w107_ (ro R :: F) := Holds.ro_less H108_ hz_R_R44_
       exact ⟨_, _, rfl, ⟨rfl, rfl⟩, S111_, H112_⟩
    ·skip
     have S30_ := Same.trans (Same.refl w) S26_
     refine sv (v := (vT #[(vS none 0 0), (vS none 0 0), (vB false)])) (x_move rfl) ?_
     refine sv (v := (vS none 0 0)) (by kernel_rfl) ?_
     refine sv (v := (vS none 0 0)) (by kernel_rfl) ?_
     refine sv (v := (vB false)) (by kernel_rfl) ?_
     refine sv (v := (vS none 0 0)) (x_assign rfl) ?_
     refine sv (v := (vS none 0 0)) (x_assign rfl) ?_
     refine sv (v := (vB false)) (x_assign rfl) ?_
     refine wpList_nil (X_then (hK10_ _ _ ?_))
     clear hK10_
     refine C_seq (fun K113_ hK113_ => ?_)
     refine C_seq (fun K114_ hK114_ => C_reg ?_)
     refine sv (v := (vB false)) (x_move rfl) ?_
     refine sv (v := (vB true)) (x_cast (x_not (b := false) rfl) rfl) ?_
     refine sv (v := (vB true)) (x_move rfl) ?_
     refine S_no (j := 2) (dj := 35) (b := true) rfl rfl rfl (by decide) ?_
     refine S_no (j := 2) (dj := 35) (b := true) rfl rfl rfl (by decide) ?_
     refine S_no (j := 2) (dj := 35) (b := true) rfl rfl rfl (by decide) ?_
     refine S_list (T_pickT (v := (vB true)) rfl rfl ?_)
     refine wpList_nil (X_then (hK114_ _ _ ?_))
     clear hK114_
     refine C_condT rfl ?_
     refine C_seq (fun K115_ hK115_ => C_reg ?_)
     refine S_list (T_call (al := []) (pre := []) rfl rfl cb7 (kLive R12_) H25_ ?_)
     rintro v116_ p120_ w117_ ⟨rfl, rfl⟩ S119_ H118_
     have S121_ := Same.trans S30_ S119_
     refine sv (v := (vB true)) (x_assign rfl) ?_
     refine wpList_nil (X_then (hK115_ _ _ ?_))
     clear hK115_
     refine C_ret (X_thenR ?_)
     refine R_any (v := (vB true)) (run_results1 rfl rfl) ?_
     have H122_ : Holds w117_ (ro R :: F) := Holds.ro_less H118_ hs11_
     exact ⟨_, _, rfl, ⟨rfl, rfl⟩, S121_, H122_⟩
end Go.Proofs.Ytiblemgccgbhoaa
