/- Words, and proved steps, on which the proof leans. -/
import Derived.Test.YtlnihndjepjagaaTf5
set_option linter.unusedVariables false
set_option linter.unusedSimpArgs false
namespace Go.Proofs.Ytlnihndjepjagaa
open Go Go.RowKit Gw
open Go.Value renaming int → vI, bool → vB, slice → vS, pointer → vP, agg → vA, tuple → vT

theorem ones_PN (l : List PN) : ∀ u ∈ l.flatMap PN.cells, u.oneCell' = true := by
  intro u hu
  obtain ⟨x, _, h⟩ := List.mem_flatMap.1 hu
  simp [PN.cells] at h
  rcases h with rfl | rfl | rfl | rfl | rfl | rfl <;> rfl
set_option maxHeartbeats 8000000 in
theorem spPut (R : HP) (ord : Int) (pb : Nat) (pv : Value) (P : List PN) (s : SN) (v : Int) (hP : RS R 6 pv (List.length P) (P.flatMap PN.cells)) (hz : PSz P) (hs : s.in__Begin.size ≤ 2147483647) (hn : P.length ≤ 100000) :
    TriG Try.prog 61 #[(vQ pb), (vA #[(Value.string s.in__Begin), (Value.string s.in__End), (vB s.in__Point), (vI .i64 s.from_), (vI .i64 s.till)]), (vI .i64 v)] R [cl pb 75 [(vI .i64 ord), pv]] (fun R' v__ post__ => ∃ (pv' : Value), v__ = (vT #[]) ∧ post__ = [cl pb 75 [(vI .i64 ord), pv']] ∧ (RS R' 6 pv' (List.length (putP ord s v P)) ((putP ord s v P).flatMap PN.cells))) := by
 refine TriG.into (n := 59) (al := [(vQ pb), (vA #[(Value.string s.in__Begin), (Value.string s.in__End), (vB s.in__Point), (vI .i64 s.from_), (vI .i64 s.till)]), (vI .i64 v)]) Try.func61 rfl Try.ntmps61 rfl rfl fun w F H => ?_
 refine C_seq (fun K1_ hK1_ => C_reg ?_)
 refine S_list (T_box (v := (vA #[(Value.string s.in__Begin), (Value.string s.in__End), (vB s.in__Point), (vI .i64 s.from_), (vI .i64 s.till)])) rfl H ?_)
 intro b2_ w3_ S5_ H4_
 have S6_ := Same.trans (Same.refl w) S5_
 refine wpList_nil (X_then (hK1_ _ _ ?_))
 clear hK1_
 refine C_seq (fun K7_ hK7_ => C_reg ?_)
 refine sv (v := (vI .i64 0)) (x_assign rfl) ?_
 refine wpList_nil (X_then (hK7_ _ _ ?_))
 clear hK7_
 refine C_seq (fun K8_ hK8_ => ?_)
 refine C_block ?_
 refine C_loop (γ := Nat) (fun k a__ w1__ => ∃ h : Env, a__ = mkA 59 (upd (upd (upd (upd h 0 (vQ pb)) 2 (vI .i64 v)) 4 (vQ b2_)) 6 (vI .i64 (k : Int))) [] ∧ Holds w1__ (cl b2_ 44 [(Value.string s.in__Begin), (Value.string s.in__End), (vB s.in__Point), (vI .i64 s.from_), (vI .i64 s.till)] :: ro R :: cl pb 75 [(vI .i64 ord), pv] :: F) ∧ Same w w1__ ∧ (k ≤ P.length) ∧ (∀ x ∈ P.take k, sAhead ord s x.sn = false)) (fun k => P.length - k) (0) ⟨_, congrArg (fun e => mkA 59 e []) (ch (ch (ch (ch rfl rfl) rfl) rfl) (congrArg (vI .i64) ((by first | rfl | omega | (simp; done) | (simp; omega)) : 0 = (0 : Int)))), H4_, S6_, (by first | assumption | omega | exact rfl), (fun x h => by simp at h)⟩ ?_
 rintro k _ w9_ ⟨h, rfl, H10_, S11_, hkk, hno⟩
 refine C_seq (fun K12_ hK12_ => ?_)
 refine C_seq (fun K13_ hK13_ => ?_)
 refine A_start (S := fun w => Rd b2_ [(Value.string s.in__Begin), (Value.string s.in__End), (vB s.in__Point), (vI .i64 s.from_), (vI .i64 s.till)] w ∧ Rd pb [(vI .i64 ord), pv] w ∧ Sub R (hp w)) (N := 24) foll rfl rfl ?_
 have H14_ := Holds.drew_ H10_
 have hq15_ := And.intro (Holds.rd H14_ 0 rfl) (And.intro (Holds.rd H14_ 2 rfl) ((Holds.ro_at H14_ 1 rfl)))
 refine A_tk 0 (v := (vI .i64 (k : Int))) rfl (by kernel_rfl) (fun w hS => x_move rfl) hq15_ ?_
 refine A_tk 1 (v := (vQ pb)) rfl (by kernel_rfl) (fun w hS => x_move rfl) hq15_ ?_
 refine A_tk 2 (v := (vQ pb)) rfl (by kernel_rfl) (fun w hS => by kernel_rfl) hq15_ ?_
 refine A_tk 3 (v := (vP (some ⟨pb, 1, none⟩))) rfl (by kernel_rfl) (fun w hS => by kernel_rfl) hq15_ ?_
 refine A_tk 4 (v := pv) rfl (by kernel_rfl) (fun w hS => x_load1 rfl Try.underlying73 rfl (hS.2.1 1 pv rfl)) hq15_ ?_
 refine A_tk 5 (v := (vI .i64 ((List.length P) : Int))) rfl (by kernel_rfl) (fun w hS => x_lenRS rfl hP Try.underlying73) hq15_ ?_
 refine A_tk 6 (v := (vB (decide ((k : Int) < ((List.length P) : Int))))) rfl (by kernel_rfl) (fun w hS => x_bin rfl rfl rfl) hq15_ ?_
 refine A_tk 7 (v := (vB (decide ((k : Int) < ((List.length P) : Int))))) rfl (by kernel_rfl) (fun w hS => x_move rfl) hq15_ ?_
 rcases Bool.eq_false_or_eq_true (decide ((k : Int) < ((List.length P) : Int))) with c16_t | c16_f
 ·have c16_tp : (k : Int) < ((List.length P) : Int) := of_decide_eq_true c16_t
  refine A_tkY 8 (j := 7) (dj := 15) (b := true) (v := (vQ pb)) rfl (by kernel_rfl) rfl rfl (congrArg vB c16_t) (fun w hS => x_move rfl) hq15_ ?_
  refine A_tkY 9 (j := 7) (dj := 15) (b := true) (v := (vQ pb)) rfl (by kernel_rfl) rfl rfl (congrArg vB c16_t) (fun w hS => by kernel_rfl) hq15_ ?_
  refine A_tkY 10 (j := 7) (dj := 15) (b := true) (v := (vQ pb)) rfl (by kernel_rfl) rfl rfl (congrArg vB c16_t) (fun w hS => by kernel_rfl) hq15_ ?_
  refine A_tkY 11 (j := 7) (dj := 15) (b := true) (v := (vI .i64 ord)) rfl (by kernel_rfl) rfl rfl (congrArg vB c16_t) (fun w hS => x_load1 rfl Try.underlying3 rfl (hS.2.1 0 (vI .i64 ord) rfl)) hq15_ ?_
  refine A_tkY 12 (j := 7) (dj := 15) (b := true) (v := (vA #[(Value.string s.in__Begin), (Value.string s.in__End), (vB s.in__Point), (vI .i64 s.from_), (vI .i64 s.till)])) rfl (by kernel_rfl) rfl rfl (congrArg vB c16_t) (fun w hS => x_loadN (vs := [(Value.string s.in__Begin), (Value.string s.in__End), (vB s.in__Point), (vI .i64 s.from_), (vI .i64 s.till)]) rfl Try.underlying44 rfl z44 rfl (Rd.cells hS.1 0 rfl)) hq15_ ?_
  refine A_tkY 13 (j := 7) (dj := 15) (b := true) (v := (vQ pb)) rfl (by kernel_rfl) rfl rfl (congrArg vB c16_t) (fun w hS => x_move rfl) hq15_ ?_
  refine A_tkY 14 (j := 7) (dj := 15) (b := true) (v := (vQ pb)) rfl (by kernel_rfl) rfl rfl (congrArg vB c16_t) (fun w hS => by kernel_rfl) hq15_ ?_
  refine A_tkY 15 (j := 7) (dj := 15) (b := true) (v := (vP (some ⟨pb, 1, none⟩))) rfl (by kernel_rfl) rfl rfl (congrArg vB c16_t) (fun w hS => by kernel_rfl) hq15_ ?_
  refine A_tkY 16 (j := 7) (dj := 15) (b := true) (v := pv) rfl (by kernel_rfl) rfl rfl (congrArg vB c16_t) (fun w hS => x_load1 rfl Try.underlying73 rfl (hS.2.1 1 pv rfl)) hq15_ ?_
  refine A_tkY 17 (j := 7) (dj := 15) (b := true) (v := (vI .i64 (k : Int))) rfl (by kernel_rfl) rfl rfl (congrArg vB c16_t) (fun w hS => x_move rfl) hq15_ ?_
  obtain ⟨x17_, hx18_, hm19_⟩ := elem_at P k (by omega)
  have hz1_ := hz x17_ hm19_
  refine A_tkY 18 (j := 7) (dj := 15) (b := true) (v := (vP (some ⟨(sb pv), so pv + (k * 6 + 0), none⟩))) rfl (by kernel_rfl) rfl rfl (congrArg vB c16_t) (fun w hS => x_idxRS (v := pv) rfl hP rfl Try.underlying73 z131 (by omega) (by omega) (by omega : _ = k) rfl) hq15_ ?_
  refine A_tkY 19 (j := 7) (dj := 15) (b := true) (v := (vP (some ⟨(sb pv), so pv + (k * 6 + 0), none⟩))) rfl (by kernel_rfl) rfl rfl (congrArg vB c16_t) (fun w hS => by kernel_rfl) hq15_ ?_
  refine A_tkY 20 (j := 7) (dj := 15) (b := true) (v := (vA #[(Value.string x17_.in__In_Begin), (Value.string x17_.in__In_End), (vB x17_.in__In_Point), (vI .i64 x17_.in__From), (vI .i64 x17_.in__Till)])) rfl (by kernel_rfl) rfl rfl (congrArg vB c16_t) (fun w hS => x_loadN (vs := [(Value.string x17_.in__In_Begin), (Value.string x17_.in__In_End), (vB x17_.in__In_Point), (vI .i64 x17_.in__From), (vI .i64 x17_.in__Till)]) rfl Try.underlying44 rfl z44 rfl (RC.cells (RS.rc hP) hS.2.2 (k * 6 + 0) (fm_cells PN.len hx18_ (i := 0) rfl))) hq15_ ?_
  refine A_ready (i := 21) (rs := []) (by kernel_rfl) ?_
  refine AllR.cons ?_ AllR.nil
  have H21_ := ((Holds.bring H14_ 1 rfl) :)
  refine A_opYes (ls' := #[true, true, true, true, true, true, true, true, true, true, true, true, true, true, true, true, true, true, true, true, true, true, false, false]) (j := 7) (dj := 15) (b := true) rfl (by kernel_rfl) rfl rfl (congrArg vB c16_t) (T_call (al := [(vI .i64 ord), (vA #[(Value.string s.in__Begin), (Value.string s.in__End), (vB s.in__Point), (vI .i64 s.from_), (vI .i64 s.till)]), (vA #[(Value.string x17_.sn.in__Begin), (Value.string x17_.sn.in__End), (vB x17_.sn.in__Point), (vI .i64 x17_.sn.from_), (vI .i64 x17_.sn.till)])]) (pre := []) rfl (lcons rfl (lcons rfl (lcons (congrArg (fun l => vA (List.toArray l)) (lcons (congrArg Value.string ((by first | rfl | omega | (simp; done) | (simp; omega)) : x17_.in__In_Begin = x17_.sn.in__Begin)) (lcons (congrArg Value.string ((by first | rfl | omega | (simp; done) | (simp; omega)) : x17_.in__In_End = x17_.sn.in__End)) (lcons (congrArg vB ((by first | rfl | omega | (simp; done) | (simp; omega)) : x17_.in__In_Point = x17_.sn.in__Point)) (lcons (congrArg (vI .i64) ((by first | rfl | omega | (simp; done) | (simp; omega)) : x17_.in__From = x17_.sn.from_)) (lcons (congrArg (vI .i64) ((by first | rfl | omega | (simp; done) | (simp; omega)) : x17_.in__Till = x17_.sn.till)) rfl)))))) rfl))) cb55 (spAhead R ord s x17_.sn (hs) (hz1_)) H21_ ?_)
  rintro v20_ p25_ w22_ ⟨rfl, rfl⟩ S24_ H23_
  have S26_ := Same.trans (Same.trans S11_ (Same.drew _)) S24_
  refine ⟨⟨Holds.rd H23_ 1 rfl, Holds.rd H23_ 2 rfl, (Holds.ro_at H23_ 0 rfl)⟩, ?_⟩
  have hq27_ := And.intro (Holds.rd H23_ 1 rfl) (And.intro (Holds.rd H23_ 2 rfl) ((Holds.ro_at H23_ 0 rfl)))
  refine A_tkY 22 (j := 7) (dj := 15) (b := true) (v := (vB (!(sAhead ord s x17_.sn)))) rfl (by kernel_rfl) rfl rfl (congrArg vB c16_t) (fun w hS => x_not rfl) hq27_ ?_
  refine A_tk 23 (v := (vB (!(sAhead ord s x17_.sn)))) rfl (by kernel_rfl) (fun w hS => (x_pickT (congrArg vB c16_t) rfl)) hq27_ ?_
  refine A_done (by kernel_rfl) ?_
  refine (X_then (hK13_ _ _ ?_))
  clear hK13_
  refine C_cond (b := !(sAhead ord s x17_.sn)) rfl (fun c28_t => ?_) (fun c28_f => ?_)
  ·skip
   refine C_skip (X_then (hK12_ _ _ ?_))
   clear hK12_
   refine C_block ?_
   refine C_reg ?_
   refine sv (v := (vI .i64 (k : Int))) (x_move rfl) ?_
   refine sv (v := (vI .i64 ((k : Int) + 1))) (x_bin rfl rfl (ib_add (IntWalk.i64_in _ (by omega)))) ?_
   refine sv (v := (vI .i64 ((k : Int) + 1))) (x_assign rfl) ?_
   refine wpList_nil (X_blkN (X_then ?_))
   have H29_ : Holds w22_ (cl b2_ 44 [(Value.string s.in__Begin), (Value.string s.in__End), (vB s.in__Point), (vI .i64 s.from_), (vI .i64 s.till)] :: ro R :: cl pb 75 [(vI .i64 ord), pv] :: F) := (Holds.pkF H23_ [1, 0, 0] 0 :)
   exact ⟨(k + 1), ⟨_, congrArg (fun e => mkA 59 e []) (ch (ch (ch (ch rfl rfl) rfl) rfl) (congrArg (vI .i64) ((by first | rfl | omega | (simp; done) | (simp; omega)) : (k : Int) + 1 = ((k + 1 : Nat) : Int)))), H29_, S26_, (by first | assumption | omega | exact rfl), (ahead_snoc hno hx18_ (by simpa using c28_t))⟩, by first | omega | (dsimp only; omega) | (simp; omega)⟩
  ·skip
   refine C_exit (X_thenX (X_thenX (X_blkHit ?_)))
   refine (X_then (hK8_ _ _ ?_))
   clear hK8_
   refine C_seq (fun K30_ hK30_ => C_reg ?_)
   refine S_list (T_new (obj := .cells #[] 131) (f := fun b__ => .slice (some ⟨b__, 0, none⟩) 0 0) (A := fun b__ => cl b__ 131 []) (by kernel_rfl) (fun l h => h.alloc _ _) H23_ ?_)
   intro b31_ w32_ S34_ H33_
   have S35_ := Same.trans S26_ S34_
   refine sv (v := (vQ pb)) (x_move rfl) ?_
   refine sv (v := (vQ pb)) (by kernel_rfl) ?_
   refine sv (v := (vP (some ⟨pb, 1, none⟩))) (by kernel_rfl) ?_
   refine sv (v := pv) (x_load1 rfl Try.underlying73 rfl ((Holds.rd H33_ 3 rfl) 1 pv rfl)) ?_
   refine sv (v := (vI .i64 (k : Int))) (x_move rfl) ?_
   refine sv (v := (slc pv 0 k 6)) (x_sliceRS (l := 0) (h := k) rfl hP Try.underlying73 z131 (by omega) ⟨_, _, rfl, by omega, by omega, by omega⟩ rfl) ?_
   have H36_ : Holds w32_ (cl b31_ 131 ([] ++ [] ++ []) :: ro R :: cl b2_ 44 [(Value.string s.in__Begin), (Value.string s.in__End), (vB s.in__Point), (vI .i64 s.from_), (vI .i64 s.till)] :: cl pb 75 [(vI .i64 ord), pv] :: F) := cast1 (P := fun (c__ : List Value) => Holds w32_ (cl b31_ 131 c__ :: ro R :: cl b2_ 44 [(Value.string s.in__Begin), (Value.string s.in__End), (vB s.in__Point), (vI .i64 s.from_), (vI .i64 s.till)] :: cl pb 75 [(vI .i64 ord), pv] :: F)) (by kernel_rfl : [] = [] ++ [] ++ []) H33_
   have H37_ : Holds w32_ (sl 131 6 (vS (some ⟨b31_, 0, none⟩) 0 0) 0 [] :: ro R :: cl b2_ 44 [(Value.string s.in__Begin), (Value.string s.in__End), (vB s.in__Point), (vI .i64 s.from_), (vI .i64 s.till)] :: cl pb 75 [(vI .i64 ord), pv] :: F) := Holds.to_sl H36_ 0 [] [] (xs := []) (m := 0) (cap := 0) (sz := 6) rfl (by kernel_rfl) (by kernel_rfl) (by omega)
   refine S_list (T_append rfl rfl Try.underlying73 z131 rfl (by decide) H37_ 0 rfl (RS.src (RS.slcF PN.len hP (by omega : 0 ≤ k) (by omega)) (Holds.ro_at H37_ 1 rfl) Try.underlying73 (ones_PN _)) (by simp only [List.length_append, List.length_cons, List.length_nil, List.length_take, List.length_drop]; omega) ?_)
   intro v38_ w39_ S41_ H40_
   have S42_ := Same.trans S35_ S41_
   refine sv (v := v38_) (x_assign rfl) ?_
   refine wpList_nil (X_then (hK30_ _ _ ?_))
   clear hK30_
   refine A_start (S := fun w => Rd b2_ [(Value.string s.in__Begin), (Value.string s.in__End), (vB s.in__Point), (vI .i64 s.from_), (vI .i64 s.till)] w ∧ Sub R (hp w)) (N := 18) foll rfl rfl ?_
   have H43_ := Holds.drew_ H40_
   have hq44_ := And.intro (Holds.rd H43_ 2 rfl) ((Holds.ro_at H43_ 1 rfl))
   refine A_tk 0 (v := (vQ pb)) rfl (by kernel_rfl) (fun w hS => x_move rfl) hq44_ ?_
   refine A_tk 1 (v := v38_) rfl (by kernel_rfl) (fun w hS => x_move rfl) hq44_ ?_
   refine A_tk 2 (v := (vA #[(Value.string s.in__Begin), (Value.string s.in__End), (vB s.in__Point), (vI .i64 s.from_), (vI .i64 s.till)])) rfl (by kernel_rfl) (fun w hS => x_loadN (vs := [(Value.string s.in__Begin), (Value.string s.in__End), (vB s.in__Point), (vI .i64 s.from_), (vI .i64 s.till)]) rfl Try.underlying44 rfl z44 rfl (Rd.cells hS.1 0 rfl)) hq44_ ?_
   refine A_tk 4 (v := (vI .i64 v)) rfl (by kernel_rfl) (fun w hS => x_move rfl) hq44_ ?_
   refine A_tk 8 (v := (vQ pb)) rfl (by kernel_rfl) (fun w hS => x_move rfl) hq44_ ?_
   refine A_tk 9 (v := (vQ pb)) rfl (by kernel_rfl) (fun w hS => by kernel_rfl) hq44_ ?_
   refine A_tk 10 (v := (vP (some ⟨pb, 1, none⟩))) rfl (by kernel_rfl) (fun w hS => by kernel_rfl) hq44_ ?_
   refine A_tk 12 (v := (vI .i64 (k : Int))) rfl (by kernel_rfl) (fun w hS => x_move rfl) hq44_ ?_
   refine A_ready (i := 3) (rs := [11]) (by kernel_rfl) ?_
   refine AllR.cons ?_ ?_
   ·skip
    have H46_ := ((Holds.bring H43_ 1 rfl) :)
    refine A_op (ls' := #[true, true, true, true, true, false, false, false, true, true, true, false, true, false, false, false, false, false]) rfl (by kernel_rfl) (T_call (al := [(vA #[(Value.string s.in__Begin), (Value.string s.in__End), (vB s.in__Point), (vI .i64 s.from_), (vI .i64 s.till)])]) (pre := []) rfl rfl cb76 (spPlain R s (hs)) H46_ ?_)
    rintro v45_ p50_ w47_ ⟨rfl, rfl⟩ S49_ H48_
    have S51_ := Same.trans (Same.trans S42_ (Same.drew _)) S49_
    refine ⟨⟨Holds.rd H48_ 2 rfl, (Holds.ro_at H48_ 0 rfl)⟩, ?_⟩
    have hq52_ := And.intro (Holds.rd H48_ 2 rfl) ((Holds.ro_at H48_ 0 rfl))
    refine A_tk 5 (v := (vA #[(Value.string ((SN.plain s).in__Begin)), (Value.string ((SN.plain s).in__End)), (vB ((SN.plain s).in__Point)), (vI .i64 ((SN.plain s).from_)), (vI .i64 ((SN.plain s).till)), (vI .i64 v)])) rfl (by kernel_rfl) (fun w hS => by kernel_rfl) hq52_ ?_
    refine A_ready (i := 6) (rs := [11]) (by kernel_rfl) ?_
    refine AllR.cons ?_ ?_
    ·skip
     refine A_op (ls' := #[true, true, true, true, true, true, true, false, true, true, true, false, true, false, false, false, false, false]) rfl (by kernel_rfl) (T_new (obj := .cells #[(Value.string ((SN.plain s).in__Begin)), (Value.string ((SN.plain s).in__End)), (vB ((SN.plain s).in__Point)), (vI .i64 ((SN.plain s).from_)), (vI .i64 ((SN.plain s).till)), (vI .i64 v)] 131) (f := fun b__ => .slice (some ⟨b__, 0, none⟩) 1 1) (A := fun b__ => cl b__ 131 [(Value.string ((SN.plain s).in__Begin)), (Value.string ((SN.plain s).in__End)), (vB ((SN.plain s).in__Point)), (vI .i64 ((SN.plain s).from_)), (vI .i64 ((SN.plain s).till)), (vI .i64 v)]) (by kernel_rfl) (fun l h => h.alloc _ _) H48_ ?_)
     intro b53_ w54_ S56_ H55_
     have S57_ := Same.trans S51_ S56_
     refine ⟨⟨Holds.rd H55_ 3 rfl, (Holds.ro_at H55_ 1 rfl)⟩, ?_⟩
     refine A_ready (i := 7) (rs := [11]) (by kernel_rfl) ?_
     refine AllR.cons ?_ ?_
     ·skip
      refine A_op (ls' := #[true, true, true, true, true, true, true, true, true, true, true, false, true, false, false, false, false, false]) rfl (by kernel_rfl) (T_append rfl rfl Try.underlying73 z131 rfl (by decide) H55_ 2 rfl (Holds.cl_src H55_ 0 rfl Try.underlying73 (by simp [Value.oneCell']) rfl) (by simp only [List.length_append, List.length_cons, List.length_nil, List.length_take, List.length_drop]; omega) ?_)
      intro v58_ w59_ S61_ H60_
      have S62_ := Same.trans S57_ S61_
      refine ⟨⟨Holds.rd H60_ 3 rfl, (Holds.ro_at H60_ 1 rfl)⟩, ?_⟩
      refine A_ready (i := 11) (rs := []) (by kernel_rfl) ?_
      refine AllR.cons ?_ AllR.nil
      refine A_op (ls' := #[true, true, true, true, true, true, true, true, true, true, true, true, true, false, false, false, false, false]) rfl (by kernel_rfl) (T_val (v := pv) (x_load1 rfl Try.underlying73 rfl ((Holds.rd H60_ 4 rfl) 1 pv rfl)) ?_)
      refine ⟨⟨Holds.rd H60_ 3 rfl, (Holds.ro_at H60_ 1 rfl)⟩, ?_⟩
      have hq63_ := And.intro (Holds.rd H60_ 3 rfl) ((Holds.ro_at H60_ 1 rfl))
      refine A_tk 13 (v := (slc pv k (List.length P) 6)) rfl (by kernel_rfl) (fun w hS => x_sliceRS (l := k) (h := (List.length P)) rfl hP Try.underlying73 z131 (by omega) rfl ⟨_, _, rfl, by omega, by omega, by omega⟩) hq63_ ?_
      refine A_ready (i := 14) (rs := []) (by kernel_rfl) ?_
      refine AllR.cons ?_ AllR.nil
      refine A_op (ls' := #[true, true, true, true, true, true, true, true, true, true, true, true, true, true, true, false, false, false]) rfl (by kernel_rfl) (T_append rfl rfl Try.underlying73 z131 rfl (by decide) H60_ 2 rfl (RS.src (RS.slcD (a := k) PN.len hP (by omega)) (Holds.ro_at H60_ 1 rfl) Try.underlying73 (ones_PN _)) (by simp only [List.length_append, List.length_cons, List.length_nil, List.length_take, List.length_drop]; omega) ?_)
      intro v64_ w65_ S67_ H66_
      have S68_ := Same.trans S62_ S67_
      refine ⟨⟨Holds.rd H66_ 3 rfl, (Holds.ro_at H66_ 1 rfl)⟩, ?_⟩
      have hq69_ := And.intro (Holds.rd H66_ 3 rfl) ((Holds.ro_at H66_ 1 rfl))
      refine A_tk 15 (v := (vQ pb)) rfl (by kernel_rfl) (fun w hS => by kernel_rfl) hq69_ ?_
      refine A_tk 16 (v := (vP (some ⟨pb, 1, none⟩))) rfl (by kernel_rfl) (fun w hS => by kernel_rfl) hq69_ ?_
      refine A_ready (i := 17) (rs := []) (by kernel_rfl) ?_
      refine AllR.cons ?_ AllR.nil
      refine A_op0 (ls' := #[true, true, true, true, true, true, true, true, true, true, true, true, true, true, true, true, true, true]) rfl (by kernel_rfl) (T_store1 (v := v64_) rfl rfl z73 (Holds.sl_one H66_ 2 rfl) H66_ 4 rfl (Nat.le_of_ble_eq_true (by rfl)) ?_)
      intro w70_ S72_ H71_
      have S73_ := Same.trans S68_ S72_
      refine ⟨⟨Holds.rd H71_ 3 rfl, (Holds.ro_at H71_ 1 rfl)⟩, ?_⟩
      refine A_done (by kernel_rfl) ?_
      refine R_0 rfl ?_
      have hpp_ := putP_at (v := v) hno (.inr ⟨x17_, hx18_, by simpa using c28_f⟩)
      have H74_ := Holds.resl H71_ 2 rfl (by rw [← hpp_]; simp [PN.cells, PN.of, List.flatMap_append] : (([] ++ ((List.take (k - 0) (List.drop 0 P)).flatMap PN.cells)) ++ [(Value.string ((SN.plain s).in__Begin)), (Value.string ((SN.plain s).in__End)), (vB ((SN.plain s).in__Point)), (vI .i64 ((SN.plain s).from_)), (vI .i64 ((SN.plain s).till)), (vI .i64 v)]) ++ ((List.drop k P).flatMap PN.cells) = (putP ord s v P).flatMap PN.cells) (by rw [← hpp_]; first | (simp; done) | (simp; omega) : 0 + (List.length (List.take (k - 0) (List.drop 0 P))) + 1 + (List.length (List.drop k P)) = (List.length (putP ord s v P)))
      have H75_ := ((Holds.bring (Holds.bring H74_ 2 rfl) 2 rfl) :)
      obtain ⟨R76_, hs77_, ⟨R78_, ha79_, hs80_⟩, H81_⟩ := Holds.gift H75_
      have hr82_ : RS R76_ 6 v64_ (List.length (putP ord s v P)) ((putP ord s v P).flatMap PN.cells) := (sl_RS ha79_ (Sub.rfl' _)).mono hs80_
      have H83_ : Holds w70_ (ro R76_ :: cl pb 75 [(vI .i64 ord), v64_] :: F) := (Holds.pkF H81_ [0, 2] 2 :)
      exact ⟨R76_, _, _, rfl, hs77_, ⟨v64_, rfl, rfl, (hr82_)⟩, S73_, H83_⟩
     refine AllR.cons ?_ AllR.nil
     refine A_op (ls' := #[true, true, true, true, true, true, true, false, true, true, true, true, true, false, false, false, false, false]) rfl (by kernel_rfl) (T_val (v := pv) (x_load1 rfl Try.underlying73 rfl ((Holds.rd H55_ 4 rfl) 1 pv rfl)) ?_)
     refine ⟨⟨Holds.rd H55_ 3 rfl, (Holds.ro_at H55_ 1 rfl)⟩, ?_⟩
     have hq84_ := And.intro (Holds.rd H55_ 3 rfl) ((Holds.ro_at H55_ 1 rfl))
     refine A_tk 13 (v := (slc pv k (List.length P) 6)) rfl (by kernel_rfl) (fun w hS => x_sliceRS (l := k) (h := (List.length P)) rfl hP Try.underlying73 z131 (by omega) rfl ⟨_, _, rfl, by omega, by omega, by omega⟩) hq84_ ?_
     refine A_ready (i := 7) (rs := []) (by kernel_rfl) ?_
     refine AllR.cons ?_ AllR.nil
     refine A_op (ls' := #[true, true, true, true, true, true, true, true, true, true, true, true, true, true, false, false, false, false]) rfl (by kernel_rfl) (T_append rfl rfl Try.underlying73 z131 rfl (by decide) H55_ 2 rfl (Holds.cl_src H55_ 0 rfl Try.underlying73 (by simp [Value.oneCell']) rfl) (by simp only [List.length_append, List.length_cons, List.length_nil, List.length_take, List.length_drop]; omega) ?_)
     intro v85_ w86_ S88_ H87_
     have S89_ := Same.trans S57_ S88_
     refine ⟨⟨Holds.rd H87_ 3 rfl, (Holds.ro_at H87_ 1 rfl)⟩, ?_⟩
     refine A_ready (i := 14) (rs := []) (by kernel_rfl) ?_
     refine AllR.cons ?_ AllR.nil
     refine A_op (ls' := #[true, true, true, true, true, true, true, true, true, true, true, true, true, true, true, false, false, false]) rfl (by kernel_rfl) (T_append rfl rfl Try.underlying73 z131 rfl (by decide) H87_ 2 rfl (RS.src (RS.slcD (a := k) PN.len hP (by omega)) (Holds.ro_at H87_ 1 rfl) Try.underlying73 (ones_PN _)) (by simp only [List.length_append, List.length_cons, List.length_nil, List.length_take, List.length_drop]; omega) ?_)
     intro v90_ w91_ S93_ H92_
     have S94_ := Same.trans S89_ S93_
     refine ⟨⟨Holds.rd H92_ 3 rfl, (Holds.ro_at H92_ 1 rfl)⟩, ?_⟩
     have hq95_ := And.intro (Holds.rd H92_ 3 rfl) ((Holds.ro_at H92_ 1 rfl))
     refine A_tk 15 (v := (vQ pb)) rfl (by kernel_rfl) (fun w hS => by kernel_rfl) hq95_ ?_
     refine A_tk 16 (v := (vP (some ⟨pb, 1, none⟩))) rfl (by kernel_rfl) (fun w hS => by kernel_rfl) hq95_ ?_
     refine A_ready (i := 17) (rs := []) (by kernel_rfl) ?_
     refine AllR.cons ?_ AllR.nil
     refine A_op0 (ls' := #[true, true, true, true, true, true, true, true, true, true, true, true, true, true, true, true, true, true]) rfl (by kernel_rfl) (T_store1 (v := v90_) rfl rfl z73 (Holds.sl_one H92_ 2 rfl) H92_ 4 rfl (Nat.le_of_ble_eq_true (by rfl)) ?_)
     intro w96_ S98_ H97_
     have S99_ := Same.trans S94_ S98_
     refine ⟨⟨Holds.rd H97_ 3 rfl, (Holds.ro_at H97_ 1 rfl)⟩, ?_⟩
     refine A_done (by kernel_rfl) ?_
     refine R_0 rfl ?_
     have hpp_ := putP_at (v := v) hno (.inr ⟨x17_, hx18_, by simpa using c28_f⟩)
     have H100_ := Holds.resl H97_ 2 rfl (by rw [← hpp_]; simp [PN.cells, PN.of, List.flatMap_append] : (([] ++ ((List.take (k - 0) (List.drop 0 P)).flatMap PN.cells)) ++ [(Value.string ((SN.plain s).in__Begin)), (Value.string ((SN.plain s).in__End)), (vB ((SN.plain s).in__Point)), (vI .i64 ((SN.plain s).from_)), (vI .i64 ((SN.plain s).till)), (vI .i64 v)]) ++ ((List.drop k P).flatMap PN.cells) = (putP ord s v P).flatMap PN.cells) (by rw [← hpp_]; first | (simp; done) | (simp; omega) : 0 + (List.length (List.take (k - 0) (List.drop 0 P))) + 1 + (List.length (List.drop k P)) = (List.length (putP ord s v P)))
     have H101_ := ((Holds.bring (Holds.bring H100_ 2 rfl) 2 rfl) :)
     obtain ⟨R102_, hs103_, ⟨R104_, ha105_, hs106_⟩, H107_⟩ := Holds.gift H101_
     have hr108_ : RS R102_ 6 v90_ (List.length (putP ord s v P)) ((putP ord s v P).flatMap PN.cells) := (sl_RS ha105_ (Sub.rfl' _)).mono hs106_
     have H109_ : Holds w96_ (ro R102_ :: cl pb 75 [(vI .i64 ord), v90_] :: F) := (Holds.pkF H107_ [0, 2] 2 :)
     exact ⟨R102_, _, _, rfl, hs103_, ⟨v90_, rfl, rfl, (hr108_)⟩, S99_, H109_⟩
    refine AllR.cons ?_ AllR.nil
    refine A_op (ls' := #[true, true, true, true, true, true, false, false, true, true, true, true, true, false, false, false, false, false]) rfl (by kernel_rfl) (T_val (v := pv) (x_load1 rfl Try.underlying73 rfl ((Holds.rd H48_ 3 rfl) 1 pv rfl)) ?_)
    refine ⟨⟨Holds.rd H48_ 2 rfl, (Holds.ro_at H48_ 0 rfl)⟩, ?_⟩
    refine A_tk 13 (v := (slc pv k (List.length P) 6)) rfl (by kernel_rfl) (fun w hS => x_sliceRS (l := k) (h := (List.length P)) rfl hP Try.underlying73 z131 (by omega) rfl ⟨_, _, rfl, by omega, by omega, by omega⟩) hq52_ ?_
    refine A_ready (i := 6) (rs := []) (by kernel_rfl) ?_
    refine AllR.cons ?_ AllR.nil
    refine A_op (ls' := #[true, true, true, true, true, true, true, false, true, true, true, true, true, true, false, false, false, false]) rfl (by kernel_rfl) (T_new (obj := .cells #[(Value.string ((SN.plain s).in__Begin)), (Value.string ((SN.plain s).in__End)), (vB ((SN.plain s).in__Point)), (vI .i64 ((SN.plain s).from_)), (vI .i64 ((SN.plain s).till)), (vI .i64 v)] 131) (f := fun b__ => .slice (some ⟨b__, 0, none⟩) 1 1) (A := fun b__ => cl b__ 131 [(Value.string ((SN.plain s).in__Begin)), (Value.string ((SN.plain s).in__End)), (vB ((SN.plain s).in__Point)), (vI .i64 ((SN.plain s).from_)), (vI .i64 ((SN.plain s).till)), (vI .i64 v)]) (by kernel_rfl) (fun l h => h.alloc _ _) H48_ ?_)
    intro b110_ w111_ S113_ H112_
    have S114_ := Same.trans S51_ S113_
    refine ⟨⟨Holds.rd H112_ 3 rfl, (Holds.ro_at H112_ 1 rfl)⟩, ?_⟩
    refine A_ready (i := 7) (rs := []) (by kernel_rfl) ?_
    refine AllR.cons ?_ AllR.nil
    refine A_op (ls' := #[true, true, true, true, true, true, true, true, true, true, true, true, true, true, false, false, false, false]) rfl (by kernel_rfl) (T_append rfl rfl Try.underlying73 z131 rfl (by decide) H112_ 2 rfl (Holds.cl_src H112_ 0 rfl Try.underlying73 (by simp [Value.oneCell']) rfl) (by simp only [List.length_append, List.length_cons, List.length_nil, List.length_take, List.length_drop]; omega) ?_)
    intro v115_ w116_ S118_ H117_
    have S119_ := Same.trans S114_ S118_
    refine ⟨⟨Holds.rd H117_ 3 rfl, (Holds.ro_at H117_ 1 rfl)⟩, ?_⟩
    refine A_ready (i := 14) (rs := []) (by kernel_rfl) ?_
    refine AllR.cons ?_ AllR.nil
    refine A_op (ls' := #[true, true, true, true, true, true, true, true, true, true, true, true, true, true, true, false, false, false]) rfl (by kernel_rfl) (T_append rfl rfl Try.underlying73 z131 rfl (by decide) H117_ 2 rfl (RS.src (RS.slcD (a := k) PN.len hP (by omega)) (Holds.ro_at H117_ 1 rfl) Try.underlying73 (ones_PN _)) (by simp only [List.length_append, List.length_cons, List.length_nil, List.length_take, List.length_drop]; omega) ?_)
    intro v120_ w121_ S123_ H122_
    have S124_ := Same.trans S119_ S123_
    refine ⟨⟨Holds.rd H122_ 3 rfl, (Holds.ro_at H122_ 1 rfl)⟩, ?_⟩
    have hq125_ := And.intro (Holds.rd H122_ 3 rfl) ((Holds.ro_at H122_ 1 rfl))
    refine A_tk 15 (v := (vQ pb)) rfl (by kernel_rfl) (fun w hS => by kernel_rfl) hq125_ ?_
    refine A_tk 16 (v := (vP (some ⟨pb, 1, none⟩))) rfl (by kernel_rfl) (fun w hS => by kernel_rfl) hq125_ ?_
    refine A_ready (i := 17) (rs := []) (by kernel_rfl) ?_
    refine AllR.cons ?_ AllR.nil
    refine A_op0 (ls' := #[true, true, true, true, true, true, true, true, true, true, true, true, true, true, true, true, true, true]) rfl (by kernel_rfl) (T_store1 (v := v120_) rfl rfl z73 (Holds.sl_one H122_ 2 rfl) H122_ 4 rfl (Nat.le_of_ble_eq_true (by rfl)) ?_)
    intro w126_ S128_ H127_
    have S129_ := Same.trans S124_ S128_
    refine ⟨⟨Holds.rd H127_ 3 rfl, (Holds.ro_at H127_ 1 rfl)⟩, ?_⟩
    refine A_done (by kernel_rfl) ?_
    refine R_0 rfl ?_
    have hpp_ := putP_at (v := v) hno (.inr ⟨x17_, hx18_, by simpa using c28_f⟩)
    have H130_ := Holds.resl H127_ 2 rfl (by rw [← hpp_]; simp [PN.cells, PN.of, List.flatMap_append] : (([] ++ ((List.take (k - 0) (List.drop 0 P)).flatMap PN.cells)) ++ [(Value.string ((SN.plain s).in__Begin)), (Value.string ((SN.plain s).in__End)), (vB ((SN.plain s).in__Point)), (vI .i64 ((SN.plain s).from_)), (vI .i64 ((SN.plain s).till)), (vI .i64 v)]) ++ ((List.drop k P).flatMap PN.cells) = (putP ord s v P).flatMap PN.cells) (by rw [← hpp_]; first | (simp; done) | (simp; omega) : 0 + (List.length (List.take (k - 0) (List.drop 0 P))) + 1 + (List.length (List.drop k P)) = (List.length (putP ord s v P)))
    have H131_ := ((Holds.bring (Holds.bring H130_ 2 rfl) 2 rfl) :)
    obtain ⟨R132_, hs133_, ⟨R134_, ha135_, hs136_⟩, H137_⟩ := Holds.gift H131_
    have hr138_ : RS R132_ 6 v120_ (List.length (putP ord s v P)) ((putP ord s v P).flatMap PN.cells) := (sl_RS ha135_ (Sub.rfl' _)).mono hs136_
    have H139_ : Holds w126_ (ro R132_ :: cl pb 75 [(vI .i64 ord), v120_] :: F) := (Holds.pkF H137_ [0, 2] 2 :)
    exact ⟨R132_, _, _, rfl, hs133_, ⟨v120_, rfl, rfl, (hr138_)⟩, S129_, H139_⟩
   refine AllR.cons ?_ AllR.nil
   refine A_op (ls' := #[true, true, true, false, true, false, false, false, true, true, true, true, true, false, false, false, false, false]) rfl (by kernel_rfl) (T_val (v := pv) (x_load1 rfl Try.underlying73 rfl ((Holds.rd H43_ 3 rfl) 1 pv rfl)) ?_)
   refine ⟨⟨Holds.rd H43_ 2 rfl, (Holds.ro_at H43_ 1 rfl)⟩, ?_⟩
   refine A_tk 13 (v := (slc pv k (List.length P) 6)) rfl (by kernel_rfl) (fun w hS => x_sliceRS (l := k) (h := (List.length P)) rfl hP Try.underlying73 z131 (by omega) rfl ⟨_, _, rfl, by omega, by omega, by omega⟩) hq44_ ?_
   refine A_ready (i := 3) (rs := []) (by kernel_rfl) ?_
   refine AllR.cons ?_ AllR.nil
   have H141_ := ((Holds.bring H43_ 1 rfl) :)
   refine A_op (ls' := #[true, true, true, true, true, false, false, false, true, true, true, true, true, true, false, false, false, false]) rfl (by kernel_rfl) (T_call (al := [(vA #[(Value.string s.in__Begin), (Value.string s.in__End), (vB s.in__Point), (vI .i64 s.from_), (vI .i64 s.till)])]) (pre := []) rfl rfl cb76 (spPlain R s (hs)) H141_ ?_)
   rintro v140_ p145_ w142_ ⟨rfl, rfl⟩ S144_ H143_
   have S146_ := Same.trans (Same.trans S42_ (Same.drew _)) S144_
   refine ⟨⟨Holds.rd H143_ 2 rfl, (Holds.ro_at H143_ 0 rfl)⟩, ?_⟩
   have hq147_ := And.intro (Holds.rd H143_ 2 rfl) ((Holds.ro_at H143_ 0 rfl))
   refine A_tk 5 (v := (vA #[(Value.string ((SN.plain s).in__Begin)), (Value.string ((SN.plain s).in__End)), (vB ((SN.plain s).in__Point)), (vI .i64 ((SN.plain s).from_)), (vI .i64 ((SN.plain s).till)), (vI .i64 v)])) rfl (by kernel_rfl) (fun w hS => by kernel_rfl) hq147_ ?_
   refine A_ready (i := 6) (rs := []) (by kernel_rfl) ?_
   refine AllR.cons ?_ AllR.nil
   refine A_op (ls' := #[true, true, true, true, true, true, true, false, true, true, true, true, true, true, false, false, false, false]) rfl (by kernel_rfl) (T_new (obj := .cells #[(Value.string ((SN.plain s).in__Begin)), (Value.string ((SN.plain s).in__End)), (vB ((SN.plain s).in__Point)), (vI .i64 ((SN.plain s).from_)), (vI .i64 ((SN.plain s).till)), (vI .i64 v)] 131) (f := fun b__ => .slice (some ⟨b__, 0, none⟩) 1 1) (A := fun b__ => cl b__ 131 [(Value.string ((SN.plain s).in__Begin)), (Value.string ((SN.plain s).in__End)), (vB ((SN.plain s).in__Point)), (vI .i64 ((SN.plain s).from_)), (vI .i64 ((SN.plain s).till)), (vI .i64 v)]) (by kernel_rfl) (fun l h => h.alloc _ _) H143_ ?_)
   intro b148_ w149_ S151_ H150_
   have S152_ := Same.trans S146_ S151_
   refine ⟨⟨Holds.rd H150_ 3 rfl, (Holds.ro_at H150_ 1 rfl)⟩, ?_⟩
   refine A_ready (i := 7) (rs := []) (by kernel_rfl) ?_
   refine AllR.cons ?_ AllR.nil
   refine A_op (ls' := #[true, true, true, true, true, true, true, true, true, true, true, true, true, true, false, false, false, false]) rfl (by kernel_rfl) (T_append rfl rfl Try.underlying73 z131 rfl (by decide) H150_ 2 rfl (Holds.cl_src H150_ 0 rfl Try.underlying73 (by simp [Value.oneCell']) rfl) (by simp only [List.length_append, List.length_cons, List.length_nil, List.length_take, List.length_drop]; omega) ?_)
   intro v153_ w154_ S156_ H155_
   have S157_ := Same.trans S152_ S156_
   refine ⟨⟨Holds.rd H155_ 3 rfl, (Holds.ro_at H155_ 1 rfl)⟩, ?_⟩
   refine A_ready (i := 14) (rs := []) (by kernel_rfl) ?_
   refine AllR.cons ?_ AllR.nil
   refine A_op (ls' := #[true, true, true, true, true, true, true, true, true, true, true, true, true, true, true, false, false, false]) rfl (by kernel_rfl) (T_append rfl rfl Try.underlying73 z131 rfl (by decide) H155_ 2 rfl (RS.src (RS.slcD (a := k) PN.len hP (by omega)) (Holds.ro_at H155_ 1 rfl) Try.underlying73 (ones_PN _)) (by simp only [List.length_append, List.length_cons, List.length_nil, List.length_take, List.length_drop]; omega) ?_)
   intro v158_ w159_ S161_ H160_
   have S162_ := Same.trans S157_ S161_
   refine ⟨⟨Holds.rd H160_ 3 rfl, (Holds.ro_at H160_ 1 rfl)⟩, ?_⟩
   have hq163_ := And.intro (Holds.rd H160_ 3 rfl) ((Holds.ro_at H160_ 1 rfl))
   refine A_tk 15 (v := (vQ pb)) rfl (by kernel_rfl) (fun w hS => by kernel_rfl) hq163_ ?_
   refine A_tk 16 (v := (vP (some ⟨pb, 1, none⟩))) rfl (by kernel_rfl) (fun w hS => by kernel_rfl) hq163_ ?_
   refine A_ready (i := 17) (rs := []) (by kernel_rfl) ?_
   refine AllR.cons ?_ AllR.nil
   refine A_op0 (ls' := #[true, true, true, true, true, true, true, true, true, true, true, true, true, true, true, true, true, true]) rfl (by kernel_rfl) (T_store1 (v := v158_) rfl rfl z73 (Holds.sl_one H160_ 2 rfl) H160_ 4 rfl (Nat.le_of_ble_eq_true (by rfl)) ?_)
   intro w164_ S166_ H165_
   have S167_ := Same.trans S162_ S166_
   refine ⟨⟨Holds.rd H165_ 3 rfl, (Holds.ro_at H165_ 1 rfl)⟩, ?_⟩
   refine A_done (by kernel_rfl) ?_
   refine R_0 rfl ?_
   have hpp_ := putP_at (v := v) hno (.inr ⟨x17_, hx18_, by simpa using c28_f⟩)
   have H168_ := Holds.resl H165_ 2 rfl (by rw [← hpp_]; simp [PN.cells, PN.of, List.flatMap_append] : (([] ++ ((List.take (k - 0) (List.drop 0 P)).flatMap PN.cells)) ++ [(Value.string ((SN.plain s).in__Begin)), (Value.string ((SN.plain s).in__End)), (vB ((SN.plain s).in__Point)), (vI .i64 ((SN.plain s).from_)), (vI .i64 ((SN.plain s).till)), (vI .i64 v)]) ++ ((List.drop k P).flatMap PN.cells) = (putP ord s v P).flatMap PN.cells) (by rw [← hpp_]; first | (simp; done) | (simp; omega) : 0 + (List.length (List.take (k - 0) (List.drop 0 P))) + 1 + (List.length (List.drop k P)) = (List.length (putP ord s v P)))
   have H169_ := ((Holds.bring (Holds.bring H168_ 2 rfl) 2 rfl) :)
   obtain ⟨R170_, hs171_, ⟨R172_, ha173_, hs174_⟩, H175_⟩ := Holds.gift H169_
   have hr176_ : RS R170_ 6 v158_ (List.length (putP ord s v P)) ((putP ord s v P).flatMap PN.cells) := (sl_RS ha173_ (Sub.rfl' _)).mono hs174_
   have H177_ : Holds w164_ (ro R170_ :: cl pb 75 [(vI .i64 ord), v158_] :: F) := (Holds.pkF H175_ [0, 2] 2 :)
   exact ⟨R170_, _, _, rfl, hs171_, ⟨v158_, rfl, rfl, (hr176_)⟩, S167_, H177_⟩
 ·have c16_fp : ¬ ((k : Int) < ((List.length P) : Int)) := of_decide_eq_false c16_f
  refine A_tkN 8 (j := 7) (dj := 15) (b := false) rfl (by kernel_rfl) rfl rfl (congrArg vB c16_f) (by decide) hq15_ ?_
  refine A_tkN 9 (j := 7) (dj := 15) (b := false) rfl (by kernel_rfl) rfl rfl (congrArg vB c16_f) (by decide) hq15_ ?_
  refine A_tkN 10 (j := 7) (dj := 15) (b := false) rfl (by kernel_rfl) rfl rfl (congrArg vB c16_f) (by decide) hq15_ ?_
  refine A_tkN 11 (j := 7) (dj := 15) (b := false) rfl (by kernel_rfl) rfl rfl (congrArg vB c16_f) (by decide) hq15_ ?_
  refine A_tkN 12 (j := 7) (dj := 15) (b := false) rfl (by kernel_rfl) rfl rfl (congrArg vB c16_f) (by decide) hq15_ ?_
  refine A_tkN 13 (j := 7) (dj := 15) (b := false) rfl (by kernel_rfl) rfl rfl (congrArg vB c16_f) (by decide) hq15_ ?_
  refine A_tkN 14 (j := 7) (dj := 15) (b := false) rfl (by kernel_rfl) rfl rfl (congrArg vB c16_f) (by decide) hq15_ ?_
  refine A_tkN 15 (j := 7) (dj := 15) (b := false) rfl (by kernel_rfl) rfl rfl (congrArg vB c16_f) (by decide) hq15_ ?_
  refine A_tkN 16 (j := 7) (dj := 15) (b := false) rfl (by kernel_rfl) rfl rfl (congrArg vB c16_f) (by decide) hq15_ ?_
  refine A_tkN 17 (j := 7) (dj := 15) (b := false) rfl (by kernel_rfl) rfl rfl (congrArg vB c16_f) (by decide) hq15_ ?_
  refine A_tkN 18 (j := 7) (dj := 15) (b := false) rfl (by kernel_rfl) rfl rfl (congrArg vB c16_f) (by decide) hq15_ ?_
  refine A_tkN 19 (j := 7) (dj := 15) (b := false) rfl (by kernel_rfl) rfl rfl (congrArg vB c16_f) (by decide) hq15_ ?_
  refine A_tkN 20 (j := 7) (dj := 15) (b := false) rfl (by kernel_rfl) rfl rfl (congrArg vB c16_f) (by decide) hq15_ ?_
  refine A_tkN 21 (j := 7) (dj := 15) (b := false) rfl (by kernel_rfl) rfl rfl (congrArg vB c16_f) (by decide) hq15_ ?_
  refine A_tkN 22 (j := 7) (dj := 15) (b := false) rfl (by kernel_rfl) rfl rfl (congrArg vB c16_f) (by decide) hq15_ ?_
  refine A_tk 23 (v := (vB false)) rfl (by kernel_rfl) (fun w hS => (x_pickF (congrArg vB c16_f) rfl)) hq15_ ?_
  refine A_done (by kernel_rfl) ?_
  refine (X_then (hK13_ _ _ ?_))
  clear hK13_
  refine C_condF rfl ?_
  refine C_exit (X_thenX (X_thenX (X_blkHit ?_)))
  refine (X_then (hK8_ _ _ ?_))
  clear hK8_
  refine C_seq (fun K178_ hK178_ => C_reg ?_)
  refine S_list (T_new (obj := .cells #[] 131) (f := fun b__ => .slice (some ⟨b__, 0, none⟩) 0 0) (A := fun b__ => cl b__ 131 []) (by kernel_rfl) (fun l h => h.alloc _ _) H14_ ?_)
  intro b179_ w180_ S182_ H181_
  have S183_ := Same.trans (Same.trans S11_ (Same.drew _)) S182_
  refine sv (v := (vQ pb)) (x_move rfl) ?_
  refine sv (v := (vQ pb)) (by kernel_rfl) ?_
  refine sv (v := (vP (some ⟨pb, 1, none⟩))) (by kernel_rfl) ?_
  refine sv (v := pv) (x_load1 rfl Try.underlying73 rfl ((Holds.rd H181_ 3 rfl) 1 pv rfl)) ?_
  refine sv (v := (vI .i64 (k : Int))) (x_move rfl) ?_
  refine sv (v := (slc pv 0 k 6)) (x_sliceRS (l := 0) (h := k) rfl hP Try.underlying73 z131 (by omega) ⟨_, _, rfl, by omega, by omega, by omega⟩ rfl) ?_
  have H184_ : Holds w180_ (cl b179_ 131 ([] ++ [] ++ []) :: cl b2_ 44 [(Value.string s.in__Begin), (Value.string s.in__End), (vB s.in__Point), (vI .i64 s.from_), (vI .i64 s.till)] :: ro R :: cl pb 75 [(vI .i64 ord), pv] :: F) := cast1 (P := fun (c__ : List Value) => Holds w180_ (cl b179_ 131 c__ :: cl b2_ 44 [(Value.string s.in__Begin), (Value.string s.in__End), (vB s.in__Point), (vI .i64 s.from_), (vI .i64 s.till)] :: ro R :: cl pb 75 [(vI .i64 ord), pv] :: F)) (by kernel_rfl : [] = [] ++ [] ++ []) H181_
  have H185_ : Holds w180_ (sl 131 6 (vS (some ⟨b179_, 0, none⟩) 0 0) 0 [] :: cl b2_ 44 [(Value.string s.in__Begin), (Value.string s.in__End), (vB s.in__Point), (vI .i64 s.from_), (vI .i64 s.till)] :: ro R :: cl pb 75 [(vI .i64 ord), pv] :: F) := Holds.to_sl H184_ 0 [] [] (xs := []) (m := 0) (cap := 0) (sz := 6) rfl (by kernel_rfl) (by kernel_rfl) (by omega)
  refine S_list (T_append rfl rfl Try.underlying73 z131 rfl (by decide) H185_ 0 rfl (RS.src (RS.slcF PN.len hP (by omega : 0 ≤ k) (by omega)) (Holds.ro_at H185_ 2 rfl) Try.underlying73 (ones_PN _)) (by simp only [List.length_append, List.length_cons, List.length_nil, List.length_take, List.length_drop]; omega) ?_)
  intro v186_ w187_ S189_ H188_
  have S190_ := Same.trans S183_ S189_
  refine sv (v := v186_) (x_assign rfl) ?_
  refine wpList_nil (X_then (hK178_ _ _ ?_))
  clear hK178_
  refine A_start (S := fun w => Rd b2_ [(Value.string s.in__Begin), (Value.string s.in__End), (vB s.in__Point), (vI .i64 s.from_), (vI .i64 s.till)] w ∧ Sub R (hp w)) (N := 18) foll rfl rfl ?_
  have H191_ := Holds.drew_ H188_
  have hq192_ := And.intro (Holds.rd H191_ 1 rfl) ((Holds.ro_at H191_ 2 rfl))
  refine A_tk 0 (v := (vQ pb)) rfl (by kernel_rfl) (fun w hS => x_move rfl) hq192_ ?_
  refine A_tk 1 (v := v186_) rfl (by kernel_rfl) (fun w hS => x_move rfl) hq192_ ?_
  refine A_tk 2 (v := (vA #[(Value.string s.in__Begin), (Value.string s.in__End), (vB s.in__Point), (vI .i64 s.from_), (vI .i64 s.till)])) rfl (by kernel_rfl) (fun w hS => x_loadN (vs := [(Value.string s.in__Begin), (Value.string s.in__End), (vB s.in__Point), (vI .i64 s.from_), (vI .i64 s.till)]) rfl Try.underlying44 rfl z44 rfl (Rd.cells hS.1 0 rfl)) hq192_ ?_
  refine A_tk 4 (v := (vI .i64 v)) rfl (by kernel_rfl) (fun w hS => x_move rfl) hq192_ ?_
  refine A_tk 8 (v := (vQ pb)) rfl (by kernel_rfl) (fun w hS => x_move rfl) hq192_ ?_
  refine A_tk 9 (v := (vQ pb)) rfl (by kernel_rfl) (fun w hS => by kernel_rfl) hq192_ ?_
  refine A_tk 10 (v := (vP (some ⟨pb, 1, none⟩))) rfl (by kernel_rfl) (fun w hS => by kernel_rfl) hq192_ ?_
  refine A_tk 12 (v := (vI .i64 (k : Int))) rfl (by kernel_rfl) (fun w hS => x_move rfl) hq192_ ?_
  refine A_ready (i := 3) (rs := [11]) (by kernel_rfl) ?_
  refine AllR.cons ?_ ?_
  ·skip
   have H194_ := ((Holds.bring H191_ 2 rfl) :)
   refine A_op (ls' := #[true, true, true, true, true, false, false, false, true, true, true, false, true, false, false, false, false, false]) rfl (by kernel_rfl) (T_call (al := [(vA #[(Value.string s.in__Begin), (Value.string s.in__End), (vB s.in__Point), (vI .i64 s.from_), (vI .i64 s.till)])]) (pre := []) rfl rfl cb76 (spPlain R s (hs)) H194_ ?_)
   rintro v193_ p198_ w195_ ⟨rfl, rfl⟩ S197_ H196_
   have S199_ := Same.trans (Same.trans S190_ (Same.drew _)) S197_
   refine ⟨⟨Holds.rd H196_ 2 rfl, (Holds.ro_at H196_ 0 rfl)⟩, ?_⟩
   have hq200_ := And.intro (Holds.rd H196_ 2 rfl) ((Holds.ro_at H196_ 0 rfl))
   refine A_tk 5 (v := (vA #[(Value.string ((SN.plain s).in__Begin)), (Value.string ((SN.plain s).in__End)), (vB ((SN.plain s).in__Point)), (vI .i64 ((SN.plain s).from_)), (vI .i64 ((SN.plain s).till)), (vI .i64 v)])) rfl (by kernel_rfl) (fun w hS => by kernel_rfl) hq200_ ?_
   refine A_ready (i := 6) (rs := [11]) (by kernel_rfl) ?_
   refine AllR.cons ?_ ?_
   ·skip
    refine A_op (ls' := #[true, true, true, true, true, true, true, false, true, true, true, false, true, false, false, false, false, false]) rfl (by kernel_rfl) (T_new (obj := .cells #[(Value.string ((SN.plain s).in__Begin)), (Value.string ((SN.plain s).in__End)), (vB ((SN.plain s).in__Point)), (vI .i64 ((SN.plain s).from_)), (vI .i64 ((SN.plain s).till)), (vI .i64 v)] 131) (f := fun b__ => .slice (some ⟨b__, 0, none⟩) 1 1) (A := fun b__ => cl b__ 131 [(Value.string ((SN.plain s).in__Begin)), (Value.string ((SN.plain s).in__End)), (vB ((SN.plain s).in__Point)), (vI .i64 ((SN.plain s).from_)), (vI .i64 ((SN.plain s).till)), (vI .i64 v)]) (by kernel_rfl) (fun l h => h.alloc _ _) H196_ ?_)
    intro b201_ w202_ S204_ H203_
    have S205_ := Same.trans S199_ S204_
    refine ⟨⟨Holds.rd H203_ 3 rfl, (Holds.ro_at H203_ 1 rfl)⟩, ?_⟩
    refine A_ready (i := 7) (rs := [11]) (by kernel_rfl) ?_
    refine AllR.cons ?_ ?_
    ·skip
     refine A_op (ls' := #[true, true, true, true, true, true, true, true, true, true, true, false, true, false, false, false, false, false]) rfl (by kernel_rfl) (T_append rfl rfl Try.underlying73 z131 rfl (by decide) H203_ 2 rfl (Holds.cl_src H203_ 0 rfl Try.underlying73 (by simp [Value.oneCell']) rfl) (by simp only [List.length_append, List.length_cons, List.length_nil, List.length_take, List.length_drop]; omega) ?_)
     intro v206_ w207_ S209_ H208_
     have S210_ := Same.trans S205_ S209_
     refine ⟨⟨Holds.rd H208_ 3 rfl, (Holds.ro_at H208_ 1 rfl)⟩, ?_⟩
     refine A_ready (i := 11) (rs := []) (by kernel_rfl) ?_
     refine AllR.cons ?_ AllR.nil
     refine A_op (ls' := #[true, true, true, true, true, true, true, true, true, true, true, true, true, false, false, false, false, false]) rfl (by kernel_rfl) (T_val (v := pv) (x_load1 rfl Try.underlying73 rfl ((Holds.rd H208_ 4 rfl) 1 pv rfl)) ?_)
     refine ⟨⟨Holds.rd H208_ 3 rfl, (Holds.ro_at H208_ 1 rfl)⟩, ?_⟩
     have hq211_ := And.intro (Holds.rd H208_ 3 rfl) ((Holds.ro_at H208_ 1 rfl))
     refine A_tk 13 (v := (slc pv k (List.length P) 6)) rfl (by kernel_rfl) (fun w hS => x_sliceRS (l := k) (h := (List.length P)) rfl hP Try.underlying73 z131 (by omega) rfl ⟨_, _, rfl, by omega, by omega, by omega⟩) hq211_ ?_
     refine A_ready (i := 14) (rs := []) (by kernel_rfl) ?_
     refine AllR.cons ?_ AllR.nil
     refine A_op (ls' := #[true, true, true, true, true, true, true, true, true, true, true, true, true, true, true, false, false, false]) rfl (by kernel_rfl) (T_append rfl rfl Try.underlying73 z131 rfl (by decide) H208_ 2 rfl (RS.src (RS.slcD (a := k) PN.len hP (by omega)) (Holds.ro_at H208_ 1 rfl) Try.underlying73 (ones_PN _)) (by simp only [List.length_append, List.length_cons, List.length_nil, List.length_take, List.length_drop]; omega) ?_)
     intro v212_ w213_ S215_ H214_
     have S216_ := Same.trans S210_ S215_
     refine ⟨⟨Holds.rd H214_ 3 rfl, (Holds.ro_at H214_ 1 rfl)⟩, ?_⟩
     have hq217_ := And.intro (Holds.rd H214_ 3 rfl) ((Holds.ro_at H214_ 1 rfl))
     refine A_tk 15 (v := (vQ pb)) rfl (by kernel_rfl) (fun w hS => by kernel_rfl) hq217_ ?_
     refine A_tk 16 (v := (vP (some ⟨pb, 1, none⟩))) rfl (by kernel_rfl) (fun w hS => by kernel_rfl) hq217_ ?_
     refine A_ready (i := 17) (rs := []) (by kernel_rfl) ?_
     refine AllR.cons ?_ AllR.nil
     refine A_op0 (ls' := #[true, true, true, true, true, true, true, true, true, true, true, true, true, true, true, true, true, true]) rfl (by kernel_rfl) (T_store1 (v := v212_) rfl rfl z73 (Holds.sl_one H214_ 2 rfl) H214_ 4 rfl (Nat.le_of_ble_eq_true (by rfl)) ?_)
     intro w218_ S220_ H219_
     have S221_ := Same.trans S216_ S220_
     refine ⟨⟨Holds.rd H219_ 3 rfl, (Holds.ro_at H219_ 1 rfl)⟩, ?_⟩
     refine A_done (by kernel_rfl) ?_
     refine R_0 rfl ?_
     have hpp_ := putP_at (v := v) hno (.inl (by omega))
     have H222_ := Holds.resl H219_ 2 rfl (by rw [← hpp_]; simp [PN.cells, PN.of, List.flatMap_append] : (([] ++ ((List.take (k - 0) (List.drop 0 P)).flatMap PN.cells)) ++ [(Value.string ((SN.plain s).in__Begin)), (Value.string ((SN.plain s).in__End)), (vB ((SN.plain s).in__Point)), (vI .i64 ((SN.plain s).from_)), (vI .i64 ((SN.plain s).till)), (vI .i64 v)]) ++ ((List.drop k P).flatMap PN.cells) = (putP ord s v P).flatMap PN.cells) (by rw [← hpp_]; first | (simp; done) | (simp; omega) : 0 + (List.length (List.take (k - 0) (List.drop 0 P))) + 1 + (List.length (List.drop k P)) = (List.length (putP ord s v P)))
     have H223_ := ((Holds.bring (Holds.bring H222_ 2 rfl) 2 rfl) :)
     obtain ⟨R224_, hs225_, ⟨R226_, ha227_, hs228_⟩, H229_⟩ := Holds.gift H223_
     have hr230_ : RS R224_ 6 v212_ (List.length (putP ord s v P)) ((putP ord s v P).flatMap PN.cells) := (sl_RS ha227_ (Sub.rfl' _)).mono hs228_
     have H231_ : Holds w218_ (ro R224_ :: cl pb 75 [(vI .i64 ord), v212_] :: F) := (Holds.pkF H229_ [0, 2] 2 :)
     exact ⟨R224_, _, _, rfl, hs225_, ⟨v212_, rfl, rfl, (hr230_)⟩, S221_, H231_⟩
    refine AllR.cons ?_ AllR.nil
    refine A_op (ls' := #[true, true, true, true, true, true, true, false, true, true, true, true, true, false, false, false, false, false]) rfl (by kernel_rfl) (T_val (v := pv) (x_load1 rfl Try.underlying73 rfl ((Holds.rd H203_ 4 rfl) 1 pv rfl)) ?_)
    refine ⟨⟨Holds.rd H203_ 3 rfl, (Holds.ro_at H203_ 1 rfl)⟩, ?_⟩
    have hq232_ := And.intro (Holds.rd H203_ 3 rfl) ((Holds.ro_at H203_ 1 rfl))
    refine A_tk 13 (v := (slc pv k (List.length P) 6)) rfl (by kernel_rfl) (fun w hS => x_sliceRS (l := k) (h := (List.length P)) rfl hP Try.underlying73 z131 (by omega) rfl ⟨_, _, rfl, by omega, by omega, by omega⟩) hq232_ ?_
    refine A_ready (i := 7) (rs := []) (by kernel_rfl) ?_
    refine AllR.cons ?_ AllR.nil
    refine A_op (ls' := #[true, true, true, true, true, true, true, true, true, true, true, true, true, true, false, false, false, false]) rfl (by kernel_rfl) (T_append rfl rfl Try.underlying73 z131 rfl (by decide) H203_ 2 rfl (Holds.cl_src H203_ 0 rfl Try.underlying73 (by simp [Value.oneCell']) rfl) (by simp only [List.length_append, List.length_cons, List.length_nil, List.length_take, List.length_drop]; omega) ?_)
    intro v233_ w234_ S236_ H235_
    have S237_ := Same.trans S205_ S236_
    refine ⟨⟨Holds.rd H235_ 3 rfl, (Holds.ro_at H235_ 1 rfl)⟩, ?_⟩
    refine A_ready (i := 14) (rs := []) (by kernel_rfl) ?_
    refine AllR.cons ?_ AllR.nil
    refine A_op (ls' := #[true, true, true, true, true, true, true, true, true, true, true, true, true, true, true, false, false, false]) rfl (by kernel_rfl) (T_append rfl rfl Try.underlying73 z131 rfl (by decide) H235_ 2 rfl (RS.src (RS.slcD (a := k) PN.len hP (by omega)) (Holds.ro_at H235_ 1 rfl) Try.underlying73 (ones_PN _)) (by simp only [List.length_append, List.length_cons, List.length_nil, List.length_take, List.length_drop]; omega) ?_)
    intro v238_ w239_ S241_ H240_
    have S242_ := Same.trans S237_ S241_
    refine ⟨⟨Holds.rd H240_ 3 rfl, (Holds.ro_at H240_ 1 rfl)⟩, ?_⟩
    have hq243_ := And.intro (Holds.rd H240_ 3 rfl) ((Holds.ro_at H240_ 1 rfl))
    refine A_tk 15 (v := (vQ pb)) rfl (by kernel_rfl) (fun w hS => by kernel_rfl) hq243_ ?_
    refine A_tk 16 (v := (vP (some ⟨pb, 1, none⟩))) rfl (by kernel_rfl) (fun w hS => by kernel_rfl) hq243_ ?_
    refine A_ready (i := 17) (rs := []) (by kernel_rfl) ?_
    refine AllR.cons ?_ AllR.nil
    refine A_op0 (ls' := #[true, true, true, true, true, true, true, true, true, true, true, true, true, true, true, true, true, true]) rfl (by kernel_rfl) (T_store1 (v := v238_) rfl rfl z73 (Holds.sl_one H240_ 2 rfl) H240_ 4 rfl (Nat.le_of_ble_eq_true (by rfl)) ?_)
    intro w244_ S246_ H245_
    have S247_ := Same.trans S242_ S246_
    refine ⟨⟨Holds.rd H245_ 3 rfl, (Holds.ro_at H245_ 1 rfl)⟩, ?_⟩
    refine A_done (by kernel_rfl) ?_
    refine R_0 rfl ?_
    have hpp_ := putP_at (v := v) hno (.inl (by omega))
    have H248_ := Holds.resl H245_ 2 rfl (by rw [← hpp_]; simp [PN.cells, PN.of, List.flatMap_append] : (([] ++ ((List.take (k - 0) (List.drop 0 P)).flatMap PN.cells)) ++ [(Value.string ((SN.plain s).in__Begin)), (Value.string ((SN.plain s).in__End)), (vB ((SN.plain s).in__Point)), (vI .i64 ((SN.plain s).from_)), (vI .i64 ((SN.plain s).till)), (vI .i64 v)]) ++ ((List.drop k P).flatMap PN.cells) = (putP ord s v P).flatMap PN.cells) (by rw [← hpp_]; first | (simp; done) | (simp; omega) : 0 + (List.length (List.take (k - 0) (List.drop 0 P))) + 1 + (List.length (List.drop k P)) = (List.length (putP ord s v P)))
    have H249_ := ((Holds.bring (Holds.bring H248_ 2 rfl) 2 rfl) :)
    obtain ⟨R250_, hs251_, ⟨R252_, ha253_, hs254_⟩, H255_⟩ := Holds.gift H249_
    have hr256_ : RS R250_ 6 v238_ (List.length (putP ord s v P)) ((putP ord s v P).flatMap PN.cells) := (sl_RS ha253_ (Sub.rfl' _)).mono hs254_
    have H257_ : Holds w244_ (ro R250_ :: cl pb 75 [(vI .i64 ord), v238_] :: F) := (Holds.pkF H255_ [0, 2] 2 :)
    exact ⟨R250_, _, _, rfl, hs251_, ⟨v238_, rfl, rfl, (hr256_)⟩, S247_, H257_⟩
   refine AllR.cons ?_ AllR.nil
   refine A_op (ls' := #[true, true, true, true, true, true, false, false, true, true, true, true, true, false, false, false, false, false]) rfl (by kernel_rfl) (T_val (v := pv) (x_load1 rfl Try.underlying73 rfl ((Holds.rd H196_ 3 rfl) 1 pv rfl)) ?_)
   refine ⟨⟨Holds.rd H196_ 2 rfl, (Holds.ro_at H196_ 0 rfl)⟩, ?_⟩
   refine A_tk 13 (v := (slc pv k (List.length P) 6)) rfl (by kernel_rfl) (fun w hS => x_sliceRS (l := k) (h := (List.length P)) rfl hP Try.underlying73 z131 (by omega) rfl ⟨_, _, rfl, by omega, by omega, by omega⟩) hq200_ ?_
   refine A_ready (i := 6) (rs := []) (by kernel_rfl) ?_
   refine AllR.cons ?_ AllR.nil
   refine A_op (ls' := #[true, true, true, true, true, true, true, false, true, true, true, true, true, true, false, false, false, false]) rfl (by kernel_rfl) (T_new (obj := .cells #[(Value.string ((SN.plain s).in__Begin)), (Value.string ((SN.plain s).in__End)), (vB ((SN.plain s).in__Point)), (vI .i64 ((SN.plain s).from_)), (vI .i64 ((SN.plain s).till)), (vI .i64 v)] 131) (f := fun b__ => .slice (some ⟨b__, 0, none⟩) 1 1) (A := fun b__ => cl b__ 131 [(Value.string ((SN.plain s).in__Begin)), (Value.string ((SN.plain s).in__End)), (vB ((SN.plain s).in__Point)), (vI .i64 ((SN.plain s).from_)), (vI .i64 ((SN.plain s).till)), (vI .i64 v)]) (by kernel_rfl) (fun l h => h.alloc _ _) H196_ ?_)
   intro b258_ w259_ S261_ H260_
   have S262_ := Same.trans S199_ S261_
   refine ⟨⟨Holds.rd H260_ 3 rfl, (Holds.ro_at H260_ 1 rfl)⟩, ?_⟩
   refine A_ready (i := 7) (rs := []) (by kernel_rfl) ?_
   refine AllR.cons ?_ AllR.nil
   refine A_op (ls' := #[true, true, true, true, true, true, true, true, true, true, true, true, true, true, false, false, false, false]) rfl (by kernel_rfl) (T_append rfl rfl Try.underlying73 z131 rfl (by decide) H260_ 2 rfl (Holds.cl_src H260_ 0 rfl Try.underlying73 (by simp [Value.oneCell']) rfl) (by simp only [List.length_append, List.length_cons, List.length_nil, List.length_take, List.length_drop]; omega) ?_)
   intro v263_ w264_ S266_ H265_
   have S267_ := Same.trans S262_ S266_
   refine ⟨⟨Holds.rd H265_ 3 rfl, (Holds.ro_at H265_ 1 rfl)⟩, ?_⟩
   refine A_ready (i := 14) (rs := []) (by kernel_rfl) ?_
   refine AllR.cons ?_ AllR.nil
   refine A_op (ls' := #[true, true, true, true, true, true, true, true, true, true, true, true, true, true, true, false, false, false]) rfl (by kernel_rfl) (T_append rfl rfl Try.underlying73 z131 rfl (by decide) H265_ 2 rfl (RS.src (RS.slcD (a := k) PN.len hP (by omega)) (Holds.ro_at H265_ 1 rfl) Try.underlying73 (ones_PN _)) (by simp only [List.length_append, List.length_cons, List.length_nil, List.length_take, List.length_drop]; omega) ?_)
   intro v268_ w269_ S271_ H270_
   have S272_ := Same.trans S267_ S271_
   refine ⟨⟨Holds.rd H270_ 3 rfl, (Holds.ro_at H270_ 1 rfl)⟩, ?_⟩
   have hq273_ := And.intro (Holds.rd H270_ 3 rfl) ((Holds.ro_at H270_ 1 rfl))
   refine A_tk 15 (v := (vQ pb)) rfl (by kernel_rfl) (fun w hS => by kernel_rfl) hq273_ ?_
   refine A_tk 16 (v := (vP (some ⟨pb, 1, none⟩))) rfl (by kernel_rfl) (fun w hS => by kernel_rfl) hq273_ ?_
   refine A_ready (i := 17) (rs := []) (by kernel_rfl) ?_
   refine AllR.cons ?_ AllR.nil
   refine A_op0 (ls' := #[true, true, true, true, true, true, true, true, true, true, true, true, true, true, true, true, true, true]) rfl (by kernel_rfl) (T_store1 (v := v268_) rfl rfl z73 (Holds.sl_one H270_ 2 rfl) H270_ 4 rfl (Nat.le_of_ble_eq_true (by rfl)) ?_)
   intro w274_ S276_ H275_
   have S277_ := Same.trans S272_ S276_
   refine ⟨⟨Holds.rd H275_ 3 rfl, (Holds.ro_at H275_ 1 rfl)⟩, ?_⟩
   refine A_done (by kernel_rfl) ?_
   refine R_0 rfl ?_
   have hpp_ := putP_at (v := v) hno (.inl (by omega))
   have H278_ := Holds.resl H275_ 2 rfl (by rw [← hpp_]; simp [PN.cells, PN.of, List.flatMap_append] : (([] ++ ((List.take (k - 0) (List.drop 0 P)).flatMap PN.cells)) ++ [(Value.string ((SN.plain s).in__Begin)), (Value.string ((SN.plain s).in__End)), (vB ((SN.plain s).in__Point)), (vI .i64 ((SN.plain s).from_)), (vI .i64 ((SN.plain s).till)), (vI .i64 v)]) ++ ((List.drop k P).flatMap PN.cells) = (putP ord s v P).flatMap PN.cells) (by rw [← hpp_]; first | (simp; done) | (simp; omega) : 0 + (List.length (List.take (k - 0) (List.drop 0 P))) + 1 + (List.length (List.drop k P)) = (List.length (putP ord s v P)))
   have H279_ := ((Holds.bring (Holds.bring H278_ 2 rfl) 2 rfl) :)
   obtain ⟨R280_, hs281_, ⟨R282_, ha283_, hs284_⟩, H285_⟩ := Holds.gift H279_
   have hr286_ : RS R280_ 6 v268_ (List.length (putP ord s v P)) ((putP ord s v P).flatMap PN.cells) := (sl_RS ha283_ (Sub.rfl' _)).mono hs284_
   have H287_ : Holds w274_ (ro R280_ :: cl pb 75 [(vI .i64 ord), v268_] :: F) := (Holds.pkF H285_ [0, 2] 2 :)
   exact ⟨R280_, _, _, rfl, hs281_, ⟨v268_, rfl, rfl, (hr286_)⟩, S277_, H287_⟩
  refine AllR.cons ?_ AllR.nil
  refine A_op (ls' := #[true, true, true, false, true, false, false, false, true, true, true, true, true, false, false, false, false, false]) rfl (by kernel_rfl) (T_val (v := pv) (x_load1 rfl Try.underlying73 rfl ((Holds.rd H191_ 3 rfl) 1 pv rfl)) ?_)
  refine ⟨⟨Holds.rd H191_ 1 rfl, (Holds.ro_at H191_ 2 rfl)⟩, ?_⟩
  refine A_tk 13 (v := (slc pv k (List.length P) 6)) rfl (by kernel_rfl) (fun w hS => x_sliceRS (l := k) (h := (List.length P)) rfl hP Try.underlying73 z131 (by omega) rfl ⟨_, _, rfl, by omega, by omega, by omega⟩) hq192_ ?_
  refine A_ready (i := 3) (rs := []) (by kernel_rfl) ?_
  refine AllR.cons ?_ AllR.nil
  have H289_ := ((Holds.bring H191_ 2 rfl) :)
  refine A_op (ls' := #[true, true, true, true, true, false, false, false, true, true, true, true, true, true, false, false, false, false]) rfl (by kernel_rfl) (T_call (al := [(vA #[(Value.string s.in__Begin), (Value.string s.in__End), (vB s.in__Point), (vI .i64 s.from_), (vI .i64 s.till)])]) (pre := []) rfl rfl cb76 (spPlain R s (hs)) H289_ ?_)
  rintro v288_ p293_ w290_ ⟨rfl, rfl⟩ S292_ H291_
  have S294_ := Same.trans (Same.trans S190_ (Same.drew _)) S292_
  refine ⟨⟨Holds.rd H291_ 2 rfl, (Holds.ro_at H291_ 0 rfl)⟩, ?_⟩
  have hq295_ := And.intro (Holds.rd H291_ 2 rfl) ((Holds.ro_at H291_ 0 rfl))
  refine A_tk 5 (v := (vA #[(Value.string ((SN.plain s).in__Begin)), (Value.string ((SN.plain s).in__End)), (vB ((SN.plain s).in__Point)), (vI .i64 ((SN.plain s).from_)), (vI .i64 ((SN.plain s).till)), (vI .i64 v)])) rfl (by kernel_rfl) (fun w hS => by kernel_rfl) hq295_ ?_
  refine A_ready (i := 6) (rs := []) (by kernel_rfl) ?_
  refine AllR.cons ?_ AllR.nil
  refine A_op (ls' := #[true, true, true, true, true, true, true, false, true, true, true, true, true, true, false, false, false, false]) rfl (by kernel_rfl) (T_new (obj := .cells #[(Value.string ((SN.plain s).in__Begin)), (Value.string ((SN.plain s).in__End)), (vB ((SN.plain s).in__Point)), (vI .i64 ((SN.plain s).from_)), (vI .i64 ((SN.plain s).till)), (vI .i64 v)] 131) (f := fun b__ => .slice (some ⟨b__, 0, none⟩) 1 1) (A := fun b__ => cl b__ 131 [(Value.string ((SN.plain s).in__Begin)), (Value.string ((SN.plain s).in__End)), (vB ((SN.plain s).in__Point)), (vI .i64 ((SN.plain s).from_)), (vI .i64 ((SN.plain s).till)), (vI .i64 v)]) (by kernel_rfl) (fun l h => h.alloc _ _) H291_ ?_)
  intro b296_ w297_ S299_ H298_
  have S300_ := Same.trans S294_ S299_
  refine ⟨⟨Holds.rd H298_ 3 rfl, (Holds.ro_at H298_ 1 rfl)⟩, ?_⟩
  refine A_ready (i := 7) (rs := []) (by kernel_rfl) ?_
  refine AllR.cons ?_ AllR.nil
  refine A_op (ls' := #[true, true, true, true, true, true, true, true, true, true, true, true, true, true, false, false, false, false]) rfl (by kernel_rfl) (T_append rfl rfl Try.underlying73 z131 rfl (by decide) H298_ 2 rfl (Holds.cl_src H298_ 0 rfl Try.underlying73 (by simp [Value.oneCell']) rfl) (by simp only [List.length_append, List.length_cons, List.length_nil, List.length_take, List.length_drop]; omega) ?_)
  intro v301_ w302_ S304_ H303_
  have S305_ := Same.trans S300_ S304_
  refine ⟨⟨Holds.rd H303_ 3 rfl, (Holds.ro_at H303_ 1 rfl)⟩, ?_⟩
  refine A_ready (i := 14) (rs := []) (by kernel_rfl) ?_
  refine AllR.cons ?_ AllR.nil
  refine A_op (ls' := #[true, true, true, true, true, true, true, true, true, true, true, true, true, true, true, false, false, false]) rfl (by kernel_rfl) (T_append rfl rfl Try.underlying73 z131 rfl (by decide) H303_ 2 rfl (RS.src (RS.slcD (a := k) PN.len hP (by omega)) (Holds.ro_at H303_ 1 rfl) Try.underlying73 (ones_PN _)) (by simp only [List.length_append, List.length_cons, List.length_nil, List.length_take, List.length_drop]; omega) ?_)
  intro v306_ w307_ S309_ H308_
  have S310_ := Same.trans S305_ S309_
  refine ⟨⟨Holds.rd H308_ 3 rfl, (Holds.ro_at H308_ 1 rfl)⟩, ?_⟩
  have hq311_ := And.intro (Holds.rd H308_ 3 rfl) ((Holds.ro_at H308_ 1 rfl))
  refine A_tk 15 (v := (vQ pb)) rfl (by kernel_rfl) (fun w hS => by kernel_rfl) hq311_ ?_
  refine A_tk 16 (v := (vP (some ⟨pb, 1, none⟩))) rfl (by kernel_rfl) (fun w hS => by kernel_rfl) hq311_ ?_
  refine A_ready (i := 17) (rs := []) (by kernel_rfl) ?_
  refine AllR.cons ?_ AllR.nil
  refine A_op0 (ls' := #[true, true, true, true, true, true, true, true, true, true, true, true, true, true, true, true, true, true]) rfl (by kernel_rfl) (T_store1 (v := v306_) rfl rfl z73 (Holds.sl_one H308_ 2 rfl) H308_ 4 rfl (Nat.le_of_ble_eq_true (by rfl)) ?_)
  intro w312_ S314_ H313_
  have S315_ := Same.trans S310_ S314_
  refine ⟨⟨Holds.rd H313_ 3 rfl, (Holds.ro_at H313_ 1 rfl)⟩, ?_⟩
  refine A_done (by kernel_rfl) ?_
  refine R_0 rfl ?_
  have hpp_ := putP_at (v := v) hno (.inl (by omega))
  have H316_ := Holds.resl H313_ 2 rfl (by rw [← hpp_]; simp [PN.cells, PN.of, List.flatMap_append] : (([] ++ ((List.take (k - 0) (List.drop 0 P)).flatMap PN.cells)) ++ [(Value.string ((SN.plain s).in__Begin)), (Value.string ((SN.plain s).in__End)), (vB ((SN.plain s).in__Point)), (vI .i64 ((SN.plain s).from_)), (vI .i64 ((SN.plain s).till)), (vI .i64 v)]) ++ ((List.drop k P).flatMap PN.cells) = (putP ord s v P).flatMap PN.cells) (by rw [← hpp_]; first | (simp; done) | (simp; omega) : 0 + (List.length (List.take (k - 0) (List.drop 0 P))) + 1 + (List.length (List.drop k P)) = (List.length (putP ord s v P)))
  have H317_ := ((Holds.bring (Holds.bring H316_ 2 rfl) 2 rfl) :)
  obtain ⟨R318_, hs319_, ⟨R320_, ha321_, hs322_⟩, H323_⟩ := Holds.gift H317_
  have hr324_ : RS R318_ 6 v306_ (List.length (putP ord s v P)) ((putP ord s v P).flatMap PN.cells) := (sl_RS ha321_ (Sub.rfl' _)).mono hs322_
  have H325_ : Holds w312_ (ro R318_ :: cl pb 75 [(vI .i64 ord), v306_] :: F) := (Holds.pkF H323_ [0, 2] 2 :)
  exact ⟨R318_, _, _, rfl, hs319_, ⟨v306_, rfl, rfl, (hr324_)⟩, S315_, H325_⟩

end Go.Proofs.Ytlnihndjepjagaa
set_option linter.unusedVariables false
set_option linter.unusedSimpArgs false
namespace Go.Proofs.Ytlnihndjepjagaa
open Go Go.RowKit Gw
open Go.Value renaming int → vI, bool → vB, slice → vS, pointer → vP, agg → vA, tuple → vT

set_option maxHeartbeats 8000000 in
theorem spDo3 (R : HP) (ord : Int) (pb : Nat) (pv : Value) (P : List PN) (o : TO) (hP : RS R 6 pv (List.length P) (P.flatMap PN.cells)) (hz : PSz P) (hs : o.sn.in__Begin.size ≤ 2147483647) (hn : P.length ≤ 100000) (hk : o.kind = 3) :
    TriG Try.prog 59 #[(vQ pb), (vA #[(vI .i64 o.kind), (Value.string o.in__In_Begin), (Value.string o.in__In_End), (vB o.in__In_Point), (vI .i64 o.in__From), (vI .i64 o.in__Till), (vI .i64 o.val), (vI .i64 o.n), o.other, o.vals])] R [cl pb 75 [(vI .i64 ord), pv]] (fun R' v__ post__ => ∃ (a : TA), v__ = (vA #[(vB a.oK), (vI .i64 a.n), (vI .i64 a.most), a.list, a.vals]) ∧ post__ = [cl pb 75 [(vI .i64 ord), pv]] ∧ (AnsAt R' a (spFindX ord P o.sn))) := by
 refine TriG.into (n := 155) (al := [(vQ pb), (vA #[(vI .i64 o.kind), (Value.string o.in__In_Begin), (Value.string o.in__In_End), (vB o.in__In_Point), (vI .i64 o.in__From), (vI .i64 o.in__Till), (vI .i64 o.val), (vI .i64 o.n), o.other, o.vals])]) Try.func59 rfl Try.ntmps59 rfl rfl fun w F H => ?_
 refine C_seq (fun K1_ hK1_ => C_reg ?_)
 refine S_list (T_box (v := (vA #[(vI .i64 o.kind), (Value.string o.in__In_Begin), (Value.string o.in__In_End), (vB o.in__In_Point), (vI .i64 o.in__From), (vI .i64 o.in__Till), (vI .i64 o.val), (vI .i64 o.n), o.other, o.vals])) rfl H ?_)
 intro b2_ w3_ S5_ H4_
 have S6_ := Same.trans (Same.refl w) S5_
 refine S_list (T_alloc z59 H4_ ?_)
 intro b7_ w8_ S10_ H9_
 have S11_ := Same.trans S6_ S10_
 refine wpList_nil (X_then (hK1_ _ _ ?_))
 clear hK1_
 refine C_seq (fun K12_ hK12_ => C_reg ?_)
 refine sv (v := (vQ pb)) (x_move rfl) ?_
 refine sv (v := (vP (some ⟨b2_, 1, none⟩))) (by kernel_rfl) ?_
 refine sv (v := (vA #[(Value.string o.in__In_Begin), (Value.string o.in__In_End), (vB o.in__In_Point), (vI .i64 o.in__From), (vI .i64 o.in__Till)])) (x_loadN (vs := [(Value.string o.in__In_Begin), (Value.string o.in__In_End), (vB o.in__In_Point), (vI .i64 o.in__From), (vI .i64 o.in__Till)]) rfl Try.underlying44 rfl z44 rfl (Rd.cells (Holds.rd H9_ 1 rfl) 1 rfl)) ?_
 have H20_ := ((Holds.bring (Holds.bring H9_ 3 rfl) 3 rfl) :)
 refine S_list (T_call (al := [(vQ pb), (vA #[(Value.string o.sn.in__Begin), (Value.string o.sn.in__End), (vB o.sn.in__Point), (vI .i64 o.sn.from_), (vI .i64 o.sn.till)])]) (pre := [cl pb 75 [(vI .i64 ord), pv]]) rfl (lcons rfl (lcons (congrArg (fun l => vA (List.toArray l)) (lcons (congrArg Value.string ((by first | rfl | omega | (simp; done) | (simp; omega)) : o.in__In_Begin = o.sn.in__Begin)) (lcons (congrArg Value.string ((by first | rfl | omega | (simp; done) | (simp; omega)) : o.in__In_End = o.sn.in__End)) (lcons (congrArg vB ((by first | rfl | omega | (simp; done) | (simp; omega)) : o.in__In_Point = o.sn.in__Point)) (lcons (congrArg (vI .i64) ((by first | rfl | omega | (simp; done) | (simp; omega)) : o.in__From = o.sn.from_)) (lcons (congrArg (vI .i64) ((by first | rfl | omega | (simp; done) | (simp; omega)) : o.in__Till = o.sn.till)) rfl)))))) rfl)) cb81 (spFind R ord pb pv P o.sn (hP) (hz) (hs) (hn)) H20_ ?_)
 rintro v13_ p24_ w21_ hq25_ S23_ H22_
 rcases hq25_ with ⟨rfl, rfl, he14_⟩ | ⟨k15_, x16_, rfl, rfl, he17_, he18_, he19_⟩
 ·skip
  have S26_ := Same.trans S11_ S23_
  have hX_ : spFindX ord P o.sn = ⟨false, 0, [], []⟩ := spFindX_none he14_
  refine sv (v := (vI .i64 (-1))) (x_assign rfl) ?_
  refine wpList_nil (X_then (hK12_ _ _ ?_))
  clear hK12_
  refine C_seq (fun K28_ hK28_ => ?_)
  refine C_seq (fun K29_ hK29_ => C_reg ?_)
  refine sv (v := (vQ b2_)) (by kernel_rfl) ?_
  refine sv (v := (vI .i64 o.kind)) (x_load1 rfl Try.underlying3 rfl ((Holds.rd H22_ 3 rfl) 0 (vI .i64 o.kind) rfl)) ?_
  refine wpList_nil (X_then (hK29_ _ _ ?_))
  clear hK29_
  refine C_block ?_
  refine C_seq (fun K30_ hK30_ => C_reg ?_)
  refine sv (v := (vB (decide (o.kind = 1)))) (x_bin rfl rfl rfl) ?_
  refine sv (v := (vB (decide (o.kind = 1)))) (x_assign rfl) ?_
  refine wpList_nil (X_then (hK30_ _ _ ?_))
  clear hK30_
  refine C_cond (b := decide (o.kind = 1)) rfl (fun c31_t => ?_) (fun c31_f => ?_)
  ·have c31_tp : o.kind = 1 := of_decide_eq_true c31_t
   omega
  ·have c31_fp : ¬ (o.kind = 1) := of_decide_eq_false c31_f
   refine C_seq (fun K32_ hK32_ => C_reg ?_)
   refine sv (v := (vB (decide (o.kind = 2)))) (x_bin rfl rfl rfl) ?_
   refine sv (v := (vB (decide (o.kind = 2)))) (x_assign rfl) ?_
   refine wpList_nil (X_then (hK32_ _ _ ?_))
   clear hK32_
   refine C_cond (b := decide (o.kind = 2)) rfl (fun c33_t => ?_) (fun c33_f => ?_)
   ·have c33_tp : o.kind = 2 := of_decide_eq_true c33_t
    omega
   ·have c33_fp : ¬ (o.kind = 2) := of_decide_eq_false c33_f
    refine C_seq (fun K34_ hK34_ => C_reg ?_)
    refine sv (v := (vB (decide (o.kind = 3)))) (x_bin rfl rfl rfl) ?_
    refine sv (v := (vB (decide (o.kind = 3)))) (x_assign rfl) ?_
    refine wpList_nil (X_then (hK34_ _ _ ?_))
    clear hK34_
    refine C_cond (b := decide (o.kind = 3)) rfl (fun c35_t => ?_) (fun c35_f => ?_)
    ·have c35_tp : o.kind = 3 := of_decide_eq_true c35_t
     refine C_seq (fun K36_ hK36_ => C_reg ?_)
     refine sv (v := (vI .i64 (-1))) (x_move rfl) ?_
     refine sv (v := (vB false)) (x_bin rfl rfl rfl) ?_
     refine wpList_nil (X_then (hK36_ _ _ ?_))
     clear hK36_
     refine C_condF rfl ?_
     refine C_skip (X_blkN (X_then (hK28_ _ _ ?_)))
     clear hK28_
     refine C_seq (fun K37_ hK37_ => C_reg ?_)
     refine sv (v := (vA #[(vB false), (vI .i64 0), (vI .i64 0), (vS none 0 0), (vS none 0 0)])) (by kernel_rfl) ?_
     refine S_list0 (T_storeN (vs := [(vB false), (vI .i64 0), (vI .i64 0), (vS none 0 0), (vS none 0 0)]) rfl rfl z59 rfl (by simp [Value.oneCell']) H22_ 2 rfl (Nat.le_of_ble_eq_true (by rfl)) ?_)
     intro w38_ S40_ H39_
     have S41_ := Same.trans S26_ S40_
     refine wpList_nil (X_then (hK37_ _ _ ?_))
     clear hK37_
     refine C_ret ?_
     refine R_any (v := (vA #[(vB false), (vI .i64 0), (vI .i64 0), (vS none 0 0), (vS none 0 0)])) (run_results1 rfl ⟨_, rfl, load_resN Try.underlying59 rfl z59 rfl (vs := [(vB false), (vI .i64 0), (vI .i64 0), (vS none 0 0), (vS none 0 0)]) (Holds.cl_cells H39_ 2 rfl 0 rfl)⟩) ?_
     have H42_ : Holds w38_ (ro R :: cl pb 75 [(vI .i64 ord), pv] :: F) := (Holds.pkF H39_ [0, 0] 2 :)
     exact ⟨R, _, _, rfl, (Sub.rfl' _), ⟨(⟨false, 0, 0, (vS none 0 0), (vS none 0 0)⟩ : TA), (congrArg (fun l => vA (List.toArray l)) (lcons (congrArg vB ((by first | rfl | omega | (simp; done) | (simp; omega)) : false = ((⟨false, 0, 0, (vS none 0 0), (vS none 0 0)⟩ : TA).oK))) (lcons (congrArg (vI .i64) ((by first | rfl | omega | (simp; done) | (simp; omega)) : 0 = (⟨false, 0, 0, (vS none 0 0), (vS none 0 0)⟩ : TA).n)) (lcons (congrArg (vI .i64) ((by first | rfl | omega | (simp; done) | (simp; omega)) : 0 = (⟨false, 0, 0, (vS none 0 0), (vS none 0 0)⟩ : TA).most)) (lcons ((by first | rfl | omega | (simp; done) | (simp; omega)) : (vS none 0 0) = ((⟨false, 0, 0, (vS none 0 0), (vS none 0 0)⟩ : TA).list)) (lcons ((by first | rfl | omega | (simp; done) | (simp; omega)) : (vS none 0 0) = ((⟨false, 0, 0, (vS none 0 0), (vS none 0 0)⟩ : TA).vals)) rfl)))))), rfl, (by rw [hX_]; exact ⟨rfl, rfl, RS.nil _ _, RS.nil _ _⟩)⟩, S41_, H42_⟩
    ·have c35_fp : ¬ (o.kind = 3) := of_decide_eq_false c35_f
     omega
 ·skip
  have S27_ := Same.trans S11_ S23_
  have hlt_ := (List.getElem?_eq_some_iff.1 he17_).1
  have hX_ : spFindX ord P o.sn = ⟨true, 0, [x16_.sn], [x16_.val]⟩ := spFindX_some he17_ he18_ he19_
  refine sv (v := (vI .i64 (k15_ : Int))) (x_assign rfl) ?_
  refine wpList_nil (X_then (hK12_ _ _ ?_))
  clear hK12_
  refine C_seq (fun K43_ hK43_ => ?_)
  refine C_seq (fun K44_ hK44_ => C_reg ?_)
  refine sv (v := (vQ b2_)) (by kernel_rfl) ?_
  refine sv (v := (vI .i64 o.kind)) (x_load1 rfl Try.underlying3 rfl ((Holds.rd H22_ 3 rfl) 0 (vI .i64 o.kind) rfl)) ?_
  refine wpList_nil (X_then (hK44_ _ _ ?_))
  clear hK44_
  refine C_block ?_
  refine C_seq (fun K45_ hK45_ => C_reg ?_)
  refine sv (v := (vB (decide (o.kind = 1)))) (x_bin rfl rfl rfl) ?_
  refine sv (v := (vB (decide (o.kind = 1)))) (x_assign rfl) ?_
  refine wpList_nil (X_then (hK45_ _ _ ?_))
  clear hK45_
  refine C_cond (b := decide (o.kind = 1)) rfl (fun c46_t => ?_) (fun c46_f => ?_)
  ·have c46_tp : o.kind = 1 := of_decide_eq_true c46_t
   omega
  ·have c46_fp : ¬ (o.kind = 1) := of_decide_eq_false c46_f
   refine C_seq (fun K47_ hK47_ => C_reg ?_)
   refine sv (v := (vB (decide (o.kind = 2)))) (x_bin rfl rfl rfl) ?_
   refine sv (v := (vB (decide (o.kind = 2)))) (x_assign rfl) ?_
   refine wpList_nil (X_then (hK47_ _ _ ?_))
   clear hK47_
   refine C_cond (b := decide (o.kind = 2)) rfl (fun c48_t => ?_) (fun c48_f => ?_)
   ·have c48_tp : o.kind = 2 := of_decide_eq_true c48_t
    omega
   ·have c48_fp : ¬ (o.kind = 2) := of_decide_eq_false c48_f
    refine C_seq (fun K49_ hK49_ => C_reg ?_)
    refine sv (v := (vB (decide (o.kind = 3)))) (x_bin rfl rfl rfl) ?_
    refine sv (v := (vB (decide (o.kind = 3)))) (x_assign rfl) ?_
    refine wpList_nil (X_then (hK49_ _ _ ?_))
    clear hK49_
    refine C_cond (b := decide (o.kind = 3)) rfl (fun c50_t => ?_) (fun c50_f => ?_)
    ·have c50_tp : o.kind = 3 := of_decide_eq_true c50_t
     refine C_seq (fun K51_ hK51_ => C_reg ?_)
     refine sv (v := (vI .i64 (k15_ : Int))) (x_move rfl) ?_
     refine sv (v := (vB (decide (0 ≤ (k15_ : Int))))) (x_bin rfl rfl rfl) ?_
     refine wpList_nil (X_then (hK51_ _ _ ?_))
     clear hK51_
     refine C_cond (b := decide (0 ≤ (k15_ : Int))) rfl (fun c52_t => ?_) (fun c52_f => ?_)
     ·have c52_tp : 0 ≤ (k15_ : Int) := of_decide_eq_true c52_t
      refine C_seq (fun K53_ hK53_ => ?_)
      refine A_start (S := fun w => Rd pb [(vI .i64 ord), pv] w ∧ Sub R (hp w)) (N := 20) foll rfl rfl ?_
      have H54_ := Holds.drew_ H22_
      have hq55_ := And.intro (Holds.rd H54_ 1 rfl) ((Holds.ro_at H54_ 0 rfl))
      refine A_tk 0 (v := (vQ pb)) rfl (by kernel_rfl) (fun w hS => x_move rfl) hq55_ ?_
      refine A_tk 1 (v := (vQ pb)) rfl (by kernel_rfl) (fun w hS => by kernel_rfl) hq55_ ?_
      refine A_tk 2 (v := (vP (some ⟨pb, 1, none⟩))) rfl (by kernel_rfl) (fun w hS => by kernel_rfl) hq55_ ?_
      refine A_tk 3 (v := pv) rfl (by kernel_rfl) (fun w hS => x_load1 rfl Try.underlying73 rfl (hS.1 1 pv rfl)) hq55_ ?_
      refine A_tk 4 (v := (vI .i64 (k15_ : Int))) rfl (by kernel_rfl) (fun w hS => x_move rfl) hq55_ ?_
      refine A_tk 5 (v := (vP (some ⟨(sb pv), so pv + (k15_ * 6 + 0), none⟩))) rfl (by kernel_rfl) (fun w hS => x_idxRS (v := pv) rfl hP rfl Try.underlying73 z131 (by omega) (by omega) (by omega : _ = k15_) rfl) hq55_ ?_
      refine A_tk 6 (v := (vP (some ⟨(sb pv), so pv + (k15_ * 6 + 0), none⟩))) rfl (by kernel_rfl) (fun w hS => by kernel_rfl) hq55_ ?_
      refine A_tk 7 (v := (vA #[(Value.string x16_.in__In_Begin), (Value.string x16_.in__In_End), (vB x16_.in__In_Point), (vI .i64 x16_.in__From), (vI .i64 x16_.in__Till)])) rfl (by kernel_rfl) (fun w hS => x_loadN (vs := [(Value.string x16_.in__In_Begin), (Value.string x16_.in__In_End), (vB x16_.in__In_Point), (vI .i64 x16_.in__From), (vI .i64 x16_.in__Till)]) rfl Try.underlying44 rfl z44 rfl (RC.cells (RS.rc hP) hS.2 (k15_ * 6 + 0) (fm_cells PN.len he17_ (i := 0) rfl))) hq55_ ?_
      refine A_tk 9 (v := (vQ pb)) rfl (by kernel_rfl) (fun w hS => x_move rfl) hq55_ ?_
      refine A_tk 10 (v := (vQ pb)) rfl (by kernel_rfl) (fun w hS => by kernel_rfl) hq55_ ?_
      refine A_tk 11 (v := (vP (some ⟨pb, 1, none⟩))) rfl (by kernel_rfl) (fun w hS => by kernel_rfl) hq55_ ?_
      refine A_tk 12 (v := pv) rfl (by kernel_rfl) (fun w hS => x_load1 rfl Try.underlying73 rfl (hS.1 1 pv rfl)) hq55_ ?_
      refine A_tk 13 (v := (vI .i64 (k15_ : Int))) rfl (by kernel_rfl) (fun w hS => x_move rfl) hq55_ ?_
      refine A_tk 14 (v := (vP (some ⟨(sb pv), so pv + (k15_ * 6 + 0), none⟩))) rfl (by kernel_rfl) (fun w hS => x_idxRS (v := pv) rfl hP rfl Try.underlying73 z131 (by omega) (by omega) (by omega : _ = k15_) rfl) hq55_ ?_
      refine A_tk 15 (v := (vP (some ⟨(sb pv), so pv + (k15_ * 6 + 5), none⟩))) rfl (by kernel_rfl) (fun w hS => by kernel_rfl) hq55_ ?_
      refine A_tk 16 (v := (vI .i64 x16_.val)) rfl (by kernel_rfl) (fun w hS => x_load1 rfl Try.underlying3 rfl (RC.cell (RS.rc hP) hS.2 (j := k15_ * 6 + 5) (u := (vI .i64 x16_.val)) (fm_cell PN.len he17_ (i := 5) rfl))) hq55_ ?_
      refine A_ready (i := 8) (rs := [17]) (by kernel_rfl) ?_
      refine AllR.cons ?_ ?_
      ·skip
       refine A_op (ls' := #[true, true, true, true, true, true, true, true, true, true, true, true, true, true, true, true, true, false, false, false]) rfl (by kernel_rfl) (T_new (obj := .cells #[(Value.string x16_.in__In_Begin), (Value.string x16_.in__In_End), (vB x16_.in__In_Point), (vI .i64 x16_.in__From), (vI .i64 x16_.in__Till)] 44) (f := fun b__ => .slice (some ⟨b__, 0, none⟩) 1 1) (A := fun b__ => cl b__ 44 [(Value.string x16_.in__In_Begin), (Value.string x16_.in__In_End), (vB x16_.in__In_Point), (vI .i64 x16_.in__From), (vI .i64 x16_.in__Till)]) (by kernel_rfl) (fun l h => h.alloc _ _) H54_ ?_)
       intro b59_ w60_ S62_ H61_
       have S63_ := Same.trans (Same.trans S27_ (Same.drew _)) S62_
       refine ⟨⟨Holds.rd H61_ 2 rfl, (Holds.ro_at H61_ 1 rfl)⟩, ?_⟩
       refine A_ready (i := 17) (rs := []) (by kernel_rfl) ?_
       refine AllR.cons ?_ AllR.nil
       refine A_op (ls' := #[true, true, true, true, true, true, true, true, true, true, true, true, true, true, true, true, true, true, false, false]) rfl (by kernel_rfl) (T_new (obj := .cells #[(vI .i64 x16_.val)] 3) (f := fun b__ => .slice (some ⟨b__, 0, none⟩) 1 1) (A := fun b__ => cl b__ 3 [(vI .i64 x16_.val)]) (by kernel_rfl) (fun l h => h.alloc _ _) H61_ ?_)
       intro b64_ w65_ S67_ H66_
       have S68_ := Same.trans S63_ S67_
       refine ⟨⟨Holds.rd H66_ 3 rfl, (Holds.ro_at H66_ 2 rfl)⟩, ?_⟩
       have hq69_ := And.intro (Holds.rd H66_ 3 rfl) ((Holds.ro_at H66_ 2 rfl))
       refine A_tk 18 (v := (vA #[(vB true), (vI .i64 0), (vI .i64 0), (vS (some ⟨b59_, 0, none⟩) 1 1), (vS (some ⟨b64_, 0, none⟩) 1 1)])) rfl (by kernel_rfl) (fun w hS => by kernel_rfl) hq69_ ?_
       refine A_ready (i := 19) (rs := []) (by kernel_rfl) ?_
       refine AllR.cons ?_ AllR.nil
       refine A_op0 (ls' := #[true, true, true, true, true, true, true, true, true, true, true, true, true, true, true, true, true, true, true, true]) rfl (by kernel_rfl) (T_storeN (vs := [(vB true), (vI .i64 0), (vI .i64 0), (vS (some ⟨b59_, 0, none⟩) 1 1), (vS (some ⟨b64_, 0, none⟩) 1 1)]) rfl rfl z59 rfl (by simp [Value.oneCell']) H66_ 4 rfl (Nat.le_of_ble_eq_true (by rfl)) ?_)
       intro w70_ S72_ H71_
       have S73_ := Same.trans S68_ S72_
       refine ⟨⟨Holds.rd H71_ 3 rfl, (Holds.ro_at H71_ 2 rfl)⟩, ?_⟩
       refine A_done (by kernel_rfl) ?_
       refine (X_then (hK53_ _ _ ?_))
       clear hK53_
       refine C_ret (X_blkR (X_thenR ?_))
       refine R_any (v := (vA #[(vB true), (vI .i64 0), (vI .i64 0), (vS (some ⟨b59_, 0, none⟩) 1 1), (vS (some ⟨b64_, 0, none⟩) 1 1)])) (run_results1 rfl ⟨_, rfl, load_resN Try.underlying59 rfl z59 rfl (vs := [(vB true), (vI .i64 0), (vI .i64 0), (vS (some ⟨b59_, 0, none⟩) 1 1), (vS (some ⟨b64_, 0, none⟩) 1 1)]) (Holds.cl_cells H71_ 4 rfl 0 rfl)⟩) ?_
       have H74_ := ((Holds.bring (Holds.bring H71_ 1 rfl) 2 rfl) :)
       obtain ⟨R75_, hs76_, ⟨R77_, ha78_, hs79_⟩, H80_⟩ := Holds.gift H74_
       have hr81_ : RS R75_ 5 (vS (some ⟨b59_, 0, none⟩) 1 1) 1 ([x16_.sn].flatMap SN.cells) := (RS.set_ (cl_RSn (sz := 5) ha78_ (Sub.rfl' _) (by rfl) (by omega)) rfl rfl).mono hs79_
       obtain ⟨R82_, hs83_, ⟨R84_, ha85_, hs86_⟩, H87_⟩ := Holds.gift H80_
       have hz_R_R82_ := Sub.trans' hs76_ hs83_
       have hr88_ : RS R82_ 1 (vS (some ⟨b64_, 0, none⟩) 1 1) 1 ([x16_.val].map (vI .i64)) := (RS.set_ (cl_RSn (sz := 1) ha85_ (Sub.rfl' _) (by rfl) (by omega)) rfl rfl).mono hs86_
       have H89_ : Holds w70_ (ro R82_ :: cl pb 75 [(vI .i64 ord), pv] :: F) := (Holds.pkF H87_ [0, 0] 2 :)
       exact ⟨R82_, _, _, rfl, hz_R_R82_, ⟨(⟨true, 0, 0, (vS (some ⟨b59_, 0, none⟩) 1 1), (vS (some ⟨b64_, 0, none⟩) 1 1)⟩ : TA), (congrArg (fun l => vA (List.toArray l)) (lcons (congrArg vB ((by first | rfl | omega | (simp; done) | (simp; omega)) : true = ((⟨true, 0, 0, (vS (some ⟨b59_, 0, none⟩) 1 1), (vS (some ⟨b64_, 0, none⟩) 1 1)⟩ : TA).oK))) (lcons (congrArg (vI .i64) ((by first | rfl | omega | (simp; done) | (simp; omega)) : 0 = (⟨true, 0, 0, (vS (some ⟨b59_, 0, none⟩) 1 1), (vS (some ⟨b64_, 0, none⟩) 1 1)⟩ : TA).n)) (lcons (congrArg (vI .i64) ((by first | rfl | omega | (simp; done) | (simp; omega)) : 0 = (⟨true, 0, 0, (vS (some ⟨b59_, 0, none⟩) 1 1), (vS (some ⟨b64_, 0, none⟩) 1 1)⟩ : TA).most)) (lcons ((by first | rfl | omega | (simp; done) | (simp; omega)) : (vS (some ⟨b59_, 0, none⟩) 1 1) = ((⟨true, 0, 0, (vS (some ⟨b59_, 0, none⟩) 1 1), (vS (some ⟨b64_, 0, none⟩) 1 1)⟩ : TA).list)) (lcons ((by first | rfl | omega | (simp; done) | (simp; omega)) : (vS (some ⟨b64_, 0, none⟩) 1 1) = ((⟨true, 0, 0, (vS (some ⟨b59_, 0, none⟩) 1 1), (vS (some ⟨b64_, 0, none⟩) 1 1)⟩ : TA).vals)) rfl)))))), rfl, (by rw [hX_]; exact ⟨rfl, rfl, (RS.mono hr81_ hs83_), hr88_⟩)⟩, S73_, H89_⟩
      refine AllR.cons ?_ AllR.nil
      refine A_op (ls' := #[true, true, true, true, true, true, true, true, false, true, true, true, true, true, true, true, true, true, false, false]) rfl (by kernel_rfl) (T_new (obj := .cells #[(vI .i64 x16_.val)] 3) (f := fun b__ => .slice (some ⟨b__, 0, none⟩) 1 1) (A := fun b__ => cl b__ 3 [(vI .i64 x16_.val)]) (by kernel_rfl) (fun l h => h.alloc _ _) H54_ ?_)
      intro b90_ w91_ S93_ H92_
      have S94_ := Same.trans (Same.trans S27_ (Same.drew _)) S93_
      refine ⟨⟨Holds.rd H92_ 2 rfl, (Holds.ro_at H92_ 1 rfl)⟩, ?_⟩
      refine A_ready (i := 8) (rs := []) (by kernel_rfl) ?_
      refine AllR.cons ?_ AllR.nil
      refine A_op (ls' := #[true, true, true, true, true, true, true, true, true, true, true, true, true, true, true, true, true, true, false, false]) rfl (by kernel_rfl) (T_new (obj := .cells #[(Value.string x16_.in__In_Begin), (Value.string x16_.in__In_End), (vB x16_.in__In_Point), (vI .i64 x16_.in__From), (vI .i64 x16_.in__Till)] 44) (f := fun b__ => .slice (some ⟨b__, 0, none⟩) 1 1) (A := fun b__ => cl b__ 44 [(Value.string x16_.in__In_Begin), (Value.string x16_.in__In_End), (vB x16_.in__In_Point), (vI .i64 x16_.in__From), (vI .i64 x16_.in__Till)]) (by kernel_rfl) (fun l h => h.alloc _ _) H92_ ?_)
      intro b95_ w96_ S98_ H97_
      have S99_ := Same.trans S94_ S98_
      refine ⟨⟨Holds.rd H97_ 3 rfl, (Holds.ro_at H97_ 2 rfl)⟩, ?_⟩
      have hq100_ := And.intro (Holds.rd H97_ 3 rfl) ((Holds.ro_at H97_ 2 rfl))
      refine A_tk 18 (v := (vA #[(vB true), (vI .i64 0), (vI .i64 0), (vS (some ⟨b95_, 0, none⟩) 1 1), (vS (some ⟨b90_, 0, none⟩) 1 1)])) rfl (by kernel_rfl) (fun w hS => by kernel_rfl) hq100_ ?_
      refine A_ready (i := 19) (rs := []) (by kernel_rfl) ?_
      refine AllR.cons ?_ AllR.nil
      refine A_op0 (ls' := #[true, true, true, true, true, true, true, true, true, true, true, true, true, true, true, true, true, true, true, true]) rfl (by kernel_rfl) (T_storeN (vs := [(vB true), (vI .i64 0), (vI .i64 0), (vS (some ⟨b95_, 0, none⟩) 1 1), (vS (some ⟨b90_, 0, none⟩) 1 1)]) rfl rfl z59 rfl (by simp [Value.oneCell']) H97_ 4 rfl (Nat.le_of_ble_eq_true (by rfl)) ?_)
      intro w101_ S103_ H102_
      have S104_ := Same.trans S99_ S103_
      refine ⟨⟨Holds.rd H102_ 3 rfl, (Holds.ro_at H102_ 2 rfl)⟩, ?_⟩
      refine A_done (by kernel_rfl) ?_
      refine (X_then (hK53_ _ _ ?_))
      clear hK53_
      refine C_ret (X_blkR (X_thenR ?_))
      refine R_any (v := (vA #[(vB true), (vI .i64 0), (vI .i64 0), (vS (some ⟨b95_, 0, none⟩) 1 1), (vS (some ⟨b90_, 0, none⟩) 1 1)])) (run_results1 rfl ⟨_, rfl, load_resN Try.underlying59 rfl z59 rfl (vs := [(vB true), (vI .i64 0), (vI .i64 0), (vS (some ⟨b95_, 0, none⟩) 1 1), (vS (some ⟨b90_, 0, none⟩) 1 1)]) (Holds.cl_cells H102_ 4 rfl 0 rfl)⟩) ?_
      have H105_ := ((Holds.bring H102_ 2 rfl) :)
      obtain ⟨R106_, hs107_, ⟨R108_, ha109_, hs110_⟩, H111_⟩ := Holds.gift H105_
      have hr112_ : RS R106_ 5 (vS (some ⟨b95_, 0, none⟩) 1 1) 1 ([x16_.sn].flatMap SN.cells) := (RS.set_ (cl_RSn (sz := 5) ha109_ (Sub.rfl' _) (by rfl) (by omega)) rfl rfl).mono hs110_
      obtain ⟨R113_, hs114_, ⟨R115_, ha116_, hs117_⟩, H118_⟩ := Holds.gift H111_
      have hz_R_R113_ := Sub.trans' hs107_ hs114_
      have hr119_ : RS R113_ 1 (vS (some ⟨b90_, 0, none⟩) 1 1) 1 ([x16_.val].map (vI .i64)) := (RS.set_ (cl_RSn (sz := 1) ha116_ (Sub.rfl' _) (by rfl) (by omega)) rfl rfl).mono hs117_
      have H120_ : Holds w101_ (ro R113_ :: cl pb 75 [(vI .i64 ord), pv] :: F) := (Holds.pkF H118_ [0, 0] 2 :)
      exact ⟨R113_, _, _, rfl, hz_R_R113_, ⟨(⟨true, 0, 0, (vS (some ⟨b95_, 0, none⟩) 1 1), (vS (some ⟨b90_, 0, none⟩) 1 1)⟩ : TA), (congrArg (fun l => vA (List.toArray l)) (lcons (congrArg vB ((by first | rfl | omega | (simp; done) | (simp; omega)) : true = ((⟨true, 0, 0, (vS (some ⟨b95_, 0, none⟩) 1 1), (vS (some ⟨b90_, 0, none⟩) 1 1)⟩ : TA).oK))) (lcons (congrArg (vI .i64) ((by first | rfl | omega | (simp; done) | (simp; omega)) : 0 = (⟨true, 0, 0, (vS (some ⟨b95_, 0, none⟩) 1 1), (vS (some ⟨b90_, 0, none⟩) 1 1)⟩ : TA).n)) (lcons (congrArg (vI .i64) ((by first | rfl | omega | (simp; done) | (simp; omega)) : 0 = (⟨true, 0, 0, (vS (some ⟨b95_, 0, none⟩) 1 1), (vS (some ⟨b90_, 0, none⟩) 1 1)⟩ : TA).most)) (lcons ((by first | rfl | omega | (simp; done) | (simp; omega)) : (vS (some ⟨b95_, 0, none⟩) 1 1) = ((⟨true, 0, 0, (vS (some ⟨b95_, 0, none⟩) 1 1), (vS (some ⟨b90_, 0, none⟩) 1 1)⟩ : TA).list)) (lcons ((by first | rfl | omega | (simp; done) | (simp; omega)) : (vS (some ⟨b90_, 0, none⟩) 1 1) = ((⟨true, 0, 0, (vS (some ⟨b95_, 0, none⟩) 1 1), (vS (some ⟨b90_, 0, none⟩) 1 1)⟩ : TA).vals)) rfl)))))), rfl, (by rw [hX_]; exact ⟨rfl, rfl, (RS.mono hr112_ hs114_), hr119_⟩)⟩, S104_, H120_⟩
     ·have c52_fp : ¬ (0 ≤ (k15_ : Int)) := of_decide_eq_false c52_f
      omega
    ·have c50_fp : ¬ (o.kind = 3) := of_decide_eq_false c50_f
     omega
end Go.Proofs.Ytlnihndjepjagaa
set_option linter.unusedVariables false
set_option linter.unusedSimpArgs false
namespace Go.Proofs.Ytlnihndjepjagaa
open Go Go.RowKit Gw
open Go.Value renaming int → vI, bool → vB, slice → vS, pointer → vP, agg → vA, tuple → vT

def spanB (ord : Int) (s : SN) : Bool := sProper ord s && (decide (ord ≠ 3) || ((!s.in__Point && decide (-2305843009213693952 ≤ s.from_)) && decide (s.till ≤ 2305843009213693952)))
theorem spanB_prp {ord : Int} {s : SN} (h : spanB ord s = true) : ecm ord (s.lo ord) (s.hi ord) < 0 := by
  unfold spanB sProper at h
  rw [Bool.and_eq_true, decide_eq_true_eq] at h
  exact h.1
theorem spanB_ok {ord : Int} {s : SN} (h : spanB ord s = true) (ho : 0 ≤ ord ∧ ord ≤ 3) (hb : s.in__Begin.size ≤ 2147483647) (he : s.in__End.size ≤ 2147483647) : SnOk ord s := by
  have hp := spanB_prp h
  refine ⟨ho, hb, he, fun h3 => ?_⟩
  subst h3
  rw [lo_num, hi_num] at hp
  have hlt : s.from_ < s.till := by
    simp only [ecm] at hp
    split at hp
    · assumption
    · split at hp <;> omega
  unfold spanB at h
  simp at h
  obtain ⟨_, ⟨h1, h2⟩, h3⟩ := h
  exact ⟨h1, h2, by omega, by omega, h3⟩
/-- Sizes. -/
def SSz (s : SN) : Prop := s.in__Begin.size ≤ 2147483647 ∧ s.in__End.size ≤ 2147483647
/-- What is put in, as operations and as pieces. -/
structure Fil (ord : Int) (O : List TX) (P : List PN) : Prop where
  t : tdoAll ord O = P.map (PN.ie ord)
  len : O.length = P.length
  o : ∀ x ∈ O, x.q.kind = 1 ∧ spanB ord x.q.sn = true ∧ SSz x.q.sn
  u : UniqK (P.map (PN.ie ord))
  p : PrpK ord (P.map (PN.ie ord))
  z : PSz P
theorem Fil.nil (ord : Int) : Fil ord [] [] := ⟨rfl, rfl, (fun x h => by cases h), (fun e h => by cases h), (fun e h => by cases h), (fun x h => by cases h)⟩
theorem spFindX_ok {ord : Int} {P : List PN} {s : SN} (h : (spFindX ord P s).ok = false) : ∀ x ∈ P, sSame ord x.sn s = false := by
  unfold spFindX at h
  intro x hx
  cases hf : P.find? (fun x => sSame ord x.sn s) with
  | none =>
    have := List.find?_eq_none.1 hf x hx
    simpa using this
  | some y => rw [hf] at h; cases h
def insOp (s : SN) (v : Int) : TX := ⟨⟨1, s.in__Begin, s.in__End, s.in__Point, s.from_, s.till, v, 0, .slice none 0 0, .slice none 0 0⟩, [], []⟩
theorem Fil.snoc {ord : Int} {O : List TX} {P : List PN} {s : SN} {v : Int} (h : Fil ord O P) (hb : spanB ord s = true) (hz : SSz s) (hno : ∀ x ∈ P, sSame ord x.sn s = false) : Fil ord (O ++ [insOp s v]) (putP ord s v P) := by
  have hM : (putP ord s v P).map (PN.ie ord) = insK ord ⟨s.lo ord, s.hi ord, v⟩ (P.map (PN.ie ord)) := putP_ie P
  have hnew : ∀ e ∈ P.map (PN.ie ord), ¬ (e.lo = s.lo ord ∧ e.hi = s.hi ord) := by
    intro e he hk
    obtain ⟨x, hx, rfl⟩ := List.mem_map.1 he
    have h1 := hno x hx
    have h2 : sSame ord x.sn s = true := sSame_iff.2 hk
    rw [h1] at h2
    cases h2
  refine ⟨?_, ?_, ?_, ?_, ?_, ?_⟩
  · rw [hM]
    unfold tdoAll
    rw [List.foldl_append]
    show tdoM ord (tdoAll ord O) (insOp s v) = _
    rw [h.t]
    rfl
  · have := congrArg List.length hM
    rw [List.length_map, insK_len, List.length_map] at this
    rw [List.length_append, h.len, this]; rfl
  · intro x hx
    rcases List.mem_append.1 hx with hx | hx
    · exact h.o x hx
    · rw [List.mem_singleton.1 hx]
      exact ⟨rfl, hb, hz⟩
  · rw [hM]
    intro e he e' he' h1 h2
    rw [insK_mem] at he he'
    rcases he with rfl | he <;> rcases he' with rfl | he'
    · rfl
    · exact absurd ⟨h1.symm, h2.symm⟩ (hnew e' he')
    · exact absurd ⟨h1, h2⟩ (hnew e he)
    · exact h.u e he e' he' h1 h2
  · rw [hM]
    intro e he
    rw [insK_mem] at he
    rcases he with rfl | he
    · exact spanB_prp hb
    · exact h.p e he
  · intro x hx
    rw [putP_mem] at hx
    rcases hx with rfl | hx
    · show s.plain.in__Begin.size ≤ _
      unfold SN.plain
      split
      · exact hz.1
      · exact hz.1
    · exact h.z x hx
theorem tdo_len {ord : Int} : ∀ (l : List TX) (M : List IE), (∀ x ∈ l, x.q.kind = 1) → (l.foldl (tdoM ord) M).length = M.length + l.length
  | [], M, _ => rfl
  | x :: l, M, h => by
    show (l.foldl (tdoM ord) (tdoM ord M x)).length = _
    rw [tdo_len l _ (fun y hy => h y (by simp [hy]))]
    unfold tdoM
    rw [if_pos (h x (by simp)), insK_len, List.length_cons]; omega
/-- All of them may be played. -/
theorem Fil.op {ord : Int} {R : HP} {O : List TX} {P : List PN} (h : Fil ord O P) (ho : 0 ≤ ord ∧ ord ≤ 3) (hl : O.length ≤ 100000) : ∀ k x, O[k]? = some x → OpOk ord R (tdoAll ord (O.take k)) x := by
  intro k x hx
  have hm := List.mem_of_getElem? hx
  obtain ⟨h1, h2, h3⟩ := h.o x hm
  have hlen : (tdoAll ord (O.take k)).length ≤ 10000000 := by
    unfold tdoAll
    rw [tdo_len _ _ (fun y hy => (h.o y (List.mem_of_mem_take hy)).1), List.length_take]
    simp
    omega
  exact ⟨.inl h1, spanB_ok h2 ho h3.1 h3.2, hlen, fun e => by omega, fun e => by omega, fun e => by omega⟩


set_option maxHeartbeats 1600000 in
theorem lwSpan (R : HP) (ord : Int) (s : SN) (hs : s.in__Begin.size ≤ 2147483647) :
    Tri Try.prog 60 #[(vI .i64 ord), (vA #[(Value.string s.in__Begin), (Value.string s.in__End), (vB s.in__Point), (vI .i64 s.from_), (vI .i64 s.till)])] R [] (fun v__ post__ => v__ = (vB (spanB ord s)) ∧ post__ = []) := by
 refine Tri.into (n := 28) (al := [(vI .i64 ord), (vA #[(Value.string s.in__Begin), (Value.string s.in__End), (vB s.in__Point), (vI .i64 s.from_), (vI .i64 s.till)])]) Try.func60 rfl Try.ntmps60 rfl rfl fun w F H => ?_
 refine C_seq (fun K1_ hK1_ => C_reg ?_)
 refine S_list (T_box (v := (vA #[(Value.string s.in__Begin), (Value.string s.in__End), (vB s.in__Point), (vI .i64 s.from_), (vI .i64 s.till)])) rfl H ?_)
 intro b2_ w3_ S5_ H4_
 have S6_ := Same.trans (Same.refl w) S5_
 refine sv (v := (vB false)) (x_assign rfl) ?_
 refine wpList_nil (X_then (hK1_ _ _ ?_))
 clear hK1_
 refine C_seq (fun K7_ hK7_ => C_reg ?_)
 refine sv (v := (vI .i64 ord)) (x_move rfl) ?_
 refine sv (v := (vA #[(Value.string s.in__Begin), (Value.string s.in__End), (vB s.in__Point), (vI .i64 s.from_), (vI .i64 s.till)])) (x_loadN (vs := [(Value.string s.in__Begin), (Value.string s.in__End), (vB s.in__Point), (vI .i64 s.from_), (vI .i64 s.till)]) rfl Try.underlying44 rfl z44 rfl (Rd.cells (Holds.rd H4_ 0 rfl) 0 rfl)) ?_
 have H9_ := ((Holds.bring H4_ 1 rfl) :)
 refine S_list (T_call (al := [(vI .i64 ord), (vA #[(Value.string s.in__Begin), (Value.string s.in__End), (vB s.in__Point), (vI .i64 s.from_), (vI .i64 s.till)])]) (pre := []) rfl rfl cb84 (spProper R ord s (by first | assumption | omega)) H9_ ?_)
 rintro v8_ p13_ w10_ ⟨rfl, rfl⟩ S12_ H11_
 have S14_ := Same.trans S6_ S12_
 refine sv (v := (vB (sProper ord s))) (x_move rfl) ?_
 rcases Bool.eq_false_or_eq_true (sProper ord s) with c15_t | c15_f
 ·skip
  refine S_yes (j := 3) (dj := 8) (b := true) rfl rfl (congrArg vB c15_t) (T_val (v := (vI .i64 ord)) (x_move rfl) ?_)
  refine S_yes (j := 3) (dj := 8) (b := true) rfl rfl (congrArg vB c15_t) (T_val (v := (vB (decide (ord ≠ 3)))) (x_bin rfl rfl rfl) ?_)
  refine S_yes (j := 3) (dj := 8) (b := true) rfl rfl (congrArg vB c15_t) (T_val (v := (vB (decide (ord ≠ 3)))) (x_move rfl) ?_)
  rcases Bool.eq_false_or_eq_true (decide (ord ≠ 3)) with c16_t | c16_f
  ·have c16_tp : ord ≠ 3 := of_decide_eq_true c16_t
   refine S_no (j := 6) (dj := 11) (b := true) rfl rfl (congrArg vB c16_t) (by decide) ?_
   refine S_no (j := 6) (dj := 11) (b := true) rfl rfl (congrArg vB c16_t) (by decide) ?_
   refine S_no (j := 6) (dj := 11) (b := true) rfl rfl (congrArg vB c16_t) (by decide) ?_
   refine S_no (j := 6) (dj := 11) (b := true) rfl rfl (congrArg vB c16_t) (by decide) ?_
   refine S_no (j := 6) (dj := 11) (b := true) rfl rfl (congrArg vB c16_t) (by decide) ?_
   refine S_noU (j := 11) (dj := 16) rfl rfl rfl ?_
   refine S_noU (j := 11) (dj := 16) rfl rfl rfl ?_
   refine S_noU (j := 11) (dj := 16) rfl rfl rfl ?_
   refine S_no (j := 6) (dj := 11) (b := true) rfl rfl (congrArg vB c16_t) (by decide) ?_
   refine S_no (j := 6) (dj := 11) (b := true) rfl rfl (congrArg vB c16_t) (by decide) ?_
   refine S_noU (j := 16) (dj := 21) rfl rfl rfl ?_
   refine S_noU (j := 16) (dj := 21) rfl rfl rfl ?_
   refine S_noU (j := 16) (dj := 21) rfl rfl rfl ?_
   refine S_no (j := 6) (dj := 11) (b := true) rfl rfl (congrArg vB c16_t) (by decide) ?_
   refine S_yes (j := 3) (dj := 8) (b := true) rfl rfl (congrArg vB c15_t) (T_pickT (v := (vB true)) (congrArg vB c16_t) rfl ?_)
   refine S_list (T_pickT (v := (vB true)) (congrArg vB c15_t) rfl ?_)
   refine sv (v := (vB true)) (x_assign rfl) ?_
   refine wpList_nil (X_then (hK7_ _ _ ?_))
   clear hK7_
   refine C_ret ?_
   refine R_any (v := (vB true)) (run_results1 rfl rfl) ?_
   have H17_ : Holds w10_ (ro R :: F) := (Holds.pkF H11_ [0] 1 :)
   exact ⟨_, _, rfl, ⟨(congrArg vB ((by unfold spanB; simp [c15_t, c16_t]) : true = (spanB ord s))), rfl⟩, S14_, H17_⟩
  ·have c16_fp : ¬ (ord ≠ 3) := of_decide_eq_false c16_f
   refine S_yes (j := 6) (dj := 11) (b := false) rfl rfl (congrArg vB c16_f) (T_val (v := (vQ b2_)) (by kernel_rfl) ?_)
   refine S_yes (j := 6) (dj := 11) (b := false) rfl rfl (congrArg vB c16_f) (T_val (v := (vP (some ⟨b2_, 2, none⟩))) (by kernel_rfl) ?_)
   refine S_yes (j := 6) (dj := 11) (b := false) rfl rfl (congrArg vB c16_f) (T_val (v := (vB s.in__Point)) (x_load1 rfl Try.underlying4 rfl ((Holds.rd H11_ 1 rfl) 2 (vB s.in__Point) rfl)) ?_)
   refine S_yes (j := 6) (dj := 11) (b := false) rfl rfl (congrArg vB c16_f) (T_val (v := (vB (!s.in__Point))) (x_not rfl) ?_)
   refine S_yes (j := 6) (dj := 11) (b := false) rfl rfl (congrArg vB c16_f) (T_val (v := (vB (!s.in__Point))) (x_move rfl) ?_)
   rcases Bool.eq_false_or_eq_true (!s.in__Point) with c18_t | c18_f
   ·skip
    refine S_yes (j := 11) (dj := 16) (b := true) rfl rfl (congrArg vB c18_t) (T_val (v := (vP (some ⟨b2_, 3, none⟩))) (by kernel_rfl) ?_)
    refine S_yes (j := 11) (dj := 16) (b := true) rfl rfl (congrArg vB c18_t) (T_val (v := (vI .i64 s.from_)) (x_load1 rfl Try.underlying2 rfl ((Holds.rd H11_ 1 rfl) 3 (vI .i64 s.from_) rfl)) ?_)
    refine S_yes (j := 11) (dj := 16) (b := true) rfl rfl (congrArg vB c18_t) (T_val (v := (vB (decide (-2305843009213693952 ≤ s.from_)))) (x_bin rfl rfl rfl) ?_)
    refine S_yes (j := 6) (dj := 11) (b := false) rfl rfl (congrArg vB c16_f) (T_pickT (v := (vB (decide (-2305843009213693952 ≤ s.from_)))) (congrArg vB c18_t) rfl ?_)
    refine S_yes (j := 6) (dj := 11) (b := false) rfl rfl (congrArg vB c16_f) (T_val (v := (vB (decide (-2305843009213693952 ≤ s.from_)))) (x_move rfl) ?_)
    rcases Bool.eq_false_or_eq_true (decide (-2305843009213693952 ≤ s.from_)) with c19_t | c19_f
    ·have c19_tp : -2305843009213693952 ≤ s.from_ := of_decide_eq_true c19_t
     refine S_yes (j := 16) (dj := 21) (b := true) rfl rfl (congrArg vB c19_t) (T_val (v := (vP (some ⟨b2_, 4, none⟩))) (by kernel_rfl) ?_)
     refine S_yes (j := 16) (dj := 21) (b := true) rfl rfl (congrArg vB c19_t) (T_val (v := (vI .i64 s.till)) (x_load1 rfl Try.underlying2 rfl ((Holds.rd H11_ 1 rfl) 4 (vI .i64 s.till) rfl)) ?_)
     refine S_yes (j := 16) (dj := 21) (b := true) rfl rfl (congrArg vB c19_t) (T_val (v := (vB (decide (s.till ≤ 2305843009213693952)))) (x_bin rfl rfl rfl) ?_)
     refine S_yes (j := 6) (dj := 11) (b := false) rfl rfl (congrArg vB c16_f) (T_pickT (v := (vB (decide (s.till ≤ 2305843009213693952)))) (congrArg vB c19_t) rfl ?_)
     refine S_yes (j := 3) (dj := 8) (b := true) rfl rfl (congrArg vB c15_t) (T_pickF (v := (vB (decide (s.till ≤ 2305843009213693952)))) (congrArg vB c16_f) rfl ?_)
     refine S_list (T_pickT (v := (vB (decide (s.till ≤ 2305843009213693952)))) (congrArg vB c15_t) rfl ?_)
     refine sv (v := (vB (decide (s.till ≤ 2305843009213693952)))) (x_assign rfl) ?_
     refine wpList_nil (X_then (hK7_ _ _ ?_))
     clear hK7_
     refine C_ret ?_
     refine R_any (v := (vB (decide (s.till ≤ 2305843009213693952)))) (run_results1 rfl rfl) ?_
     have H20_ : Holds w10_ (ro R :: F) := (Holds.pkF H11_ [0] 1 :)
     exact ⟨_, _, rfl, ⟨(congrArg vB ((by unfold spanB; simp [c15_t, c16_f, c18_t, c19_t]) : (decide (s.till ≤ 2305843009213693952)) = (spanB ord s))), rfl⟩, S14_, H20_⟩
    ·have c19_fp : ¬ (-2305843009213693952 ≤ s.from_) := of_decide_eq_false c19_f
     refine S_no (j := 16) (dj := 21) (b := false) rfl rfl (congrArg vB c19_f) (by decide) ?_
     refine S_no (j := 16) (dj := 21) (b := false) rfl rfl (congrArg vB c19_f) (by decide) ?_
     refine S_no (j := 16) (dj := 21) (b := false) rfl rfl (congrArg vB c19_f) (by decide) ?_
     refine S_yes (j := 6) (dj := 11) (b := false) rfl rfl (congrArg vB c16_f) (T_pickF (v := (vB false)) (congrArg vB c19_f) rfl ?_)
     refine S_yes (j := 3) (dj := 8) (b := true) rfl rfl (congrArg vB c15_t) (T_pickF (v := (vB false)) (congrArg vB c16_f) rfl ?_)
     refine S_list (T_pickT (v := (vB false)) (congrArg vB c15_t) rfl ?_)
     refine sv (v := (vB false)) (x_assign rfl) ?_
     refine wpList_nil (X_then (hK7_ _ _ ?_))
     clear hK7_
     refine C_ret ?_
     refine R_any (v := (vB false)) (run_results1 rfl rfl) ?_
     have H21_ : Holds w10_ (ro R :: F) := (Holds.pkF H11_ [0] 1 :)
     exact ⟨_, _, rfl, ⟨(congrArg vB ((by unfold spanB; simp [c15_t, c16_f, c18_t, c19_f]) : false = (spanB ord s))), rfl⟩, S14_, H21_⟩
   ·skip
    refine S_no (j := 11) (dj := 16) (b := false) rfl rfl (congrArg vB c18_f) (by decide) ?_
    refine S_no (j := 11) (dj := 16) (b := false) rfl rfl (congrArg vB c18_f) (by decide) ?_
    refine S_no (j := 11) (dj := 16) (b := false) rfl rfl (congrArg vB c18_f) (by decide) ?_
    refine S_yes (j := 6) (dj := 11) (b := false) rfl rfl (congrArg vB c16_f) (T_pickF (v := (vB false)) (congrArg vB c18_f) rfl ?_)
    refine S_yes (j := 6) (dj := 11) (b := false) rfl rfl (congrArg vB c16_f) (T_val (v := (vB false)) (x_move rfl) ?_)
    refine S_no (j := 16) (dj := 21) (b := false) rfl rfl rfl (by decide) ?_
    refine S_no (j := 16) (dj := 21) (b := false) rfl rfl rfl (by decide) ?_
    refine S_no (j := 16) (dj := 21) (b := false) rfl rfl rfl (by decide) ?_
    refine S_yes (j := 6) (dj := 11) (b := false) rfl rfl (congrArg vB c16_f) (T_pickF (v := (vB false)) rfl rfl ?_)
    refine S_yes (j := 3) (dj := 8) (b := true) rfl rfl (congrArg vB c15_t) (T_pickF (v := (vB false)) (congrArg vB c16_f) rfl ?_)
    refine S_list (T_pickT (v := (vB false)) (congrArg vB c15_t) rfl ?_)
    refine sv (v := (vB false)) (x_assign rfl) ?_
    refine wpList_nil (X_then (hK7_ _ _ ?_))
    clear hK7_
    refine C_ret ?_
    refine R_any (v := (vB false)) (run_results1 rfl rfl) ?_
    have H22_ : Holds w10_ (ro R :: F) := (Holds.pkF H11_ [0] 1 :)
    exact ⟨_, _, rfl, ⟨(congrArg vB ((by unfold spanB; simp [c15_t, c16_f, c18_f]) : false = (spanB ord s))), rfl⟩, S14_, H22_⟩
 ·skip
  refine S_no (j := 3) (dj := 8) (b := false) rfl rfl (congrArg vB c15_f) (by decide) ?_
  refine S_no (j := 3) (dj := 8) (b := false) rfl rfl (congrArg vB c15_f) (by decide) ?_
  refine S_no (j := 3) (dj := 8) (b := false) rfl rfl (congrArg vB c15_f) (by decide) ?_
  refine S_noU (j := 6) (dj := 11) rfl rfl rfl ?_
  refine S_noU (j := 6) (dj := 11) rfl rfl rfl ?_
  refine S_noU (j := 6) (dj := 11) rfl rfl rfl ?_
  refine S_noU (j := 6) (dj := 11) rfl rfl rfl ?_
  refine S_noU (j := 6) (dj := 11) rfl rfl rfl ?_
  refine S_noU (j := 11) (dj := 16) rfl rfl rfl ?_
  refine S_noU (j := 11) (dj := 16) rfl rfl rfl ?_
  refine S_noU (j := 11) (dj := 16) rfl rfl rfl ?_
  refine S_noU (j := 6) (dj := 11) rfl rfl rfl ?_
  refine S_noU (j := 6) (dj := 11) rfl rfl rfl ?_
  refine S_noU (j := 16) (dj := 21) rfl rfl rfl ?_
  refine S_noU (j := 16) (dj := 21) rfl rfl rfl ?_
  refine S_noU (j := 16) (dj := 21) rfl rfl rfl ?_
  refine S_noU (j := 6) (dj := 11) rfl rfl rfl ?_
  refine S_no (j := 3) (dj := 8) (b := false) rfl rfl (congrArg vB c15_f) (by decide) ?_
  refine S_list (T_pickF (v := (vB false)) (congrArg vB c15_f) rfl ?_)
  refine sv (v := (vB false)) (x_assign rfl) ?_
  refine wpList_nil (X_then (hK7_ _ _ ?_))
  clear hK7_
  refine C_ret ?_
  refine R_any (v := (vB false)) (run_results1 rfl rfl) ?_
  have H23_ : Holds w10_ (ro R :: F) := (Holds.pkF H11_ [0] 1 :)
  exact ⟨_, _, rfl, ⟨(congrArg vB ((by unfold spanB; simp [c15_f]) : false = (spanB ord s))), rfl⟩, S14_, H23_⟩

set_option maxHeartbeats 8000000 in
theorem lwFill (R : HP) (ord : Int) (v : Value) (l : List SN) (hv : RS R 5 v (List.length l) (l.flatMap SN.cells)) (hz : ∀ s ∈ l, SSz s) (hn : l.length ≤ 2147483647) :
    TriG Try.prog 33 #[(vI .i64 ord), v] R [] (fun R' v__ post__ => (v__ = (vT #[(vS none 0 0), (vP none), (vB false)]) ∧ post__ = []) ∨ (∃ (oa : Option Addr) (oc : Nat) (O : List TX) (pb : Nat) (pv : Value) (P : List PN) (b : Bool), v__ = (vT #[(vS oa (List.length O) oc), (vQ pb), (vB b)]) ∧ post__ = [cl pb 75 [(vI .i64 ord), pv], sl 63 10 (vS oa (List.length O) oc) (List.length O) (O.flatMap TX.cells)] ∧ (RS R' 6 pv (List.length P) (P.flatMap PN.cells)) ∧ (Fil ord O P) ∧ (P.length ≤ 200) ∧ (b = true → 0 ≤ ord ∧ ord ≤ 3))) := by
 refine TriG.into (n := 53) (al := [(vI .i64 ord), v]) Try.func33 rfl Try.ntmps33 rfl rfl fun w F H => ?_
 refine C_seq (fun K1_ hK1_ => C_reg ?_)
 refine sv (v := (vS none 0 0)) (x_assign rfl) ?_
 refine sv (v := (vP none)) (x_assign rfl) ?_
 refine sv (v := (vB false)) (x_assign rfl) ?_
 refine wpList_nil (X_then (hK1_ _ _ ?_))
 clear hK1_
 refine C_seq (fun K2_ hK2_ => C_reg ?_)
 refine sv (v := (vI .i64 ord)) (x_move rfl) ?_
 refine sv (v := (vA #[(vI .i64 ord), (vS none 0 0)])) (by kernel_rfl) ?_
 refine S_list (T_box (v := (vA #[(vI .i64 ord), (vS none 0 0)])) rfl H ?_)
 intro b3_ w4_ S6_ H5_
 have S7_ := Same.trans (Same.refl w) S6_
 refine sv (v := (vQ b3_)) (x_assign rfl) ?_
 refine wpList_nil (X_then (hK2_ _ _ ?_))
 clear hK2_
 refine C_seq (fun K8_ hK8_ => C_reg ?_)
 refine sv (v := (vS none 0 0)) (x_assign rfl) ?_
 refine wpList_nil (X_then (hK8_ _ _ ?_))
 clear hK8_
 refine C_seq (fun K9_ hK9_ => ?_)
 refine C_seq (fun K10_ hK10_ => C_reg ?_)
 refine sv (v := v) (x_move rfl) ?_
 refine sv (v := (vI .i64 ((List.length l) : Int))) (x_lenRS rfl hv Try.underlying30) ?_
 refine sv (v := (vI .i64 0)) (x_move rfl) ?_
 refine wpList_nil (X_then (hK10_ _ _ ?_))
 clear hK10_
 refine C_block ?_
 have H11_ : Holds w4_ (sl 63 10 (vS none 0 0) (List.length ([] : List TX)) (([] : List TX).flatMap TX.cells) :: cl b3_ 75 [(vI .i64 ord), (vS none 0 0)] :: ro R :: F) := Holds.add_nil H5_ 63 10
 have H12_ := Holds.recl H11_ 1 rfl ((lcons rfl (lcons (rfl : (vS none 0 0) = ((vS none 0 0))) rfl)) : [(vI .i64 ord), (vS none 0 0)] = [(vI .i64 ord), ((vS none 0 0))])
 refine C_loop (γ := HP × Nat × Value × (List TX) × Value × (List PN) × Value × Value × Bool) (fun x__ a__ w1__ => match x__ with | ⟨R1, k, cv, O, pv, P, t4_v, t5_v, t6_v⟩ => ∃ h : Env, a__ = mkA 53 (upd (upd (upd (upd (upd (upd (upd (upd (upd h 0 (vI .i64 ord)) 4 t4_v) 5 t5_v) 6 (vB t6_v)) 7 (vQ b3_)) 8 cv) 14 v) 15 (vI .i64 ((List.length l) : Int))) 16 (vI .i64 (k : Int))) [] ∧ Holds w1__ (sl 63 10 cv (List.length O) (O.flatMap TX.cells) :: cl b3_ 75 [(vI .i64 ord), pv] :: ro R1 :: F) ∧ Same w w1__ ∧ (Sub R R1) ∧ (k ≤ l.length) ∧ (RS R1 6 pv (List.length P) (P.flatMap PN.cells)) ∧ (Fil ord O P) ∧ (P.length ≤ k ∧ P.length ≤ 200)) (fun x__ => match x__ with | ⟨R1, k, cv, O, pv, P, t4_v, t5_v, t6_v⟩ => l.length - k) (⟨R, 0, (vS none 0 0), ([] : List TX), (vS none 0 0), ([] : List PN), (vS none 0 0), (vP none), false⟩) ⟨_, congrArg (fun e => mkA 53 e []) (ch (ch (ch (ch (ch (ch (ch (ch (ch rfl rfl) (rfl : (vS none 0 0) = ((vS none 0 0)))) (rfl : (vP none) = ((vP none)))) rfl) rfl) (rfl : (vS none 0 0) = ((vS none 0 0)))) rfl) rfl) (congrArg (vI .i64) ((by first | rfl | omega | (simp; done) | (simp; omega)) : 0 = (0 : Int)))), H12_, S7_, (Sub.rfl' _), (by first | assumption | omega | exact rfl), (RS.nil _ _), (Fil.nil _), (⟨Nat.le_refl _, Nat.zero_le _⟩)⟩ ?_
 rintro ⟨R1, k, cv, O, pv, P, t4_v, t5_v, t6_v⟩ _ w13_ ⟨h, rfl, H14_, S15_, hsR1, hkk, hPq, hF, hPl⟩
 refine C_seq (fun K16_ hK16_ => C_reg ?_)
 refine sv (v := (vB (decide ((k : Int) < ((List.length l) : Int))))) (x_bin rfl rfl rfl) ?_
 refine wpList_nil (X_then (hK16_ _ _ ?_))
 clear hK16_
 refine C_seq (fun K17_ hK17_ => ?_)
 refine C_cond (b := decide ((k : Int) < ((List.length l) : Int))) rfl (fun c18_t => ?_) (fun c18_f => ?_)
 ·have c18_tp : (k : Int) < ((List.length l) : Int) := of_decide_eq_true c18_t
  refine C_skip (X_then (hK17_ _ _ ?_))
  clear hK17_
  refine C_seq (fun K19_ hK19_ => ?_)
  refine C_block ?_
  refine C_seq (fun K20_ hK20_ => C_reg ?_)
  refine sv (v := (vI .i64 (k : Int))) (x_move rfl) ?_
  obtain ⟨x21_, hx22_, hm23_⟩ := elem_at l k (by omega)
  have hp24_ := hz x21_ hm23_
  have hz1_ := hz x21_ hm23_
  have hz2_ := hz1_.1
  have hol_ := hF.len
  refine sv (v := (vP (some ⟨(sb v), so v + (k * 5 + 0), none⟩))) (x_idxRS (v := v) rfl (RS.mono hv hsR1) rfl Try.underlying30 z44 (by omega) (by omega) (by omega : _ = k) rfl) ?_
  refine sv (v := (vA #[(Value.string x21_.in__Begin), (Value.string x21_.in__End), (vB x21_.in__Point), (vI .i64 x21_.from_), (vI .i64 x21_.till)])) (x_loadN (vs := [(Value.string x21_.in__Begin), (Value.string x21_.in__End), (vB x21_.in__Point), (vI .i64 x21_.from_), (vI .i64 x21_.till)]) rfl Try.underlying44 rfl z44 rfl (RC.cells (RS.rc (RS.mono hv hsR1)) (Holds.ro_at H14_ 2 rfl) (k * 5 + 0) (fm_cells SN.len hx22_ (i := 0) rfl))) ?_
  refine S_list (T_alloc z44 H14_ ?_)
  intro b25_ w26_ S28_ H27_
  have S29_ := Same.trans S15_ S28_
  refine sv (v := (vI .i64 (k : Int))) (x_assign rfl) ?_
  refine S_list0 (T_storeN (vs := [(Value.string x21_.in__Begin), (Value.string x21_.in__End), (vB x21_.in__Point), (vI .i64 x21_.from_), (vI .i64 x21_.till)]) rfl rfl z44 rfl (by simp [Value.oneCell']) H27_ 0 rfl (Nat.le_of_ble_eq_true (by rfl)) ?_)
  intro w30_ S32_ H31_
  have S33_ := Same.trans S29_ S32_
  refine wpList_nil (X_then (hK20_ _ _ ?_))
  clear hK20_
  refine C_seq (fun K34_ hK34_ => ?_)
  refine C_seq (fun K35_ hK35_ => C_reg ?_)
  refine sv (v := (vI .i64 (k : Int))) (x_move rfl) ?_
  refine sv (v := (vB (decide (200 ≤ (k : Int))))) (x_bin rfl rfl rfl) ?_
  refine sv (v := (vB (decide (200 ≤ (k : Int))))) (x_move rfl) ?_
  rcases Bool.eq_false_or_eq_true (decide (200 ≤ (k : Int))) with c36_t | c36_f
  ·have c36_tp : 200 ≤ (k : Int) := of_decide_eq_true c36_t
   refine S_no (j := 2) (dj := 23) (b := true) rfl rfl (congrArg vB c36_t) (by decide) ?_
   refine S_no (j := 2) (dj := 23) (b := true) rfl rfl (congrArg vB c36_t) (by decide) ?_
   refine S_no (j := 2) (dj := 23) (b := true) rfl rfl (congrArg vB c36_t) (by decide) ?_
   refine S_no (j := 2) (dj := 23) (b := true) rfl rfl (congrArg vB c36_t) (by decide) ?_
   refine S_list (T_pickT (v := (vB true)) (congrArg vB c36_t) rfl ?_)
   refine wpList_nil (X_then (hK35_ _ _ ?_))
   clear hK35_
   refine C_condT rfl ?_
   refine C_seq (fun K37_ hK37_ => C_reg ?_)
   refine sv (v := (vS none 0 0)) (x_assign rfl) ?_
   refine sv (v := (vP none)) (x_assign rfl) ?_
   refine sv (v := (vB false)) (x_assign rfl) ?_
   refine wpList_nil (X_then (hK37_ _ _ ?_))
   clear hK37_
   refine C_ret (X_thenR (X_blkR (X_thenR (X_thenR (X_blkR (X_thenR ?_))))))
   refine R_any (v := (vT #[(vS none 0 0), (vP none), (vB false)])) (run_results3 rfl rfl rfl rfl) ?_
   have H38_ : Holds w30_ (ro R1 :: F) := (Holds.pkF H31_ [3] 3 :)
   exact ⟨R1, _, _, rfl, hsR1, (.inl ⟨rfl, rfl⟩), S33_, H38_⟩
  ·have c36_fp : ¬ (200 ≤ (k : Int)) := of_decide_eq_false c36_f
   refine S_yes (j := 2) (dj := 23) (b := false) rfl rfl (congrArg vB c36_f) (T_val (v := (vI .i64 ord)) (x_move rfl) ?_)
   refine S_yes (j := 2) (dj := 23) (b := false) rfl rfl (congrArg vB c36_f) (T_val (v := (vA #[(Value.string x21_.in__Begin), (Value.string x21_.in__End), (vB x21_.in__Point), (vI .i64 x21_.from_), (vI .i64 x21_.till)])) (x_loadN (vs := [(Value.string x21_.in__Begin), (Value.string x21_.in__End), (vB x21_.in__Point), (vI .i64 x21_.from_), (vI .i64 x21_.till)]) rfl Try.underlying44 rfl z44 rfl (Rd.cells (Holds.rd H31_ 0 rfl) 0 rfl)) ?_)
   have H40_ := ((Holds.bring H31_ 3 rfl) :)
   refine S_yes (j := 2) (dj := 23) (b := false) rfl rfl (congrArg vB c36_f) (T_call (al := [(vI .i64 ord), (vA #[(Value.string x21_.in__Begin), (Value.string x21_.in__End), (vB x21_.in__Point), (vI .i64 x21_.from_), (vI .i64 x21_.till)])]) (pre := []) rfl rfl cb60 (lwSpan R1 ord x21_ (hz2_)) H40_ ?_)
   rintro v39_ p44_ w41_ ⟨rfl, rfl⟩ S43_ H42_
   have S45_ := Same.trans S33_ S43_
   refine S_yes (j := 2) (dj := 23) (b := false) rfl rfl (congrArg vB c36_f) (T_val (v := (vB (!(spanB ord x21_)))) (x_not rfl) ?_)
   refine S_list (T_pickF (v := (vB (!(spanB ord x21_)))) (congrArg vB c36_f) rfl ?_)
   refine wpList_nil (X_then (hK35_ _ _ ?_))
   clear hK35_
   refine C_cond (b := !(spanB ord x21_)) rfl (fun c46_t => ?_) (fun c46_f => ?_)
   ·skip
    refine C_seq (fun K47_ hK47_ => C_reg ?_)
    refine sv (v := (vS none 0 0)) (x_assign rfl) ?_
    refine sv (v := (vP none)) (x_assign rfl) ?_
    refine sv (v := (vB false)) (x_assign rfl) ?_
    refine wpList_nil (X_then (hK47_ _ _ ?_))
    clear hK47_
    refine C_ret (X_thenR (X_blkR (X_thenR (X_thenR (X_blkR (X_thenR ?_))))))
    refine R_any (v := (vT #[(vS none 0 0), (vP none), (vB false)])) (run_results3 rfl rfl rfl rfl) ?_
    have H48_ : Holds w41_ (ro R1 :: F) := (Holds.pkF H42_ [0] 3 :)
    exact ⟨R1, _, _, rfl, hsR1, (.inl ⟨rfl, rfl⟩), S45_, H48_⟩
   ·skip
    refine C_skip (X_then (hK34_ _ _ ?_))
    clear hK34_
    refine C_seq (fun K49_ hK49_ => ?_)
    refine C_seq (fun K50_ hK50_ => C_reg ?_)
    refine sv (v := (vQ b3_)) (x_move rfl) ?_
    refine sv (v := (vA #[(Value.string x21_.in__Begin), (Value.string x21_.in__End), (vB x21_.in__Point), (vI .i64 x21_.from_), (vI .i64 x21_.till)])) (x_loadN (vs := [(Value.string x21_.in__Begin), (Value.string x21_.in__End), (vB x21_.in__Point), (vI .i64 x21_.from_), (vI .i64 x21_.till)]) rfl Try.underlying44 rfl z44 rfl (Rd.cells (Holds.rd H42_ 1 rfl) 0 rfl)) ?_
    refine sv (v := (vA #[(vI .i64 3), (Value.string x21_.in__Begin), (Value.string x21_.in__End), (vB x21_.in__Point), (vI .i64 x21_.from_), (vI .i64 x21_.till), (vI .i64 0), (vI .i64 0), (vS none 0 0), (vS none 0 0)])) (by kernel_rfl) ?_
    have H56_ := ((Holds.bring (Holds.bring H42_ 3 rfl) 1 rfl) :)
    refine S_list (T_callG (al := [(vQ b3_), (vA #[(vI .i64 ((⟨3, x21_.in__Begin, x21_.in__End, x21_.in__Point, x21_.from_, x21_.till, 0, 0, .slice none 0 0, .slice none 0 0⟩ : TO).kind)), (Value.string ((⟨3, x21_.in__Begin, x21_.in__End, x21_.in__Point, x21_.from_, x21_.till, 0, 0, .slice none 0 0, .slice none 0 0⟩ : TO).in__In_Begin)), (Value.string ((⟨3, x21_.in__Begin, x21_.in__End, x21_.in__Point, x21_.from_, x21_.till, 0, 0, .slice none 0 0, .slice none 0 0⟩ : TO).in__In_End)), (vB ((⟨3, x21_.in__Begin, x21_.in__End, x21_.in__Point, x21_.from_, x21_.till, 0, 0, .slice none 0 0, .slice none 0 0⟩ : TO).in__In_Point)), (vI .i64 ((⟨3, x21_.in__Begin, x21_.in__End, x21_.in__Point, x21_.from_, x21_.till, 0, 0, .slice none 0 0, .slice none 0 0⟩ : TO).in__From)), (vI .i64 ((⟨3, x21_.in__Begin, x21_.in__End, x21_.in__Point, x21_.from_, x21_.till, 0, 0, .slice none 0 0, .slice none 0 0⟩ : TO).in__Till)), (vI .i64 ((⟨3, x21_.in__Begin, x21_.in__End, x21_.in__Point, x21_.from_, x21_.till, 0, 0, .slice none 0 0, .slice none 0 0⟩ : TO).val)), (vI .i64 ((⟨3, x21_.in__Begin, x21_.in__End, x21_.in__Point, x21_.from_, x21_.till, 0, 0, .slice none 0 0, .slice none 0 0⟩ : TO).n)), ((⟨3, x21_.in__Begin, x21_.in__End, x21_.in__Point, x21_.from_, x21_.till, 0, 0, .slice none 0 0, .slice none 0 0⟩ : TO).other), ((⟨3, x21_.in__Begin, x21_.in__End, x21_.in__Point, x21_.from_, x21_.till, 0, 0, .slice none 0 0, .slice none 0 0⟩ : TO).vals)])]) (pre := [cl b3_ 75 [(vI .i64 ord), pv]]) rfl (lcons rfl (lcons (congrArg (fun l => vA (List.toArray l)) (lcons (congrArg (vI .i64) ((by first | rfl | omega | (simp; done) | (simp; omega)) : 3 = (⟨3, x21_.in__Begin, x21_.in__End, x21_.in__Point, x21_.from_, x21_.till, 0, 0, .slice none 0 0, .slice none 0 0⟩ : TO).kind)) (lcons (congrArg Value.string ((by first | rfl | omega | (simp; done) | (simp; omega)) : x21_.in__Begin = ((⟨3, x21_.in__Begin, x21_.in__End, x21_.in__Point, x21_.from_, x21_.till, 0, 0, .slice none 0 0, .slice none 0 0⟩ : TO).in__In_Begin))) (lcons (congrArg Value.string ((by first | rfl | omega | (simp; done) | (simp; omega)) : x21_.in__End = ((⟨3, x21_.in__Begin, x21_.in__End, x21_.in__Point, x21_.from_, x21_.till, 0, 0, .slice none 0 0, .slice none 0 0⟩ : TO).in__In_End))) (lcons (congrArg vB ((by first | rfl | omega | (simp; done) | (simp; omega)) : x21_.in__Point = ((⟨3, x21_.in__Begin, x21_.in__End, x21_.in__Point, x21_.from_, x21_.till, 0, 0, .slice none 0 0, .slice none 0 0⟩ : TO).in__In_Point))) (lcons (congrArg (vI .i64) ((by first | rfl | omega | (simp; done) | (simp; omega)) : x21_.from_ = (⟨3, x21_.in__Begin, x21_.in__End, x21_.in__Point, x21_.from_, x21_.till, 0, 0, .slice none 0 0, .slice none 0 0⟩ : TO).in__From)) (lcons (congrArg (vI .i64) ((by first | rfl | omega | (simp; done) | (simp; omega)) : x21_.till = (⟨3, x21_.in__Begin, x21_.in__End, x21_.in__Point, x21_.from_, x21_.till, 0, 0, .slice none 0 0, .slice none 0 0⟩ : TO).in__Till)) (lcons (congrArg (vI .i64) ((by first | rfl | omega | (simp; done) | (simp; omega)) : 0 = (⟨3, x21_.in__Begin, x21_.in__End, x21_.in__Point, x21_.from_, x21_.till, 0, 0, .slice none 0 0, .slice none 0 0⟩ : TO).val)) (lcons (congrArg (vI .i64) ((by first | rfl | omega | (simp; done) | (simp; omega)) : 0 = (⟨3, x21_.in__Begin, x21_.in__End, x21_.in__Point, x21_.from_, x21_.till, 0, 0, .slice none 0 0, .slice none 0 0⟩ : TO).n)) (lcons ((by first | rfl | omega | (simp; done) | (simp; omega)) : (vS none 0 0) = ((⟨3, x21_.in__Begin, x21_.in__End, x21_.in__Point, x21_.from_, x21_.till, 0, 0, .slice none 0 0, .slice none 0 0⟩ : TO).other)) (lcons ((by first | rfl | omega | (simp; done) | (simp; omega)) : (vS none 0 0) = ((⟨3, x21_.in__Begin, x21_.in__End, x21_.in__Point, x21_.from_, x21_.till, 0, 0, .slice none 0 0, .slice none 0 0⟩ : TO).vals)) rfl))))))))))) rfl)) cb59 (spDo3 R1 ord b3_ pv P (⟨3, x21_.in__Begin, x21_.in__End, x21_.in__Point, x21_.from_, x21_.till, 0, 0, .slice none 0 0, .slice none 0 0⟩ : TO) (hPq) (hF.z) (hz2_) (by omega) (rfl)) H56_ ?_)
    rintro R52_ v53_ p60_ w57_ hs51_ ⟨a54_, rfl, rfl, he55_⟩ S59_ H58_
    have S61_ := Same.trans S45_ S59_
    have hz_R_R52_ := Sub.trans' hsR1 hs51_
    refine sv (v := (vB a54_.oK)) (by kernel_rfl) ?_
    refine wpList_nil (X_then (hK50_ _ _ ?_))
    clear hK50_
    refine C_cond (b := a54_.oK) rfl (fun c62_t => ?_) (fun c62_f => ?_)
    ·skip
     refine C_exit (X_thenX (X_blkHit ?_))
     refine (X_then (hK19_ _ _ ?_))
     clear hK19_
     refine C_reg ?_
     refine sv (v := (vI .i64 ((k : Int) + 1))) (x_bin rfl rfl (ib_add (IntWalk.i64_in _ (by omega)))) ?_
     refine sv (v := (vI .i64 ((k : Int) + 1))) (x_move rfl) ?_
     refine wpList_nil (X_then ?_)
     have H63_ : Holds w57_ (sl 63 10 cv (List.length O) (O.flatMap TX.cells) :: cl b3_ 75 [(vI .i64 ord), pv] :: ro R52_ :: F) := (Holds.pkF H58_ [3, 1, 0] 1 :)
     exact ⟨⟨R52_, k + 1, cv, O, pv, P, t4_v, t5_v, t6_v⟩, ⟨_, congrArg (fun e => mkA 53 e []) (ch (ch (ch (ch (ch (ch (ch (ch (ch rfl rfl) rfl) rfl) rfl) rfl) rfl) rfl) rfl) (congrArg (vI .i64) ((by first | rfl | omega | (simp; done) | (simp; omega)) : (k : Int) + 1 = ((k + 1 : Nat) : Int)))), H63_, S61_, (hz_R_R52_), (by first | assumption | omega | exact rfl), ((hPq.mono hs51_)), (hF), (by omega)⟩, by first | omega | (dsimp only; omega) | (simp; omega)⟩
    ·skip
     refine C_skip (X_then (hK49_ _ _ ?_))
     clear hK49_
     refine C_seq (fun K64_ hK64_ => C_reg ?_)
     refine sv (v := cv) (x_move rfl) ?_
     refine sv (v := (vA #[(Value.string x21_.in__Begin), (Value.string x21_.in__End), (vB x21_.in__Point), (vI .i64 x21_.from_), (vI .i64 x21_.till)])) (x_loadN (vs := [(Value.string x21_.in__Begin), (Value.string x21_.in__End), (vB x21_.in__Point), (vI .i64 x21_.from_), (vI .i64 x21_.till)]) rfl Try.underlying44 rfl z44 rfl (Rd.cells (Holds.rd H58_ 2 rfl) 0 rfl)) ?_
     refine sv (v := (vI .i64 (k : Int))) (x_move rfl) ?_
     refine sv (v := (vA #[(vI .i64 1), (Value.string x21_.in__Begin), (Value.string x21_.in__End), (vB x21_.in__Point), (vI .i64 x21_.from_), (vI .i64 x21_.till), (vI .i64 (k : Int)), (vI .i64 0), (vS none 0 0), (vS none 0 0)])) (by kernel_rfl) ?_
     refine S_list (T_new (obj := .cells #[(vI .i64 1), (Value.string x21_.in__Begin), (Value.string x21_.in__End), (vB x21_.in__Point), (vI .i64 x21_.from_), (vI .i64 x21_.till), (vI .i64 (k : Int)), (vI .i64 0), (vS none 0 0), (vS none 0 0)] 63) (f := fun b__ => .slice (some ⟨b__, 0, none⟩) 1 1) (A := fun b__ => cl b__ 63 [(vI .i64 1), (Value.string x21_.in__Begin), (Value.string x21_.in__End), (vB x21_.in__Point), (vI .i64 x21_.from_), (vI .i64 x21_.till), (vI .i64 (k : Int)), (vI .i64 0), (vS none 0 0), (vS none 0 0)]) (by kernel_rfl) (fun l h => h.alloc _ _) H58_ ?_)
     intro b65_ w66_ S68_ H67_
     have S69_ := Same.trans S61_ S68_
     refine S_list (T_append rfl rfl Try.underlying66 z63 rfl (by decide) H67_ 4 rfl (Holds.cl_src H67_ 0 rfl Try.underlying66 (by simp [Value.oneCell']) rfl) (by first | omega | (simp only [List.length_append, List.length_cons, List.length_nil]; omega)) ?_)
     intro v70_ w71_ S73_ H72_
     have S74_ := Same.trans S69_ S73_
     refine sv (v := v70_) (x_assign rfl) ?_
     refine wpList_nil (X_then (hK64_ _ _ ?_))
     clear hK64_
     refine C_reg ?_
     refine sv (v := (vQ b3_)) (x_move rfl) ?_
     refine sv (v := (vA #[(Value.string x21_.in__Begin), (Value.string x21_.in__End), (vB x21_.in__Point), (vI .i64 x21_.from_), (vI .i64 x21_.till)])) (x_loadN (vs := [(Value.string x21_.in__Begin), (Value.string x21_.in__End), (vB x21_.in__Point), (vI .i64 x21_.from_), (vI .i64 x21_.till)]) rfl Try.underlying44 rfl z44 rfl (Rd.cells (Holds.rd H72_ 3 rfl) 0 rfl)) ?_
     refine sv (v := (vI .i64 (k : Int))) (x_move rfl) ?_
     have H80_ := ((Holds.bring (Holds.bring H72_ 2 rfl) 2 rfl) :)
     refine S_list (T_callG (al := [(vQ b3_), (vA #[(Value.string x21_.in__Begin), (Value.string x21_.in__End), (vB x21_.in__Point), (vI .i64 x21_.from_), (vI .i64 x21_.till)]), (vI .i64 (k : Int))]) (pre := [cl b3_ 75 [(vI .i64 ord), pv]]) rfl rfl cb61 (spPut R52_ ord b3_ pv P x21_ (k : Int) ((hPq.mono hs51_)) (hF.z) (hz2_) (by omega)) H80_ ?_)
     rintro R76_ v77_ p84_ w81_ hs75_ ⟨pv78_, rfl, rfl, he79_⟩ S83_ H82_
     have S85_ := Same.trans S74_ S83_
     have hz_R_R76_ := Sub.trans' hz_R_R52_ hs75_
     have hz_R1_R76_ := Sub.trans' hs51_ hs75_
     refine wpList_nil (X_blkN (X_then (hK19_ _ _ ?_)))
     clear hK19_
     refine C_reg ?_
     refine sv (v := (vI .i64 ((k : Int) + 1))) (x_bin rfl rfl (ib_add (IntWalk.i64_in _ (by omega)))) ?_
     refine sv (v := (vI .i64 ((k : Int) + 1))) (x_move rfl) ?_
     refine wpList_nil (X_then ?_)
     have H86_ := Holds.resl H82_ 4 rfl (by rw [List.flatMap_append]; rfl : (O.flatMap TX.cells) ++ [(vI .i64 1), (Value.string x21_.in__Begin), (Value.string x21_.in__End), (vB x21_.in__Point), (vI .i64 x21_.from_), (vI .i64 x21_.till), (vI .i64 (k : Int)), (vI .i64 0), (vS none 0 0), (vS none 0 0)] = (O ++ [insOp x21_ (k : Int)]).flatMap TX.cells) (by rw [List.length_append]; rfl : (List.length O) + 1 = (List.length (O ++ [insOp x21_ (k : Int)])))
     have hno_ : ∀ y ∈ P, sSame ord y.sn x21_ = false := spFindX_ok (he55_.1.symm.trans c62_f)
     have hF2_ : Fil ord (O ++ [insOp x21_ (k : Int)]) (putP ord x21_ (k : Int) P) := hF.snoc (by simpa using c46_f) hz1_ hno_
     have hl2_ : (putP ord x21_ (k : Int) P).length = P.length + 1 := by have h__ := hF2_.len; rw [List.length_append, hF.len] at h__; exact h__.symm
     have H87_ : Holds w81_ (sl 63 10 v70_ (List.length (O ++ [insOp x21_ (k : Int)])) ((O ++ [insOp x21_ (k : Int)]).flatMap TX.cells) :: cl b3_ 75 [(vI .i64 ord), pv78_] :: ro R76_ :: F) := (Holds.pkF H86_ [4, 1, 0] 2 :)
     exact ⟨⟨R76_, k + 1, v70_, (O ++ [insOp x21_ (k : Int)]), pv78_, (putP ord x21_ (k : Int) P), t4_v, t5_v, t6_v⟩, ⟨_, congrArg (fun e => mkA 53 e []) (ch (ch (ch (ch (ch (ch (ch (ch (ch rfl rfl) rfl) rfl) rfl) rfl) rfl) rfl) rfl) (congrArg (vI .i64) ((by first | rfl | omega | (simp; done) | (simp; omega)) : (k : Int) + 1 = ((k + 1 : Nat) : Int)))), H87_, S85_, (hz_R_R76_), (by first | assumption | omega | exact rfl), (he79_), (hF2_), (by omega)⟩, by first | omega | (dsimp only; omega) | (simp; omega)⟩
 ·have c18_fp : ¬ ((k : Int) < ((List.length l) : Int)) := of_decide_eq_false c18_f
  refine C_exit (X_thenX (X_thenX (X_blkHit ?_)))
  refine (X_then (hK9_ _ _ ?_))
  clear hK9_
  refine C_seq (fun K88_ hK88_ => C_reg ?_)
  obtain ⟨oa_, oc_, ecv_, _⟩ := RS.len (Holds.sl_RSw H14_ 0 rfl)
  subst ecv_
  ·skip
   refine sv (v := (vS oa_ (List.length O) oc_)) (x_move rfl) ?_
   refine sv (v := (vQ b3_)) (x_move rfl) ?_
   refine sv (v := (vI .i64 ord)) (x_move rfl) ?_
   refine sv (v := (vB (decide (0 ≤ ord)))) (x_bin rfl rfl rfl) ?_
   refine sv (v := (vB (decide (0 ≤ ord)))) (x_move rfl) ?_
   rcases Bool.eq_false_or_eq_true (decide (0 ≤ ord)) with c89_t | c89_f
   ·have c89_tp : 0 ≤ ord := of_decide_eq_true c89_t
    refine S_yes (j := 4) (dj := 49) (b := true) rfl rfl (congrArg vB c89_t) (T_val (v := (vI .i64 ord)) (x_move rfl) ?_)
    refine S_yes (j := 4) (dj := 49) (b := true) rfl rfl (congrArg vB c89_t) (T_val (v := (vB (decide (ord ≤ 3)))) (x_bin rfl rfl rfl) ?_)
    refine S_list (T_pickT (v := (vB (decide (ord ≤ 3)))) (congrArg vB c89_t) rfl ?_)
    refine sv (v := (vS oa_ (List.length O) oc_)) (x_assign rfl) ?_
    refine sv (v := (vQ b3_)) (x_assign rfl) ?_
    refine sv (v := (vB (decide (ord ≤ 3)))) (x_assign rfl) ?_
    refine wpList_nil (X_then (hK88_ _ _ ?_))
    clear hK88_
    refine C_ret ?_
    refine R_any (v := (vT #[(vS oa_ (List.length O) oc_), (vQ b3_), (vB (decide (ord ≤ 3)))])) (run_results3 rfl rfl rfl rfl) ?_
    have H90_ : Holds w13_ (ro R1 :: cl b3_ 75 [(vI .i64 ord), pv] :: sl 63 10 (vS oa_ (List.length O) oc_) (List.length O) (O.flatMap TX.cells) :: F) := (Holds.pkF H14_ [2, 1, 0] 0 :)
    exact ⟨R1, _, _, rfl, hsR1, (.inr ⟨oa_, oc_, O, b3_, pv, P, decide (ord ≤ 3), rfl, rfl, (hPq), (hF), (by omega), (fun h => by first | (cases h; done) | (have h__ := of_decide_eq_true h; omega))⟩), S15_, H90_⟩
   ·have c89_fp : ¬ (0 ≤ ord) := of_decide_eq_false c89_f
    refine S_no (j := 4) (dj := 49) (b := false) rfl rfl (congrArg vB c89_f) (by decide) ?_
    refine S_no (j := 4) (dj := 49) (b := false) rfl rfl (congrArg vB c89_f) (by decide) ?_
    refine S_list (T_pickF (v := (vB false)) (congrArg vB c89_f) rfl ?_)
    refine sv (v := (vS oa_ (List.length O) oc_)) (x_assign rfl) ?_
    refine sv (v := (vQ b3_)) (x_assign rfl) ?_
    refine sv (v := (vB false)) (x_assign rfl) ?_
    refine wpList_nil (X_then (hK88_ _ _ ?_))
    clear hK88_
    refine C_ret ?_
    refine R_any (v := (vT #[(vS oa_ (List.length O) oc_), (vQ b3_), (vB false)])) (run_results3 rfl rfl rfl rfl) ?_
    have H91_ : Holds w13_ (ro R1 :: cl b3_ 75 [(vI .i64 ord), pv] :: sl 63 10 (vS oa_ (List.length O) oc_) (List.length O) (O.flatMap TX.cells) :: F) := (Holds.pkF H14_ [2, 1, 0] 0 :)
    exact ⟨R1, _, _, rfl, hsR1, (.inr ⟨oa_, oc_, O, b3_, pv, P, false, rfl, rfl, (hPq), (hF), (by omega), (fun h => by first | (cases h; done) | (have h__ := of_decide_eq_true h; omega))⟩), S15_, H91_⟩
end Go.Proofs.Ytlnihndjepjagaa
set_option linter.unusedVariables false
set_option linter.unusedSimpArgs false
namespace Go.Proofs.Ytlnihndjepjagaa
open Go Go.RowKit Gw
open Go.Value renaming int → vI, bool → vB, slice → vS, pointer → vP, agg → vA, tuple → vT

/-- Two answers that tell the same. -/
structure Agree (ord : Int) (x y : TAx) : Prop where
  ok : x.ok = y.ok
  n : x.n = y.n
  l : x.L.length = y.L.length
  v : x.V = y.V
  p : ∀ s ∈ x.L, s.in__Point = false
  s : ∀ (i : Nat) (s t : SN), x.L[i]? = some s → y.L[i]? = some t → sSame ord s t = true
  z : (∀ s ∈ x.L, s.in__Begin.size ≤ 2147483647) ∧ (∀ s ∈ y.L, s.in__Begin.size ≤ 2147483647)
  b : x.L.length ≤ 1000000 ∧ x.V.length ≤ 1000000


set_option maxHeartbeats 8000000 in
theorem lwProp (R : HP) (ord : Int) (o : TO) (hs : o.sn.in__Begin.size ≤ 2147483647) (hk : o.kind ≠ 8 ∧ o.kind ≠ 9) :
    Tri Try.prog 34 #[(vI .i64 ord), (vA #[(vI .i64 o.kind), (Value.string o.in__In_Begin), (Value.string o.in__In_End), (vB o.in__In_Point), (vI .i64 o.in__From), (vI .i64 o.in__Till), (vI .i64 o.val), (vI .i64 o.n), (vS none 0 0), (vS none 0 0)])] R [] (fun v__ post__ => v__ = (vB (spanB ord o.sn)) ∧ post__ = []) := by
 have hl1_ : (List.length [o.sn]) = 1 := rfl
 refine Tri.into (n := 44) (al := [(vI .i64 ord), (vA #[(vI .i64 o.kind), (Value.string o.in__In_Begin), (Value.string o.in__In_End), (vB o.in__In_Point), (vI .i64 o.in__From), (vI .i64 o.in__Till), (vI .i64 o.val), (vI .i64 o.n), (vS none 0 0), (vS none 0 0)])]) Try.func34 rfl Try.ntmps34 rfl rfl fun w F H => ?_
 refine C_seq (fun K1_ hK1_ => C_reg ?_)
 refine S_list (T_box (v := (vA #[(vI .i64 o.kind), (Value.string o.in__In_Begin), (Value.string o.in__In_End), (vB o.in__In_Point), (vI .i64 o.in__From), (vI .i64 o.in__Till), (vI .i64 o.val), (vI .i64 o.n), (vS none 0 0), (vS none 0 0)])) rfl H ?_)
 intro b2_ w3_ S5_ H4_
 have S6_ := Same.trans (Same.refl w) S5_
 refine sv (v := (vB false)) (x_assign rfl) ?_
 refine wpList_nil (X_then (hK1_ _ _ ?_))
 clear hK1_
 refine C_seq (fun K7_ hK7_ => ?_)
 refine C_seq (fun K8_ hK8_ => C_reg ?_)
 refine sv (v := (vP (some ⟨b2_, 8, none⟩))) (by kernel_rfl) ?_
 refine sv (v := (vS none 0 0)) (x_load1 rfl Try.underlying30 rfl ((Holds.rd H4_ 0 rfl) 8 (vS none 0 0) rfl)) ?_
 refine sv (v := (vI .i64 0)) (x_lenS rfl Try.underlying30) ?_
 refine sv (v := (vB false)) (x_bin rfl rfl rfl) ?_
 refine sv (v := (vB false)) (x_move rfl) ?_
 refine S_yes (j := 4) (dj := 11) (b := false) rfl rfl rfl (T_val (v := (vP (some ⟨b2_, 9, none⟩))) (by kernel_rfl) ?_)
 refine S_yes (j := 4) (dj := 11) (b := false) rfl rfl rfl (T_val (v := (vS none 0 0)) (x_load1 rfl Try.underlying35 rfl ((Holds.rd H4_ 0 rfl) 9 (vS none 0 0) rfl)) ?_)
 refine S_yes (j := 4) (dj := 11) (b := false) rfl rfl rfl (T_val (v := (vI .i64 0)) (x_lenS rfl Try.underlying35) ?_)
 refine S_yes (j := 4) (dj := 11) (b := false) rfl rfl rfl (T_val (v := (vP (some ⟨b2_, 8, none⟩))) (by kernel_rfl) ?_)
 refine S_yes (j := 4) (dj := 11) (b := false) rfl rfl rfl (T_val (v := (vS none 0 0)) (x_load1 rfl Try.underlying30 rfl ((Holds.rd H4_ 0 rfl) 8 (vS none 0 0) rfl)) ?_)
 refine S_yes (j := 4) (dj := 11) (b := false) rfl rfl rfl (T_val (v := (vI .i64 0)) (x_lenS rfl Try.underlying30) ?_)
 refine S_yes (j := 4) (dj := 11) (b := false) rfl rfl rfl (T_val (v := (vB false)) (x_bin rfl rfl rfl) ?_)
 refine S_list (T_pickF (v := (vB false)) rfl rfl ?_)
 refine wpList_nil (X_then (hK8_ _ _ ?_))
 clear hK8_
 refine C_condF rfl ?_
 refine C_skip (X_then (hK7_ _ _ ?_))
 clear hK7_
 refine C_seq (fun K9_ hK9_ => ?_)
 refine C_seq (fun K10_ hK10_ => C_reg ?_)
 refine sv (v := (vQ b2_)) (by kernel_rfl) ?_
 refine sv (v := (vI .i64 o.kind)) (x_load1 rfl Try.underlying3 rfl ((Holds.rd H4_ 0 rfl) 0 (vI .i64 o.kind) rfl)) ?_
 refine sv (v := (vB (decide (o.kind = 8)))) (x_bin rfl rfl rfl) ?_
 refine sv (v := (vB (decide (o.kind = 8)))) (x_move rfl) ?_
 rcases Bool.eq_false_or_eq_true (decide (o.kind = 8)) with c11_t | c11_f
 ·have c11_tp : o.kind = 8 := of_decide_eq_true c11_t
  omega
 ·have c11_fp : ¬ (o.kind = 8) := of_decide_eq_false c11_f
  refine S_yes (j := 3) (dj := 23) (b := false) rfl rfl (congrArg vB c11_f) (T_val (v := (vQ b2_)) (by kernel_rfl) ?_)
  refine S_yes (j := 3) (dj := 23) (b := false) rfl rfl (congrArg vB c11_f) (T_val (v := (vI .i64 o.kind)) (x_load1 rfl Try.underlying3 rfl ((Holds.rd H4_ 0 rfl) 0 (vI .i64 o.kind) rfl)) ?_)
  refine S_yes (j := 3) (dj := 23) (b := false) rfl rfl (congrArg vB c11_f) (T_val (v := (vB (decide (o.kind = 9)))) (x_bin rfl rfl rfl) ?_)
  refine S_list (T_pickF (v := (vB (decide (o.kind = 9)))) (congrArg vB c11_f) rfl ?_)
  refine wpList_nil (X_then (hK10_ _ _ ?_))
  clear hK10_
  refine C_cond (b := decide (o.kind = 9)) rfl (fun c12_t => ?_) (fun c12_f => ?_)
  ·have c12_tp : o.kind = 9 := of_decide_eq_true c12_t
   omega
  ·have c12_fp : ¬ (o.kind = 9) := of_decide_eq_false c12_f
   refine C_skip (X_then (hK9_ _ _ ?_))
   clear hK9_
   refine C_seq (fun K13_ hK13_ => ?_)
   refine C_seq (fun K14_ hK14_ => C_reg ?_)
   refine sv (v := (vP (some ⟨b2_, 1, none⟩))) (by kernel_rfl) ?_
   refine sv (v := (vA #[(Value.string o.in__In_Begin), (Value.string o.in__In_End), (vB o.in__In_Point), (vI .i64 o.in__From), (vI .i64 o.in__Till)])) (x_loadN (vs := [(Value.string o.in__In_Begin), (Value.string o.in__In_End), (vB o.in__In_Point), (vI .i64 o.in__From), (vI .i64 o.in__Till)]) rfl Try.underlying44 rfl z44 rfl (Rd.cells (Holds.rd H4_ 0 rfl) 1 rfl)) ?_
   refine S_list (T_new (obj := .cells #[(Value.string o.in__In_Begin), (Value.string o.in__In_End), (vB o.in__In_Point), (vI .i64 o.in__From), (vI .i64 o.in__Till)] 44) (f := fun b__ => .slice (some ⟨b__, 0, none⟩) 1 1) (A := fun b__ => cl b__ 44 [(Value.string o.in__In_Begin), (Value.string o.in__In_End), (vB o.in__In_Point), (vI .i64 o.in__From), (vI .i64 o.in__Till)]) (by kernel_rfl) (fun l h => h.alloc _ _) H4_ ?_)
   intro b15_ w16_ S18_ H17_
   have S19_ := Same.trans S6_ S18_
   refine sv (v := (vP (some ⟨b2_, 8, none⟩))) (by kernel_rfl) ?_
   refine sv (v := (vS none 0 0)) (x_load1 rfl Try.underlying30 rfl ((Holds.rd H17_ 1 rfl) 8 (vS none 0 0) rfl)) ?_
   have H20_ : Holds w16_ (cl b15_ 44 ([] ++ [(Value.string o.in__In_Begin), (Value.string o.in__In_End), (vB o.in__In_Point), (vI .i64 o.in__From), (vI .i64 o.in__Till)] ++ []) :: cl b2_ 63 [(vI .i64 o.kind), (Value.string o.in__In_Begin), (Value.string o.in__In_End), (vB o.in__In_Point), (vI .i64 o.in__From), (vI .i64 o.in__Till), (vI .i64 o.val), (vI .i64 o.n), (vS none 0 0), (vS none 0 0)] :: ro R :: F) := cast1 (P := fun (c__ : List Value) => Holds w16_ (cl b15_ 44 c__ :: cl b2_ 63 [(vI .i64 o.kind), (Value.string o.in__In_Begin), (Value.string o.in__In_End), (vB o.in__In_Point), (vI .i64 o.in__From), (vI .i64 o.in__Till), (vI .i64 o.val), (vI .i64 o.n), (vS none 0 0), (vS none 0 0)] :: ro R :: F)) (by kernel_rfl : [(Value.string o.in__In_Begin), (Value.string o.in__In_End), (vB o.in__In_Point), (vI .i64 o.in__From), (vI .i64 o.in__Till)] = [] ++ [(Value.string o.in__In_Begin), (Value.string o.in__In_End), (vB o.in__In_Point), (vI .i64 o.in__From), (vI .i64 o.in__Till)] ++ []) H17_
   have H21_ : Holds w16_ (sl 44 5 (vS (some ⟨b15_, 0, none⟩) 1 1) 1 [(Value.string o.in__In_Begin), (Value.string o.in__In_End), (vB o.in__In_Point), (vI .i64 o.in__From), (vI .i64 o.in__Till)] :: cl b2_ 63 [(vI .i64 o.kind), (Value.string o.in__In_Begin), (Value.string o.in__In_End), (vB o.in__In_Point), (vI .i64 o.in__From), (vI .i64 o.in__Till), (vI .i64 o.val), (vI .i64 o.n), (vS none 0 0), (vS none 0 0)] :: ro R :: F) := Holds.to_sl H20_ 0 [] [] (xs := [(Value.string o.in__In_Begin), (Value.string o.in__In_End), (vB o.in__In_Point), (vI .i64 o.in__From), (vI .i64 o.in__Till)]) (m := 1) (cap := 1) (sz := 5) rfl (by kernel_rfl) (by kernel_rfl) (by omega)
   refine S_list (T_append rfl rfl Try.underlying30 z44 rfl (by decide) H21_ 0 rfl (RS.src (RS.nil R 5) (Holds.ro_at H21_ 2 rfl) Try.underlying30 (by simp)) (by first | omega | (simp only [List.length_append, List.length_cons, List.length_nil]; omega)) ?_)
   intro v22_ w23_ S25_ H24_
   have S26_ := Same.trans S19_ S25_
   refine sv (v := (vI .i64 1)) (x_lenSl rfl H24_ 0 rfl Try.underlying30) ?_
   refine sv (v := (vI .i64 0)) (x_move rfl) ?_
   refine wpList_nil (X_then (hK14_ _ _ ?_))
   clear hK14_
   refine C_block ?_
   have H27_ := Holds.resl H24_ 0 rfl (rfl : [(Value.string o.in__In_Begin), (Value.string o.in__In_End), (vB o.in__In_Point), (vI .i64 o.in__From), (vI .i64 o.in__Till)] ++ [] = [o.sn].flatMap SN.cells) (rfl : 1 = (List.length [o.sn]))
   have H28_ := ((Holds.bring H27_ 2 rfl) :)
   obtain ⟨R29_, hs30_, ⟨R31_, ha32_, hs33_⟩, H34_⟩ := Holds.gift H28_
   have hr35_ : RS R29_ 5 v22_ (List.length [o.sn]) ([o.sn].flatMap SN.cells) := (sl_RS ha32_ (Sub.rfl' _)).mono hs33_
   refine C_loop (γ := Nat × Bool) (fun x__ a__ w1__ => match x__ with | ⟨k, t4_v⟩ => ∃ h : Env, a__ = mkA 44 (upd (upd (upd (upd (upd h 0 (vI .i64 ord)) 4 (vB t4_v)) 33 v22_) 34 (vI .i64 1)) 35 (vI .i64 (k : Int))) [] ∧ Holds w1__ (ro R29_ :: cl b2_ 63 [(vI .i64 o.kind), (Value.string o.in__In_Begin), (Value.string o.in__In_End), (vB o.in__In_Point), (vI .i64 o.in__From), (vI .i64 o.in__Till), (vI .i64 o.val), (vI .i64 o.n), (vS none 0 0), (vS none 0 0)] :: F) ∧ Same w w1__ ∧ (k ≤ (List.length [o.sn])) ∧ (0 < k → spanB ord o.sn = true)) (fun x__ => match x__ with | ⟨k, t4_v⟩ => (List.length [o.sn]) - k) (⟨0, false⟩) ⟨_, congrArg (fun e => mkA 44 e []) (ch (ch (ch (ch (ch rfl rfl) rfl) rfl) rfl) (congrArg (vI .i64) ((by first | rfl | omega | (simp; done) | (simp; omega)) : 0 = (0 : Int)))), H34_, S26_, (Nat.zero_le _), (fun h => by omega)⟩ ?_
   rintro ⟨k, t4_v⟩ _ w36_ ⟨h, rfl, H37_, S38_, hkk, hsp⟩
   refine C_seq (fun K39_ hK39_ => C_reg ?_)
   refine sv (v := (vB (decide ((k : Int) < 1)))) (x_bin rfl rfl rfl) ?_
   refine wpList_nil (X_then (hK39_ _ _ ?_))
   clear hK39_
   refine C_seq (fun K40_ hK40_ => ?_)
   refine C_cond (b := decide ((k : Int) < 1)) rfl (fun c41_t => ?_) (fun c41_f => ?_)
   ·have c41_tp : (k : Int) < 1 := of_decide_eq_true c41_t
    refine C_skip (X_then (hK40_ _ _ ?_))
    clear hK40_
    refine C_seq (fun K42_ hK42_ => ?_)
    refine C_block ?_
    refine C_seq (fun K43_ hK43_ => C_reg ?_)
    obtain ⟨x44_, hx45_, hm46_⟩ := elem_at [o.sn] k (by omega)
    have hxe_ : x44_ = o.sn := List.mem_singleton.1 hm46_
    have hxs_ : x44_.in__Begin.size ≤ 2147483647 := by rw [hxe_]; exact hs
    refine sv (v := (vP (some ⟨(sb v22_), so v22_ + (k * 5 + 0), none⟩))) (x_idxRS (v := v22_) rfl hr35_ rfl Try.underlying30 z44 (by omega) (by omega) (by omega : _ = k) rfl) ?_
    refine sv (v := (vA #[(Value.string x44_.in__Begin), (Value.string x44_.in__End), (vB x44_.in__Point), (vI .i64 x44_.from_), (vI .i64 x44_.till)])) (x_loadN (vs := [(Value.string x44_.in__Begin), (Value.string x44_.in__End), (vB x44_.in__Point), (vI .i64 x44_.from_), (vI .i64 x44_.till)]) rfl Try.underlying44 rfl z44 rfl (RC.cells (RS.rc hr35_) (Holds.ro_at H37_ 0 rfl) (k * 5 + 0) (fm_cells SN.len hx45_ (i := 0) rfl))) ?_
    refine S_list (T_alloc z44 H37_ ?_)
    intro b47_ w48_ S50_ H49_
    have S51_ := Same.trans S38_ S50_
    refine S_list0 (T_storeN (vs := [(Value.string x44_.in__Begin), (Value.string x44_.in__End), (vB x44_.in__Point), (vI .i64 x44_.from_), (vI .i64 x44_.till)]) rfl rfl z44 rfl (by simp [Value.oneCell']) H49_ 0 rfl (Nat.le_of_ble_eq_true (by rfl)) ?_)
    intro w52_ S54_ H53_
    have S55_ := Same.trans S51_ S54_
    refine wpList_nil (X_then (hK43_ _ _ ?_))
    clear hK43_
    refine C_seq (fun K56_ hK56_ => C_reg ?_)
    refine sv (v := (vI .i64 ord)) (x_move rfl) ?_
    refine sv (v := (vA #[(Value.string x44_.in__Begin), (Value.string x44_.in__End), (vB x44_.in__Point), (vI .i64 x44_.from_), (vI .i64 x44_.till)])) (x_loadN (vs := [(Value.string x44_.in__Begin), (Value.string x44_.in__End), (vB x44_.in__Point), (vI .i64 x44_.from_), (vI .i64 x44_.till)]) rfl Try.underlying44 rfl z44 rfl (Rd.cells (Holds.rd H53_ 0 rfl) 0 rfl)) ?_
    have H58_ := ((Holds.bring H53_ 1 rfl) :)
    refine S_list (T_call (al := [(vI .i64 ord), (vA #[(Value.string x44_.in__Begin), (Value.string x44_.in__End), (vB x44_.in__Point), (vI .i64 x44_.from_), (vI .i64 x44_.till)])]) (pre := []) rfl rfl cb60 (lwSpan R29_ ord x44_ (hxs_)) H58_ ?_)
    rintro v57_ p62_ w59_ ⟨rfl, rfl⟩ S61_ H60_
    have S63_ := Same.trans S55_ S61_
    refine sv (v := (vB (!(spanB ord x44_)))) (x_not rfl) ?_
    refine wpList_nil (X_then (hK56_ _ _ ?_))
    clear hK56_
    refine C_cond (b := !(spanB ord x44_)) rfl (fun c64_t => ?_) (fun c64_f => ?_)
    ·skip
     refine C_seq (fun K65_ hK65_ => C_reg ?_)
     refine sv (v := (vB false)) (x_assign rfl) ?_
     refine wpList_nil (X_then (hK65_ _ _ ?_))
     clear hK65_
     refine C_ret (X_blkR (X_thenR (X_thenR (X_blkR (X_thenR ?_)))))
     refine R_any (v := (vB false)) (run_results1 rfl rfl) ?_
     have H66_ : Holds w59_ (ro R :: cl b47_ 44 [(Value.string x44_.in__Begin), (Value.string x44_.in__End), (vB x44_.in__Point), (vI .i64 x44_.from_), (vI .i64 x44_.till)] :: cl b2_ 63 [(vI .i64 o.kind), (Value.string o.in__In_Begin), (Value.string o.in__In_End), (vB o.in__In_Point), (vI .i64 o.in__From), (vI .i64 o.in__Till), (vI .i64 o.val), (vI .i64 o.n), (vS none 0 0), (vS none 0 0)] :: F) := Holds.ro_less H60_ hs30_
     have H67_ : Holds w59_ (ro R :: F) := (Holds.pkF H66_ [0] 2 :)
     exact ⟨_, _, rfl, ⟨(congrArg vB ((by rw [← hxe_]; simpa using c64_t) : false = (spanB ord o.sn))), rfl⟩, S63_, H67_⟩
    ·skip
     refine C_skip (X_blkN (X_then (hK42_ _ _ ?_)))
     clear hK42_
     refine C_reg ?_
     refine sv (v := (vI .i64 ((k : Int) + 1))) (x_bin rfl rfl (ib_add (IntWalk.i64_in _ (by omega)))) ?_
     refine sv (v := (vI .i64 ((k : Int) + 1))) (x_move rfl) ?_
     refine wpList_nil (X_then ?_)
     have H68_ : Holds w59_ (ro R29_ :: cl b2_ 63 [(vI .i64 o.kind), (Value.string o.in__In_Begin), (Value.string o.in__In_End), (vB o.in__In_Point), (vI .i64 o.in__From), (vI .i64 o.in__Till), (vI .i64 o.val), (vI .i64 o.n), (vS none 0 0), (vS none 0 0)] :: F) := (Holds.pkF H60_ [0, 1] 1 :)
     exact ⟨⟨k + 1, t4_v⟩, ⟨_, congrArg (fun e => mkA 44 e []) (ch (ch (ch (ch (ch rfl rfl) rfl) rfl) rfl) (congrArg (vI .i64) ((by first | rfl | omega | (simp; done) | (simp; omega)) : (k : Int) + 1 = ((k + 1 : Nat) : Int)))), H68_, S63_, (by first | assumption | omega | exact rfl), (fun _ => by rw [← hxe_]; simpa using c64_f)⟩, by first | omega | (dsimp only; omega) | (simp; omega)⟩
   ·have c41_fp : ¬ ((k : Int) < 1) := of_decide_eq_false c41_f
    refine C_exit (X_thenX (X_thenX (X_blkHit ?_)))
    refine (X_then (hK13_ _ _ ?_))
    clear hK13_
    refine C_seq (fun K69_ hK69_ => C_reg ?_)
    refine sv (v := (vB true)) (x_assign rfl) ?_
    refine wpList_nil (X_then (hK69_ _ _ ?_))
    clear hK69_
    refine C_ret ?_
    refine R_any (v := (vB true)) (run_results1 rfl rfl) ?_
    have H70_ : Holds w36_ (ro R :: cl b2_ 63 [(vI .i64 o.kind), (Value.string o.in__In_Begin), (Value.string o.in__In_End), (vB o.in__In_Point), (vI .i64 o.in__From), (vI .i64 o.in__Till), (vI .i64 o.val), (vI .i64 o.n), (vS none 0 0), (vS none 0 0)] :: F) := Holds.ro_less H37_ hs30_
    have H71_ : Holds w36_ (ro R :: F) := (Holds.pkF H70_ [0] 1 :)
    exact ⟨_, _, rfl, ⟨(congrArg vB ((hsp (by omega)).symm : true = (spanB ord o.sn))), rfl⟩, S38_, H71_⟩

set_option maxHeartbeats 1600000 in
theorem lwFits36 (R : HP) (s : SN) :
    Tri Try.prog 29 #[(vA #[(Value.string s.in__Begin), (Value.string s.in__End), (vB s.in__Point), (vI .i64 s.from_), (vI .i64 s.till)])] R [] (fun v__ post__ => ∃ (b : Bool), v__ = (vB b) ∧ post__ = [] ∧ (b = true → SSz s)) := by
 refine Tri.into (n := 7) (al := [(vA #[(Value.string s.in__Begin), (Value.string s.in__End), (vB s.in__Point), (vI .i64 s.from_), (vI .i64 s.till)])]) Try.func29 rfl Try.ntmps29 rfl rfl fun w F H => ?_
 refine C_seq (fun K1_ hK1_ => C_reg ?_)
 refine S_list (T_box (v := (vA #[(Value.string s.in__Begin), (Value.string s.in__End), (vB s.in__Point), (vI .i64 s.from_), (vI .i64 s.till)])) rfl H ?_)
 intro b2_ w3_ S5_ H4_
 have S6_ := Same.trans (Same.refl w) S5_
 refine sv (v := (vB false)) (x_assign rfl) ?_
 refine wpList_nil (X_then (hK1_ _ _ ?_))
 clear hK1_
 refine C_seq (fun K7_ hK7_ => ?_)
 refine C_seq (fun K8_ hK8_ => C_reg ?_)
 refine sv (v := (vQ b2_)) (by kernel_rfl) ?_
 refine sv (v := (vA #[(Value.string s.in__Begin), (Value.string s.in__End), (vB s.in__Point)])) (x_loadN (vs := [(Value.string s.in__Begin), (Value.string s.in__End), (vB s.in__Point)]) rfl Try.underlying42 rfl z42 rfl (Rd.cells (Holds.rd H4_ 0 rfl) 0 rfl)) ?_
 refine S_list (T_callW (al := [(vA #[(Value.string s.in__Begin), (Value.string s.in__End), (vB s.in__Point)])]) rfl rfl cb58 (Calls.into (n := 11) (al := [(vA #[(Value.string s.in__Begin), (Value.string s.in__End), (vB s.in__Point)])]) Try.func58 rfl Try.ntmps58 rfl rfl ?_))
 refine C_seq (fun K9_ hK9_ => C_reg ?_)
 refine S_list (T_box (v := (vA #[(Value.string s.in__Begin), (Value.string s.in__End), (vB s.in__Point)])) rfl H4_ ?_)
 intro b10_ w11_ S13_ H12_
 have S14_ := Same.trans S6_ S13_
 refine sv (v := (vB false)) (x_assign rfl) ?_
 refine wpList_nil (X_then (hK9_ _ _ ?_))
 clear hK9_
 refine C_seq (fun K15_ hK15_ => ?_)
 refine C_seq (fun K16_ hK16_ => C_reg ?_)
 refine sv (v := (vQ b10_)) (by kernel_rfl) ?_
 refine sv (v := (Value.string s.in__Begin)) (x_load1 rfl Try.underlying9 rfl ((Holds.rd H12_ 0 rfl) 0 (Value.string s.in__Begin) rfl)) ?_
 refine sv (v := (vI .i64 (s.in__Begin.size : Int))) (x_lenT rfl Try.underlying9) ?_
 refine sv (v := (vB (decide (2147483647 < (s.in__Begin.size : Int))))) (x_bin rfl rfl rfl) ?_
 refine wpList_nil (X_then (hK16_ _ _ ?_))
 clear hK16_
 refine C_cond (b := decide (2147483647 < (s.in__Begin.size : Int))) rfl (fun c17_t => ?_) (fun c17_f => ?_)
 ·have c17_tp : 2147483647 < (s.in__Begin.size : Int) := of_decide_eq_true c17_t
  refine C_seq (fun K18_ hK18_ => C_reg ?_)
  refine sv (v := (vB false)) (x_assign rfl) ?_
  refine wpList_nil (X_then (hK18_ _ _ ?_))
  clear hK18_
  refine C_ret (X_thenR ?_)
  refine R_any (v := (vB false)) (run_results1 rfl rfl) ⟨_, rfl, ?_⟩
  refine sv (v := (vB true)) (x_cast (x_not (b := false) rfl) rfl) ?_
  refine wpList_nil (X_then (hK8_ _ _ ?_))
  clear hK8_
  refine C_condT rfl ?_
  refine C_seq (fun K19_ hK19_ => C_reg ?_)
  refine sv (v := (vB false)) (x_assign rfl) ?_
  refine wpList_nil (X_then (hK19_ _ _ ?_))
  clear hK19_
  refine C_ret (X_thenR ?_)
  refine R_any (v := (vB false)) (run_results1 rfl rfl) ?_
  have H20_ : Holds w11_ (ro R :: F) := (Holds.pkF H12_ [2] 2 :)
  exact ⟨_, _, rfl, ⟨false, rfl, rfl, (fun h => by cases h)⟩, S14_, H20_⟩
 ·have c17_fp : ¬ (2147483647 < (s.in__Begin.size : Int)) := of_decide_eq_false c17_f
  refine C_skip (X_then (hK15_ _ _ ?_))
  clear hK15_
  refine C_seq (fun K21_ hK21_ => ?_)
  refine C_seq (fun K22_ hK22_ => C_reg ?_)
  refine sv (v := (vP (some ⟨b10_, 1, none⟩))) (by kernel_rfl) ?_
  refine sv (v := (Value.string s.in__End)) (x_load1 rfl Try.underlying9 rfl ((Holds.rd H12_ 0 rfl) 1 (Value.string s.in__End) rfl)) ?_
  refine sv (v := (vI .i64 (s.in__End.size : Int))) (x_lenT rfl Try.underlying9) ?_
  refine sv (v := (vB (decide (2147483647 < (s.in__End.size : Int))))) (x_bin rfl rfl rfl) ?_
  refine wpList_nil (X_then (hK22_ _ _ ?_))
  clear hK22_
  refine C_cond (b := decide (2147483647 < (s.in__End.size : Int))) rfl (fun c23_t => ?_) (fun c23_f => ?_)
  ·have c23_tp : 2147483647 < (s.in__End.size : Int) := of_decide_eq_true c23_t
   refine C_seq (fun K24_ hK24_ => C_reg ?_)
   refine sv (v := (vB false)) (x_assign rfl) ?_
   refine wpList_nil (X_then (hK24_ _ _ ?_))
   clear hK24_
   refine C_ret (X_thenR ?_)
   refine R_any (v := (vB false)) (run_results1 rfl rfl) ⟨_, rfl, ?_⟩
   refine sv (v := (vB true)) (x_cast (x_not (b := false) rfl) rfl) ?_
   refine wpList_nil (X_then (hK8_ _ _ ?_))
   clear hK8_
   refine C_condT rfl ?_
   refine C_seq (fun K25_ hK25_ => C_reg ?_)
   refine sv (v := (vB false)) (x_assign rfl) ?_
   refine wpList_nil (X_then (hK25_ _ _ ?_))
   clear hK25_
   refine C_ret (X_thenR ?_)
   refine R_any (v := (vB false)) (run_results1 rfl rfl) ?_
   have H26_ : Holds w11_ (ro R :: F) := (Holds.pkF H12_ [2] 2 :)
   exact ⟨_, _, rfl, ⟨false, rfl, rfl, (fun h => by cases h)⟩, S14_, H26_⟩
  ·have c23_fp : ¬ (2147483647 < (s.in__End.size : Int)) := of_decide_eq_false c23_f
   refine C_skip (X_then (hK21_ _ _ ?_))
   clear hK21_
   refine C_seq (fun K27_ hK27_ => C_reg ?_)
   refine sv (v := (vB true)) (x_assign rfl) ?_
   refine wpList_nil (X_then (hK27_ _ _ ?_))
   clear hK27_
   refine C_ret ?_
   refine R_any (v := (vB true)) (run_results1 rfl rfl) ⟨_, rfl, ?_⟩
   refine sv (v := (vB false)) (x_cast (x_not (b := true) rfl) rfl) ?_
   refine wpList_nil (X_then (hK8_ _ _ ?_))
   clear hK8_
   refine C_condF rfl ?_
   refine C_skip (X_then (hK7_ _ _ ?_))
   clear hK7_
   refine C_seq (fun K28_ hK28_ => C_reg ?_)
   refine sv (v := (vB true)) (x_assign rfl) ?_
   refine wpList_nil (X_then (hK28_ _ _ ?_))
   clear hK28_
   refine C_ret ?_
   refine R_any (v := (vB true)) (run_results1 rfl rfl) ?_
   have H29_ : Holds w11_ (ro R :: F) := (Holds.pkF H12_ [2] 2 :)
   exact ⟨_, _, rfl, ⟨true, rfl, rfl, (fun _ => ⟨by omega, by omega⟩)⟩, S14_, H29_⟩

set_option maxHeartbeats 1600000 in
theorem lwFits38 (R : HP) (v : Value) (l : List SN) (hv : RS R 5 v (List.length l) (l.flatMap SN.cells)) :
    Tri Try.prog 28 #[v] R [] (fun v__ post__ => ∃ (b : Bool), v__ = (vB b) ∧ post__ = [] ∧ (b = true → l.length ≤ 2147483647 ∧ ∀ s ∈ l, SSz s)) := by
 refine Tri.into (n := 18) (al := [v]) Try.func28 rfl Try.ntmps28 rfl rfl fun w F H => ?_
 refine C_seq (fun K1_ hK1_ => C_reg ?_)
 refine sv (v := (vB false)) (x_assign rfl) ?_
 refine wpList_nil (X_then (hK1_ _ _ ?_))
 clear hK1_
 refine C_seq (fun K2_ hK2_ => ?_)
 refine C_seq (fun K3_ hK3_ => C_reg ?_)
 refine sv (v := v) (x_move rfl) ?_
 refine sv (v := (vI .i64 ((List.length l) : Int))) (x_lenRS rfl hv Try.underlying30) ?_
 refine sv (v := (vB (decide (2147483647 < ((List.length l) : Int))))) (x_bin rfl rfl rfl) ?_
 refine wpList_nil (X_then (hK3_ _ _ ?_))
 clear hK3_
 refine C_cond (b := decide (2147483647 < ((List.length l) : Int))) rfl (fun c4_t => ?_) (fun c4_f => ?_)
 ·have c4_tp : 2147483647 < ((List.length l) : Int) := of_decide_eq_true c4_t
  refine C_seq (fun K5_ hK5_ => C_reg ?_)
  refine sv (v := (vB false)) (x_assign rfl) ?_
  refine wpList_nil (X_then (hK5_ _ _ ?_))
  clear hK5_
  refine C_ret (X_thenR ?_)
  refine R_any (v := (vB false)) (run_results1 rfl rfl) ?_
  exact ⟨_, _, rfl, ⟨false, rfl, rfl, (fun h => by cases h)⟩, (Same.refl w), H⟩
 ·have c4_fp : ¬ (2147483647 < ((List.length l) : Int)) := of_decide_eq_false c4_f
  refine C_skip (X_then (hK2_ _ _ ?_))
  clear hK2_
  refine C_seq (fun K6_ hK6_ => ?_)
  refine C_seq (fun K7_ hK7_ => C_reg ?_)
  refine sv (v := v) (x_move rfl) ?_
  refine sv (v := (vI .i64 ((List.length l) : Int))) (x_lenRS rfl hv Try.underlying30) ?_
  refine sv (v := (vI .i64 0)) (x_move rfl) ?_
  refine wpList_nil (X_then (hK7_ _ _ ?_))
  clear hK7_
  refine C_block ?_
  refine C_loop (γ := Nat × Bool) (fun x__ a__ w1__ => match x__ with | ⟨k, t2_v⟩ => ∃ h : Env, a__ = mkA 18 (upd (upd (upd (upd h 2 (vB t2_v)) 8 v) 9 (vI .i64 ((List.length l) : Int))) 10 (vI .i64 (k : Int))) [] ∧ Holds w1__ (ro R :: F) ∧ Same w w1__ ∧ (k ≤ l.length) ∧ (∀ s ∈ l.take k, SSz s)) (fun x__ => match x__ with | ⟨k, t2_v⟩ => l.length - k) (⟨0, false⟩) ⟨_, congrArg (fun e => mkA 18 e []) (ch (ch (ch (ch rfl rfl) rfl) rfl) (congrArg (vI .i64) ((by first | rfl | omega | (simp; done) | (simp; omega)) : 0 = (0 : Int)))), H, (Same.refl w), (by first | assumption | omega | exact rfl), (fun s h => by simp at h)⟩ ?_
  rintro ⟨k, t2_v⟩ _ w8_ ⟨h, rfl, H9_, S10_, hkk, hok⟩
  refine C_seq (fun K11_ hK11_ => C_reg ?_)
  refine sv (v := (vB (decide ((k : Int) < ((List.length l) : Int))))) (x_bin rfl rfl rfl) ?_
  refine wpList_nil (X_then (hK11_ _ _ ?_))
  clear hK11_
  refine C_seq (fun K12_ hK12_ => ?_)
  refine C_cond (b := decide ((k : Int) < ((List.length l) : Int))) rfl (fun c13_t => ?_) (fun c13_f => ?_)
  ·have c13_tp : (k : Int) < ((List.length l) : Int) := of_decide_eq_true c13_t
   refine C_skip (X_then (hK12_ _ _ ?_))
   clear hK12_
   refine C_seq (fun K14_ hK14_ => ?_)
   refine C_block ?_
   refine C_seq (fun K15_ hK15_ => C_reg ?_)
   obtain ⟨x16_, hx17_, hm18_⟩ := elem_at l k (by omega)
   refine sv (v := (vP (some ⟨(sb v), so v + (k * 5 + 0), none⟩))) (x_idxRS (v := v) rfl hv rfl Try.underlying30 z44 (by omega) (by omega) (by omega : _ = k) rfl) ?_
   refine sv (v := (vA #[(Value.string x16_.in__Begin), (Value.string x16_.in__End), (vB x16_.in__Point), (vI .i64 x16_.from_), (vI .i64 x16_.till)])) (x_loadN (vs := [(Value.string x16_.in__Begin), (Value.string x16_.in__End), (vB x16_.in__Point), (vI .i64 x16_.from_), (vI .i64 x16_.till)]) rfl Try.underlying44 rfl z44 rfl (RC.cells (RS.rc hv) (Holds.ro_at H9_ 0 rfl) (k * 5 + 0) (fm_cells SN.len hx17_ (i := 0) rfl))) ?_
   refine S_list (T_alloc z44 H9_ ?_)
   intro b19_ w20_ S22_ H21_
   have S23_ := Same.trans S10_ S22_
   refine S_list0 (T_storeN (vs := [(Value.string x16_.in__Begin), (Value.string x16_.in__End), (vB x16_.in__Point), (vI .i64 x16_.from_), (vI .i64 x16_.till)]) rfl rfl z44 rfl (by simp [Value.oneCell']) H21_ 0 rfl (Nat.le_of_ble_eq_true (by rfl)) ?_)
   intro w24_ S26_ H25_
   have S27_ := Same.trans S23_ S26_
   refine wpList_nil (X_then (hK15_ _ _ ?_))
   clear hK15_
   refine C_seq (fun K28_ hK28_ => C_reg ?_)
   refine sv (v := (vA #[(Value.string x16_.in__Begin), (Value.string x16_.in__End), (vB x16_.in__Point), (vI .i64 x16_.from_), (vI .i64 x16_.till)])) (x_loadN (vs := [(Value.string x16_.in__Begin), (Value.string x16_.in__End), (vB x16_.in__Point), (vI .i64 x16_.from_), (vI .i64 x16_.till)]) rfl Try.underlying44 rfl z44 rfl (Rd.cells (Holds.rd H25_ 0 rfl) 0 rfl)) ?_
   have H32_ := ((Holds.bring H25_ 1 rfl) :)
   refine S_list (T_call (al := [(vA #[(Value.string x16_.in__Begin), (Value.string x16_.in__End), (vB x16_.in__Point), (vI .i64 x16_.from_), (vI .i64 x16_.till)])]) (pre := []) rfl rfl cb29 (lwFits36 R x16_) H32_ ?_)
   rintro v29_ p36_ w33_ ⟨b30_, rfl, rfl, he31_⟩ S35_ H34_
   have S37_ := Same.trans S27_ S35_
   refine sv (v := (vB (!b30_))) (x_not rfl) ?_
   refine wpList_nil (X_then (hK28_ _ _ ?_))
   clear hK28_
   refine C_cond (b := !b30_) rfl (fun c38_t => ?_) (fun c38_f => ?_)
   ·skip
    refine C_seq (fun K39_ hK39_ => C_reg ?_)
    refine sv (v := (vB false)) (x_assign rfl) ?_
    refine wpList_nil (X_then (hK39_ _ _ ?_))
    clear hK39_
    refine C_ret (X_blkR (X_thenR (X_thenR (X_blkR (X_thenR ?_)))))
    refine R_any (v := (vB false)) (run_results1 rfl rfl) ?_
    have H40_ : Holds w33_ (ro R :: F) := (Holds.pkF H34_ [0] 1 :)
    exact ⟨_, _, rfl, ⟨false, rfl, rfl, (fun h => by cases h)⟩, S37_, H40_⟩
   ·skip
    refine C_skip (X_blkN (X_then (hK14_ _ _ ?_)))
    clear hK14_
    refine C_reg ?_
    refine sv (v := (vI .i64 ((k : Int) + 1))) (x_bin rfl rfl (ib_add (IntWalk.i64_in _ (by omega)))) ?_
    refine sv (v := (vI .i64 ((k : Int) + 1))) (x_move rfl) ?_
    refine wpList_nil (X_then ?_)
    have H41_ : Holds w33_ (ro R :: F) := (Holds.pkF H34_ [0] 1 :)
    exact ⟨⟨k + 1, t2_v⟩, ⟨_, congrArg (fun e => mkA 18 e []) (ch (ch (ch (ch rfl rfl) rfl) rfl) (congrArg (vI .i64) ((by first | rfl | omega | (simp; done) | (simp; omega)) : (k : Int) + 1 = ((k + 1 : Nat) : Int)))), H41_, S37_, (by first | assumption | omega | exact rfl), (all_snoc (Q := SSz) hok hx17_ (he31_ (by simpa using c38_f)))⟩, by first | omega | (dsimp only; omega) | (simp; omega)⟩
  ·have c13_fp : ¬ ((k : Int) < ((List.length l) : Int)) := of_decide_eq_false c13_f
   refine C_exit (X_thenX (X_thenX (X_blkHit ?_)))
   refine (X_then (hK6_ _ _ ?_))
   clear hK6_
   refine C_seq (fun K42_ hK42_ => C_reg ?_)
   refine sv (v := (vB true)) (x_assign rfl) ?_
   refine wpList_nil (X_then (hK42_ _ _ ?_))
   clear hK42_
   refine C_ret ?_
   refine R_any (v := (vB true)) (run_results1 rfl rfl) ?_
   exact ⟨_, _, rfl, ⟨true, rfl, rfl, (fun _ => ⟨by omega, fun s hm => hok s (by rw [List.take_of_length_le (by omega)]; exact hm)⟩)⟩, S10_, H9_⟩

set_option maxHeartbeats 8000000 in
theorem lwSame (R : HP) (ord : Int) (a b : TA) (x y : TAx) (ha : AnsAt R a x) (hb : AnsAt R b y) (hg : Agree ord x y) :
    Tri Try.prog 31 #[(vI .i64 ord), (vA #[(vB a.oK), (vI .i64 a.n), (vI .i64 a.most), a.list, a.vals]), (vA #[(vB b.oK), (vI .i64 b.n), (vI .i64 b.most), b.list, b.vals])] R [] (fun v__ post__ => v__ = (vB true) ∧ post__ = []) := by
 have hoks_ : a.oK = b.oK := by rw [ha.1, hb.1, hg.ok]
 have hns_ : a.n = b.n := by rw [ha.2.1, hb.2.1, hg.n]
 have hll_ := hg.l
 have hvl_ : x.V.length = y.V.length := by rw [hg.v]
 have hbb_ := hg.b
 refine Tri.into (n := 86) (al := [(vI .i64 ord), (vA #[(vB a.oK), (vI .i64 a.n), (vI .i64 a.most), a.list, a.vals]), (vA #[(vB b.oK), (vI .i64 b.n), (vI .i64 b.most), b.list, b.vals])]) Try.func31 rfl Try.ntmps31 rfl rfl fun w F H => ?_
 refine C_seq (fun K1_ hK1_ => C_reg ?_)
 refine S_list (T_box (v := (vA #[(vB a.oK), (vI .i64 a.n), (vI .i64 a.most), a.list, a.vals])) rfl H ?_)
 intro b2_ w3_ S5_ H4_
 have S6_ := Same.trans (Same.refl w) S5_
 refine S_list (T_box (v := (vA #[(vB b.oK), (vI .i64 b.n), (vI .i64 b.most), b.list, b.vals])) rfl H4_ ?_)
 intro b7_ w8_ S10_ H9_
 have S11_ := Same.trans S6_ S10_
 refine sv (v := (vB false)) (x_assign rfl) ?_
 refine wpList_nil (X_then (hK1_ _ _ ?_))
 clear hK1_
 refine C_seq (fun K12_ hK12_ => ?_)
 refine C_seq (fun K13_ hK13_ => C_reg ?_)
 refine sv (v := (vQ b2_)) (by kernel_rfl) ?_
 refine sv (v := (vB a.oK)) (x_load1 rfl Try.underlying4 rfl ((Holds.rd H9_ 1 rfl) 0 (vB a.oK) rfl)) ?_
 refine sv (v := (vQ b7_)) (by kernel_rfl) ?_
 refine sv (v := (vB b.oK)) (x_load1 rfl Try.underlying4 rfl ((Holds.rd H9_ 0 rfl) 0 (vB b.oK) rfl)) ?_
 refine sv (v := (vB (!(a.oK == b.oK)))) (x_neqB rfl rfl Try.underlying4) ?_
 refine sv (v := (vB (!(a.oK == b.oK)))) (x_move rfl) ?_
 rcases Bool.eq_false_or_eq_true (!(a.oK == b.oK)) with c14_t | c14_f
 ·skip
  exact absurd hoks_ (by simpa using c14_t)
 ·skip
  refine S_yes (j := 5) (dj := 14) (b := false) rfl rfl (congrArg vB c14_f) (T_val (v := (vP (some ⟨b2_, 1, none⟩))) (by kernel_rfl) ?_)
  refine S_yes (j := 5) (dj := 14) (b := false) rfl rfl (congrArg vB c14_f) (T_val (v := (vI .i64 a.n)) (x_load1 rfl Try.underlying3 rfl ((Holds.rd H9_ 1 rfl) 1 (vI .i64 a.n) rfl)) ?_)
  refine S_yes (j := 5) (dj := 14) (b := false) rfl rfl (congrArg vB c14_f) (T_val (v := (vP (some ⟨b7_, 1, none⟩))) (by kernel_rfl) ?_)
  refine S_yes (j := 5) (dj := 14) (b := false) rfl rfl (congrArg vB c14_f) (T_val (v := (vI .i64 b.n)) (x_load1 rfl Try.underlying3 rfl ((Holds.rd H9_ 0 rfl) 1 (vI .i64 b.n) rfl)) ?_)
  refine S_yes (j := 5) (dj := 14) (b := false) rfl rfl (congrArg vB c14_f) (T_val (v := (vB (decide (a.n ≠ b.n)))) (x_bin rfl rfl rfl) ?_)
  refine S_list (T_pickF (v := (vB (decide (a.n ≠ b.n)))) (congrArg vB c14_f) rfl ?_)
  refine sv (v := (vB (decide (a.n ≠ b.n)))) (x_move rfl) ?_
  rcases Bool.eq_false_or_eq_true (decide (a.n ≠ b.n)) with c15_t | c15_f
  ·have c15_tp : a.n ≠ b.n := of_decide_eq_true c15_t
   omega
  ·have c15_fp : ¬ (a.n ≠ b.n) := of_decide_eq_false c15_f
   refine S_yes (j := 12) (dj := 21) (b := false) rfl rfl (congrArg vB c15_f) (T_val (v := (vP (some ⟨b2_, 3, none⟩))) (by kernel_rfl) ?_)
   refine S_yes (j := 12) (dj := 21) (b := false) rfl rfl (congrArg vB c15_f) (T_val (v := a.list) (x_load1 rfl Try.underlying30 rfl ((Holds.rd H9_ 1 rfl) 3 a.list rfl)) ?_)
   refine S_yes (j := 12) (dj := 21) (b := false) rfl rfl (congrArg vB c15_f) (T_val (v := (vI .i64 ((List.length x.L) : Int))) (x_lenRS rfl ha.2.2.1 Try.underlying30) ?_)
   refine S_yes (j := 12) (dj := 21) (b := false) rfl rfl (congrArg vB c15_f) (T_val (v := (vP (some ⟨b7_, 3, none⟩))) (by kernel_rfl) ?_)
   refine S_yes (j := 12) (dj := 21) (b := false) rfl rfl (congrArg vB c15_f) (T_val (v := b.list) (x_load1 rfl Try.underlying30 rfl ((Holds.rd H9_ 0 rfl) 3 b.list rfl)) ?_)
   refine S_yes (j := 12) (dj := 21) (b := false) rfl rfl (congrArg vB c15_f) (T_val (v := (vI .i64 ((List.length y.L) : Int))) (x_lenRS rfl hb.2.2.1 Try.underlying30) ?_)
   refine S_yes (j := 12) (dj := 21) (b := false) rfl rfl (congrArg vB c15_f) (T_val (v := (vB (decide (((List.length x.L) : Int) ≠ ((List.length y.L) : Int))))) (x_bin rfl rfl rfl) ?_)
   refine S_list (T_pickF (v := (vB (decide (((List.length x.L) : Int) ≠ ((List.length y.L) : Int))))) (congrArg vB c15_f) rfl ?_)
   refine sv (v := (vB (decide (((List.length x.L) : Int) ≠ ((List.length y.L) : Int))))) (x_move rfl) ?_
   rcases Bool.eq_false_or_eq_true (decide (((List.length x.L) : Int) ≠ ((List.length y.L) : Int))) with c16_t | c16_f
   ·have c16_tp : ((List.length x.L) : Int) ≠ ((List.length y.L) : Int) := of_decide_eq_true c16_t
    omega
   ·have c16_fp : ¬ (((List.length x.L) : Int) ≠ ((List.length y.L) : Int)) := of_decide_eq_false c16_f
    refine S_yes (j := 21) (dj := 30) (b := false) rfl rfl (congrArg vB c16_f) (T_val (v := (vP (some ⟨b2_, 4, none⟩))) (by kernel_rfl) ?_)
    refine S_yes (j := 21) (dj := 30) (b := false) rfl rfl (congrArg vB c16_f) (T_val (v := a.vals) (x_load1 rfl Try.underlying35 rfl ((Holds.rd H9_ 1 rfl) 4 a.vals rfl)) ?_)
    refine S_yes (j := 21) (dj := 30) (b := false) rfl rfl (congrArg vB c16_f) (T_val (v := (vI .i64 ((List.length x.V) : Int))) (x_lenRS rfl ha.2.2.2 Try.underlying35) ?_)
    refine S_yes (j := 21) (dj := 30) (b := false) rfl rfl (congrArg vB c16_f) (T_val (v := (vP (some ⟨b7_, 4, none⟩))) (by kernel_rfl) ?_)
    refine S_yes (j := 21) (dj := 30) (b := false) rfl rfl (congrArg vB c16_f) (T_val (v := b.vals) (x_load1 rfl Try.underlying35 rfl ((Holds.rd H9_ 0 rfl) 4 b.vals rfl)) ?_)
    refine S_yes (j := 21) (dj := 30) (b := false) rfl rfl (congrArg vB c16_f) (T_val (v := (vI .i64 ((List.length y.V) : Int))) (x_lenRS rfl hb.2.2.2 Try.underlying35) ?_)
    refine S_yes (j := 21) (dj := 30) (b := false) rfl rfl (congrArg vB c16_f) (T_val (v := (vB (decide (((List.length x.V) : Int) ≠ ((List.length y.V) : Int))))) (x_bin rfl rfl rfl) ?_)
    refine S_list (T_pickF (v := (vB (decide (((List.length x.V) : Int) ≠ ((List.length y.V) : Int))))) (congrArg vB c16_f) rfl ?_)
    refine wpList_nil (X_then (hK13_ _ _ ?_))
    clear hK13_
    refine C_cond (b := decide (((List.length x.V) : Int) ≠ ((List.length y.V) : Int))) rfl (fun c17_t => ?_) (fun c17_f => ?_)
    ·have c17_tp : ((List.length x.V) : Int) ≠ ((List.length y.V) : Int) := of_decide_eq_true c17_t
     omega
    ·have c17_fp : ¬ (((List.length x.V) : Int) ≠ ((List.length y.V) : Int)) := of_decide_eq_false c17_f
     refine C_skip (X_then (hK12_ _ _ ?_))
     clear hK12_
     refine C_seq (fun K18_ hK18_ => ?_)
     refine C_seq (fun K19_ hK19_ => C_reg ?_)
     refine sv (v := (vP (some ⟨b2_, 3, none⟩))) (by kernel_rfl) ?_
     refine sv (v := a.list) (x_load1 rfl Try.underlying30 rfl ((Holds.rd H9_ 1 rfl) 3 a.list rfl)) ?_
     refine sv (v := (vI .i64 ((List.length x.L) : Int))) (x_lenRS rfl ha.2.2.1 Try.underlying30) ?_
     refine sv (v := (vI .i64 0)) (x_move rfl) ?_
     refine wpList_nil (X_then (hK19_ _ _ ?_))
     clear hK19_
     refine C_block ?_
     refine C_loop (γ := Nat × Bool) (fun x__ a__ w1__ => match x__ with | ⟨k, p6_v⟩ => ∃ h : Env, a__ = mkA 86 (upd (upd (upd (upd (upd (upd h 0 (vI .i64 ord)) 4 (vQ b2_)) 5 (vQ b7_)) 6 (vB p6_v)) 41 (vI .i64 ((List.length x.L) : Int))) 42 (vI .i64 (k : Int))) [] ∧ Holds w1__ (cl b7_ 59 [(vB b.oK), (vI .i64 b.n), (vI .i64 b.most), b.list, b.vals] :: cl b2_ 59 [(vB a.oK), (vI .i64 a.n), (vI .i64 a.most), a.list, a.vals] :: ro R :: F) ∧ Same w w1__ ∧ (k ≤ x.L.length)) (fun x__ => match x__ with | ⟨k, p6_v⟩ => x.L.length - k) (⟨0, false⟩) ⟨_, congrArg (fun e => mkA 86 e []) (ch (ch (ch (ch (ch (ch rfl rfl) rfl) rfl) rfl) rfl) (congrArg (vI .i64) ((by first | rfl | omega | (simp; done) | (simp; omega)) : 0 = (0 : Int)))), H9_, S11_, (by first | assumption | omega | exact rfl)⟩ ?_
     rintro ⟨k, p6_v⟩ _ w20_ ⟨h, rfl, H21_, S22_, hkk⟩
     refine C_seq (fun K23_ hK23_ => C_reg ?_)
     refine sv (v := (vB (decide ((k : Int) < ((List.length x.L) : Int))))) (x_bin rfl rfl rfl) ?_
     refine wpList_nil (X_then (hK23_ _ _ ?_))
     clear hK23_
     refine C_seq (fun K24_ hK24_ => ?_)
     refine C_cond (b := decide ((k : Int) < ((List.length x.L) : Int))) rfl (fun c25_t => ?_) (fun c25_f => ?_)
     ·have c25_tp : (k : Int) < ((List.length x.L) : Int) := of_decide_eq_true c25_t
      refine C_skip (X_then (hK24_ _ _ ?_))
      clear hK24_
      refine C_seq (fun K26_ hK26_ => ?_)
      refine C_block ?_
      refine C_seq (fun K27_ hK27_ => C_reg ?_)
      refine sv (v := (vI .i64 (k : Int))) (x_move rfl) ?_
      refine sv (v := (vI .i64 (k : Int))) (x_assign rfl) ?_
      refine wpList_nil (X_then (hK27_ _ _ ?_))
      clear hK27_
      refine C_seq (fun K28_ hK28_ => ?_)
      refine A_start (S := fun w => Rd b7_ [(vB b.oK), (vI .i64 b.n), (vI .i64 b.most), b.list, b.vals] w ∧ Rd b2_ [(vB a.oK), (vI .i64 a.n), (vI .i64 a.most), a.list, a.vals] w ∧ Sub R (hp w)) (N := 22) foll rfl rfl ?_
      have H29_ := Holds.drew_ H21_
      have hq30_ := And.intro (Holds.rd H29_ 0 rfl) (And.intro (Holds.rd H29_ 1 rfl) ((Holds.ro_at H29_ 2 rfl)))
      refine A_tk 0 (v := (vP (some ⟨b2_, 3, none⟩))) rfl (by kernel_rfl) (fun w hS => by kernel_rfl) hq30_ ?_
      refine A_tk 1 (v := a.list) rfl (by kernel_rfl) (fun w hS => x_load1 rfl Try.underlying30 rfl (hS.2.1 3 a.list rfl)) hq30_ ?_
      refine A_tk 2 (v := (vI .i64 (k : Int))) rfl (by kernel_rfl) (fun w hS => x_move rfl) hq30_ ?_
      obtain ⟨x31_, hx32_, hm33_⟩ := elem_at x.L k (by omega)
      have hpt_ := hg.p x31_ hm33_
      have hzx_ := hg.z.1 x31_ hm33_
      refine A_tk 3 (v := (vP (some ⟨(sb a.list), so a.list + (k * 5 + 0), none⟩))) rfl (by kernel_rfl) (fun w hS => x_idxRS (v := a.list) rfl ha.2.2.1 rfl Try.underlying30 z44 (by omega) (by omega) (by omega : _ = k) rfl) hq30_ ?_
      refine A_tk 4 (v := (vP (some ⟨(sb a.list), so a.list + (k * 5 + 0), none⟩))) rfl (by kernel_rfl) (fun w hS => by kernel_rfl) hq30_ ?_
      refine A_tk 5 (v := (vP (some ⟨(sb a.list), so a.list + (k * 5 + 2), none⟩))) rfl (by kernel_rfl) (fun w hS => by kernel_rfl) hq30_ ?_
      refine A_tk 6 (v := (vB x31_.in__Point)) rfl (by kernel_rfl) (fun w hS => x_load1 rfl Try.underlying4 rfl (RC.cell (RS.rc ha.2.2.1) hS.2.2 (j := k * 5 + 2) (u := (vB x31_.in__Point)) (fm_cell SN.len hx32_ (i := 2) rfl))) hq30_ ?_
      refine A_tk 7 (v := (vB x31_.in__Point)) rfl (by kernel_rfl) (fun w hS => x_move rfl) hq30_ ?_
      rcases Bool.eq_false_or_eq_true (x31_.in__Point) with c34_t | c34_f
      ·skip
       exact absurd hpt_ (by rw [c34_t]; decide)
      ·skip
       refine A_tkY 8 (j := 7) (dj := 52) (b := false) (v := (vI .i64 ord)) rfl (by kernel_rfl) rfl rfl (congrArg vB c34_f) (fun w hS => x_move rfl) hq30_ ?_
       refine A_tkY 9 (j := 7) (dj := 52) (b := false) (v := (vP (some ⟨b2_, 3, none⟩))) rfl (by kernel_rfl) rfl rfl (congrArg vB c34_f) (fun w hS => by kernel_rfl) hq30_ ?_
       refine A_tkY 10 (j := 7) (dj := 52) (b := false) (v := a.list) rfl (by kernel_rfl) rfl rfl (congrArg vB c34_f) (fun w hS => x_load1 rfl Try.underlying30 rfl (hS.2.1 3 a.list rfl)) hq30_ ?_
       refine A_tkY 11 (j := 7) (dj := 52) (b := false) (v := (vI .i64 (k : Int))) rfl (by kernel_rfl) rfl rfl (congrArg vB c34_f) (fun w hS => x_move rfl) hq30_ ?_
       refine A_tkY 12 (j := 7) (dj := 52) (b := false) (v := (vP (some ⟨(sb a.list), so a.list + (k * 5 + 0), none⟩))) rfl (by kernel_rfl) rfl rfl (congrArg vB c34_f) (fun w hS => x_idxRS (v := a.list) rfl ha.2.2.1 rfl Try.underlying30 z44 (by omega) (by omega) (by omega : _ = k) rfl) hq30_ ?_
       refine A_tkY 13 (j := 7) (dj := 52) (b := false) (v := (vA #[(Value.string x31_.in__Begin), (Value.string x31_.in__End), (vB x31_.in__Point), (vI .i64 x31_.from_), (vI .i64 x31_.till)])) rfl (by kernel_rfl) rfl rfl (congrArg vB c34_f) (fun w hS => x_loadN (vs := [(Value.string x31_.in__Begin), (Value.string x31_.in__End), (vB x31_.in__Point), (vI .i64 x31_.from_), (vI .i64 x31_.till)]) rfl Try.underlying44 rfl z44 rfl (RC.cells (RS.rc ha.2.2.1) hS.2.2 (k * 5 + 0) (fm_cells SN.len hx32_ (i := 0) rfl))) hq30_ ?_
       refine A_tkY 14 (j := 7) (dj := 52) (b := false) (v := (vP (some ⟨b7_, 3, none⟩))) rfl (by kernel_rfl) rfl rfl (congrArg vB c34_f) (fun w hS => by kernel_rfl) hq30_ ?_
       refine A_tkY 15 (j := 7) (dj := 52) (b := false) (v := b.list) rfl (by kernel_rfl) rfl rfl (congrArg vB c34_f) (fun w hS => x_load1 rfl Try.underlying30 rfl (hS.1 3 b.list rfl)) hq30_ ?_
       refine A_tkY 16 (j := 7) (dj := 52) (b := false) (v := (vI .i64 (k : Int))) rfl (by kernel_rfl) rfl rfl (congrArg vB c34_f) (fun w hS => x_move rfl) hq30_ ?_
       obtain ⟨x35_, hx36_, hm37_⟩ := elem_at y.L k (by omega)
       have hzy_ := hg.z.2 x35_ hm37_
       refine A_tkY 17 (j := 7) (dj := 52) (b := false) (v := (vP (some ⟨(sb b.list), so b.list + (k * 5 + 0), none⟩))) rfl (by kernel_rfl) rfl rfl (congrArg vB c34_f) (fun w hS => x_idxRS (v := b.list) rfl hb.2.2.1 rfl Try.underlying30 z44 (by omega) (by omega) (by omega : _ = k) rfl) hq30_ ?_
       refine A_tkY 18 (j := 7) (dj := 52) (b := false) (v := (vA #[(Value.string x35_.in__Begin), (Value.string x35_.in__End), (vB x35_.in__Point), (vI .i64 x35_.from_), (vI .i64 x35_.till)])) rfl (by kernel_rfl) rfl rfl (congrArg vB c34_f) (fun w hS => x_loadN (vs := [(Value.string x35_.in__Begin), (Value.string x35_.in__End), (vB x35_.in__Point), (vI .i64 x35_.from_), (vI .i64 x35_.till)]) rfl Try.underlying44 rfl z44 rfl (RC.cells (RS.rc hb.2.2.1) hS.2.2 (k * 5 + 0) (fm_cells SN.len hx36_ (i := 0) rfl))) hq30_ ?_
       refine A_ready (i := 19) (rs := []) (by kernel_rfl) ?_
       refine AllR.cons ?_ AllR.nil
       have H39_ := ((Holds.bring H29_ 2 rfl) :)
       refine A_opYes (ls' := #[true, true, true, true, true, true, true, true, true, true, true, true, true, true, true, true, true, true, true, true, false, false]) (j := 7) (dj := 52) (b := false) rfl (by kernel_rfl) rfl rfl (congrArg vB c34_f) (T_call (al := [(vI .i64 ord), (vA #[(Value.string x31_.in__Begin), (Value.string x31_.in__End), (vB x31_.in__Point), (vI .i64 x31_.from_), (vI .i64 x31_.till)]), (vA #[(Value.string x35_.in__Begin), (Value.string x35_.in__End), (vB x35_.in__Point), (vI .i64 x35_.from_), (vI .i64 x35_.till)])]) (pre := []) rfl rfl cb20 (spSame R ord x31_ x35_ (hzx_) (hzy_)) H39_ ?_)
       rintro v38_ p43_ w40_ ⟨rfl, rfl⟩ S42_ H41_
       have S44_ := Same.trans (Same.trans S22_ (Same.drew _)) S42_
       refine ⟨⟨Holds.rd H41_ 1 rfl, Holds.rd H41_ 2 rfl, (Holds.ro_at H41_ 0 rfl)⟩, ?_⟩
       have hq45_ := And.intro (Holds.rd H41_ 1 rfl) (And.intro (Holds.rd H41_ 2 rfl) ((Holds.ro_at H41_ 0 rfl)))
       refine A_tkY 20 (j := 7) (dj := 52) (b := false) (v := (vB (!(sSame ord x31_ x35_)))) rfl (by kernel_rfl) rfl rfl (congrArg vB c34_f) (fun w hS => x_not rfl) hq45_ ?_
       refine A_tk 21 (v := (vB (!(sSame ord x31_ x35_)))) rfl (by kernel_rfl) (fun w hS => (x_pickF (congrArg vB c34_f) rfl)) hq45_ ?_
       refine A_done (by kernel_rfl) ?_
       refine (X_then (hK28_ _ _ ?_))
       clear hK28_
       refine C_cond (b := !(sSame ord x31_ x35_)) rfl (fun c46_t => ?_) (fun c46_f => ?_)
       ·skip
        exact absurd (hg.s k x31_ x35_ hx32_ hx36_) (by simpa using c46_t)
       ·skip
        refine C_skip (X_blkN (X_then (hK26_ _ _ ?_)))
        clear hK26_
        refine C_reg ?_
        refine sv (v := (vI .i64 ((k : Int) + 1))) (x_bin rfl rfl (ib_add (IntWalk.i64_in _ (by omega)))) ?_
        refine sv (v := (vI .i64 ((k : Int) + 1))) (x_move rfl) ?_
        refine wpList_nil (X_then ?_)
        have H47_ : Holds w40_ (cl b7_ 59 [(vB b.oK), (vI .i64 b.n), (vI .i64 b.most), b.list, b.vals] :: cl b2_ 59 [(vB a.oK), (vI .i64 a.n), (vI .i64 a.most), a.list, a.vals] :: ro R :: F) := (Holds.pkF H41_ [1, 1, 0] 0 :)
        exact ⟨⟨k + 1, p6_v⟩, ⟨_, congrArg (fun e => mkA 86 e []) (ch (ch (ch (ch (ch (ch rfl rfl) rfl) rfl) rfl) rfl) (congrArg (vI .i64) ((by first | rfl | omega | (simp; done) | (simp; omega)) : (k : Int) + 1 = ((k + 1 : Nat) : Int)))), H47_, S44_, (by first | assumption | omega | exact rfl)⟩, by first | omega | (dsimp only; omega) | (simp; omega)⟩
     ·have c25_fp : ¬ ((k : Int) < ((List.length x.L) : Int)) := of_decide_eq_false c25_f
      refine C_exit (X_thenX (X_thenX (X_blkHit ?_)))
      refine (X_then (hK18_ _ _ ?_))
      clear hK18_
      refine C_seq (fun K48_ hK48_ => ?_)
      refine C_seq (fun K49_ hK49_ => C_reg ?_)
      refine sv (v := (vP (some ⟨b2_, 4, none⟩))) (by kernel_rfl) ?_
      refine sv (v := a.vals) (x_load1 rfl Try.underlying35 rfl ((Holds.rd H21_ 1 rfl) 4 a.vals rfl)) ?_
      refine sv (v := (vI .i64 ((List.length x.V) : Int))) (x_lenRS rfl ha.2.2.2 Try.underlying35) ?_
      refine sv (v := (vI .i64 0)) (x_move rfl) ?_
      refine wpList_nil (X_then (hK49_ _ _ ?_))
      clear hK49_
      refine C_block ?_
      refine C_loop (γ := Nat × Bool) (fun x__ a__ w1__ => match x__ with | ⟨k, p6_v⟩ => ∃ h : Env, a__ = mkA 86 (upd (upd (upd (upd (upd h 4 (vQ b2_)) 5 (vQ b7_)) 6 (vB p6_v)) 70 (vI .i64 ((List.length x.V) : Int))) 71 (vI .i64 (k : Int))) [] ∧ Holds w1__ (cl b7_ 59 [(vB b.oK), (vI .i64 b.n), (vI .i64 b.most), b.list, b.vals] :: cl b2_ 59 [(vB a.oK), (vI .i64 a.n), (vI .i64 a.most), a.list, a.vals] :: ro R :: F) ∧ Same w w1__ ∧ (k ≤ x.V.length)) (fun x__ => match x__ with | ⟨k, p6_v⟩ => x.V.length - k) (⟨0, p6_v⟩) ⟨_, congrArg (fun e => mkA 86 e []) (ch (ch (ch (ch (ch rfl rfl) rfl) rfl) rfl) (congrArg (vI .i64) ((by first | rfl | omega | (simp; done) | (simp; omega)) : 0 = (0 : Int)))), H21_, S22_, (by first | assumption | omega | exact rfl)⟩ ?_
      rintro ⟨k, p6_v⟩ _ w50_ ⟨h, rfl, H51_, S52_, hkk⟩
      refine C_seq (fun K53_ hK53_ => C_reg ?_)
      refine sv (v := (vB (decide ((k : Int) < ((List.length x.V) : Int))))) (x_bin rfl rfl rfl) ?_
      refine wpList_nil (X_then (hK53_ _ _ ?_))
      clear hK53_
      refine C_seq (fun K54_ hK54_ => ?_)
      refine C_cond (b := decide ((k : Int) < ((List.length x.V) : Int))) rfl (fun c55_t => ?_) (fun c55_f => ?_)
      ·have c55_tp : (k : Int) < ((List.length x.V) : Int) := of_decide_eq_true c55_t
       refine C_skip (X_then (hK54_ _ _ ?_))
       clear hK54_
       refine C_seq (fun K56_ hK56_ => ?_)
       refine C_block ?_
       refine C_seq (fun K57_ hK57_ => C_reg ?_)
       refine sv (v := (vI .i64 (k : Int))) (x_move rfl) ?_
       refine sv (v := (vI .i64 (k : Int))) (x_assign rfl) ?_
       refine wpList_nil (X_then (hK57_ _ _ ?_))
       clear hK57_
       refine C_seq (fun K58_ hK58_ => ?_)
       refine A_start (S := fun w => Rd b7_ [(vB b.oK), (vI .i64 b.n), (vI .i64 b.most), b.list, b.vals] w ∧ Rd b2_ [(vB a.oK), (vI .i64 a.n), (vI .i64 a.most), a.list, a.vals] w ∧ Sub R (hp w)) (N := 11) foll rfl rfl ?_
       have H59_ := Holds.drew_ H51_
       have hq60_ := And.intro (Holds.rd H59_ 0 rfl) (And.intro (Holds.rd H59_ 1 rfl) ((Holds.ro_at H59_ 2 rfl)))
       refine A_tk 0 (v := (vP (some ⟨b2_, 4, none⟩))) rfl (by kernel_rfl) (fun w hS => by kernel_rfl) hq60_ ?_
       refine A_tk 1 (v := a.vals) rfl (by kernel_rfl) (fun w hS => x_load1 rfl Try.underlying35 rfl (hS.2.1 4 a.vals rfl)) hq60_ ?_
       refine A_tk 2 (v := (vI .i64 (k : Int))) rfl (by kernel_rfl) (fun w hS => x_move rfl) hq60_ ?_
       obtain ⟨x61_, hx62_, hm63_⟩ := elem_at x.V k (by omega)
       refine A_tk 3 (v := (vP (some ⟨(sb a.vals), so a.vals + k, none⟩))) rfl (by kernel_rfl) (fun w hS => x_idxRS (v := a.vals) rfl ha.2.2.2 rfl Try.underlying35 z3 (by omega) (by omega) (by omega : _ = k) (by rw [Nat.mul_one])) hq60_ ?_
       refine A_tk 4 (v := (vI .i64 x61_)) rfl (by kernel_rfl) (fun w hS => x_load1 rfl Try.underlying3 rfl (RC.cell (RS.rc ha.2.2.2) hS.2.2 (j := k) (u := (vI .i64 x61_)) ((map_at hx62_)))) hq60_ ?_
       refine A_tk 5 (v := (vP (some ⟨b7_, 4, none⟩))) rfl (by kernel_rfl) (fun w hS => by kernel_rfl) hq60_ ?_
       refine A_tk 6 (v := b.vals) rfl (by kernel_rfl) (fun w hS => x_load1 rfl Try.underlying35 rfl (hS.1 4 b.vals rfl)) hq60_ ?_
       refine A_tk 7 (v := (vI .i64 (k : Int))) rfl (by kernel_rfl) (fun w hS => x_move rfl) hq60_ ?_
       obtain ⟨x64_, hx65_, hm66_⟩ := elem_at y.V k (by omega)
       have hvv_ : x61_ = x64_ := by have h__ := hx62_; rw [hg.v] at h__; exact Option.some.inj (h__.symm.trans hx65_)
       refine A_tk 8 (v := (vP (some ⟨(sb b.vals), so b.vals + k, none⟩))) rfl (by kernel_rfl) (fun w hS => x_idxRS (v := b.vals) rfl hb.2.2.2 rfl Try.underlying35 z3 (by omega) (by omega) (by omega : _ = k) (by rw [Nat.mul_one])) hq60_ ?_
       refine A_tk 9 (v := (vI .i64 x64_)) rfl (by kernel_rfl) (fun w hS => x_load1 rfl Try.underlying3 rfl (RC.cell (RS.rc hb.2.2.2) hS.2.2 (j := k) (u := (vI .i64 x64_)) ((map_at hx65_)))) hq60_ ?_
       refine A_tk 10 (v := (vB (decide (x61_ ≠ x64_)))) rfl (by kernel_rfl) (fun w hS => x_bin rfl rfl rfl) hq60_ ?_
       refine A_done (by kernel_rfl) ?_
       refine (X_then (hK58_ _ _ ?_))
       clear hK58_
       refine C_cond (b := decide (x61_ ≠ x64_)) rfl (fun c67_t => ?_) (fun c67_f => ?_)
       ·have c67_tp : x61_ ≠ x64_ := of_decide_eq_true c67_t
        omega
       ·have c67_fp : ¬ (x61_ ≠ x64_) := of_decide_eq_false c67_f
        refine C_skip (X_blkN (X_then (hK56_ _ _ ?_)))
        clear hK56_
        refine C_reg ?_
        refine sv (v := (vI .i64 ((k : Int) + 1))) (x_bin rfl rfl (ib_add (IntWalk.i64_in _ (by omega)))) ?_
        refine sv (v := (vI .i64 ((k : Int) + 1))) (x_move rfl) ?_
        refine wpList_nil (X_then ?_)
        exact ⟨⟨k + 1, p6_v⟩, ⟨_, congrArg (fun e => mkA 86 e []) (ch (ch (ch (ch (ch rfl rfl) rfl) rfl) rfl) (congrArg (vI .i64) ((by first | rfl | omega | (simp; done) | (simp; omega)) : (k : Int) + 1 = ((k + 1 : Nat) : Int)))), H59_, (Same.trans S52_ (Same.drew _)), (by first | assumption | omega | exact rfl)⟩, by first | omega | (dsimp only; omega) | (simp; omega)⟩
      ·have c55_fp : ¬ ((k : Int) < ((List.length x.V) : Int)) := of_decide_eq_false c55_f
       refine C_exit (X_thenX (X_thenX (X_blkHit ?_)))
       refine (X_then (hK48_ _ _ ?_))
       clear hK48_
       refine C_seq (fun K68_ hK68_ => C_reg ?_)
       refine sv (v := (vB true)) (x_assign rfl) ?_
       refine wpList_nil (X_then (hK68_ _ _ ?_))
       clear hK68_
       refine C_ret ?_
       refine R_any (v := (vB true)) (run_results1 rfl rfl) ?_
       have H69_ : Holds w50_ (ro R :: F) := (Holds.pkF H51_ [2] 2 :)
       exact ⟨_, _, rfl, ⟨rfl, rfl⟩, S52_, H69_⟩
end Go.Proofs.Ytlnihndjepjagaa
set_option linter.unusedVariables false
set_option linter.unusedSimpArgs false
namespace Go.Proofs.Ytlnihndjepjagaa
open Go Go.RowKit Gw
open Go.Value renaming int → vI, bool → vB, slice → vS, pointer → vP, agg → vA, tuple → vT

theorem ekSpan_lo {ord : Int} (s : SN) (e : EK) : (ekSpan (s.lo ord) e).lo ord = s.lo ord := by
  by_cases h : ord = 3
  · subst h
    rw [lo_num, lo_num]; rfl
  · rw [lo_text h, lo_text h]
    show EK.t (EK.text (.t s.in__Begin.data.toList)).data.toList = _
    rw [text_t]
theorem ekSpan_hi {ord : Int} (s : SN) (b : EK) : (ekSpan b (s.hi ord)).hi ord = s.hi ord := by
  by_cases h : ord = 3
  · subst h
    rw [hi_num, hi_num]; rfl
  · rw [hi_text h rfl]
    cases hp : s.in__Point with
    | false =>
      rw [hi_text h hp]
      show EK.t (EK.text (.t s.in__End.data.toList)).data.toList = _
      rw [text_t]
    | true =>
      rw [hi_point h hp]
      show EK.t (EK.text (.t (s.in__Begin ++ ByteArray.mk #[0]).data.toList)).data.toList = _
      rw [text_t]
theorem span_same {ord : Int} (s : SN) : sSame ord (ekSpan (s.lo ord) (s.hi ord)) s = true := sSame_iff.2 ⟨ekSpan_lo s _, ekSpan_hi s _⟩
theorem span_size {ord : Int} {s : SN} {e : EK} (h : s.in__Begin.size ≤ 2147483647) : (ekSpan (s.lo ord) e).in__Begin.size ≤ 2147483647 := by
  by_cases h3 : ord = 3
  · subst h3
    rw [lo_num]
    exact Nat.zero_le _
  · rw [lo_text h3]
    show (EK.text (.t s.in__Begin.data.toList)).size ≤ _
    rw [text_t]; exact h
theorem sameK_ie {ord : Int} {x : PN} {s : SN} : sameK ord (s.lo ord) (s.hi ord) (x.ie ord) = sSame ord x.sn s := by
  apply Bool.eq_iff_iff.2
  rw [sameK_iff, sSame_iff]
  exact Iff.rfl
theorem find_agree {ord : Int} {P : List PN} {s : SN} (hz : PSz P) : Agree ord (findX ord (P.map (PN.ie ord)) (s.lo ord) (s.hi ord)) (spFindX ord P s) := by
  have e : (P.map (PN.ie ord)).find? (sameK ord (s.lo ord) (s.hi ord)) = (P.find? (fun x => sSame ord x.sn s)).map (PN.ie ord) := by
    rw [List.find?_map]
    congr 1
    congr 1
    funext x
    exact sameK_ie
  unfold findX spFindX
  rw [e]
  cases hf : P.find? (fun x => sSame ord x.sn s) with
  | none => exact ⟨rfl, rfl, rfl, rfl, (fun s h => by cases h), (fun i s t h => by simp at h), ⟨(fun s h => by cases h), (fun s h => by cases h)⟩, ⟨Nat.zero_le _, Nat.zero_le _⟩⟩
  | some x =>
    have hx := hz x (List.mem_of_find?_eq_some hf)
    refine ⟨rfl, rfl, rfl, rfl, ?_, ?_, ⟨?_, ?_⟩, ⟨by simp, by simp⟩⟩
    · intro t ht
      rw [List.mem_singleton.1 ht]; rfl
    · intro i a b ha hb
      match i with
      | 0 =>
        have ha' : spanOf (x.ie ord) = a := by simpa using ha
        have hb' : x.sn = b := by simpa using hb
        rw [← ha', ← hb']
        exact span_same x.sn
      | i + 1 => simp at ha
    · intro t ht
      rw [List.mem_singleton.1 ht]
      exact span_size hx
    · intro t ht
      rw [List.mem_singleton.1 ht]
      exact hx
def TO.bare (o : TO) : TX := ⟨⟨o.kind, o.in__In_Begin, o.in__In_End, o.in__In_Point, o.in__From, o.in__Till, o.val, o.n, .slice none 0 0, .slice none 0 0⟩, [], []⟩
theorem Fil.ops {ord : Int} {R : HP} {O : List TX} {P : List PN} {y : TX} (h : Fil ord O P) (ho : 0 ≤ ord ∧ ord ≤ 3) (hl : O.length ≤ 100000) (hy : OpOk ord R (tdoAll ord O) y) : ∀ k x, (O ++ [y])[k]? = some x → OpOk ord R (tdoAll ord ((O ++ [y]).take k)) x := by
  intro k x hx
  by_cases hk : k < O.length
  · rw [List.getElem?_append_left hk] at hx
    rw [List.take_append_of_le_length (by omega)]
    exact h.op ho hl k x hx
  · have hk2 : k = O.length := by
      have := (List.getElem?_eq_some_iff.1 hx).1
      rw [List.length_append] at this; simp at this; omega
    subst hk2
    rw [List.getElem?_append_right (Nat.le_refl _), Nat.sub_self] at hx
    have : y = x := by simpa using hx
    subst this
    rw [List.take_append_of_le_length (Nat.le_refl _), List.take_length]
    exact hy
theorem Fil.mlen {ord : Int} {O : List TX} {P : List PN} (h : Fil ord O P) (hl : P.length ≤ 200) : (tdoAll ord O).length ≤ 10000000 := by
  rw [h.t, List.length_map]; omega
theorem AnsTo.last {ord : Int} {R : HP} {O : List TX} {y : TX} {A : List TA} {a : TA} (h : AnsTo ord R (O ++ [y]) A) (ha : A[O.length]? = some a) : AnsAt R a (tdoX ord (tdoAll ord O) y) := by
  have := h O.length a y ha (by rw [List.getElem?_append_right (Nat.le_refl _), Nat.sub_self]; rfl)
  rw [List.take_append_of_le_length (Nat.le_refl _), List.take_length] at this
  exact this


set_option maxHeartbeats 16000000 in
theorem lwAsk3 (R : HP) (ord : Int) (v : Value) (l : List SN) (o : TO) (hv : RS R 5 v (List.length l) (l.flatMap SN.cells)) (hz : ∀ s ∈ l, SSz s) (hn : l.length ≤ 2147483647) (ho : SSz o.sn) (hk : o.kind = 3) :
    TriG Try.prog 30 #[(vI .i64 ord), v, (vA #[(vI .i64 o.kind), (Value.string o.in__In_Begin), (Value.string o.in__In_End), (vB o.in__In_Point), (vI .i64 o.in__From), (vI .i64 o.in__Till), (vI .i64 o.val), (vI .i64 o.n), (vS none 0 0), (vS none 0 0)])] R [] (fun R' v__ post__ => (v__ = (vT #[(vA #[(vB false), (vI .i64 0), (vI .i64 0), (vS none 0 0), (vS none 0 0)]), (vA #[(vB false), (vI .i64 0), (vI .i64 0), (vS none 0 0), (vS none 0 0)]), (vB false)]) ∧ post__ = []) ∨ (∃ (a b : TA) (x y : TAx), v__ = (vT #[(vA #[(vB a.oK), (vI .i64 a.n), (vI .i64 a.most), a.list, a.vals]), (vA #[(vB b.oK), (vI .i64 b.n), (vI .i64 b.most), b.list, b.vals]), (vB true)]) ∧ post__ = [] ∧ (AnsAt R' a x) ∧ (AnsAt R' b y) ∧ (Agree ord x y))) := by
 refine TriG.into (n := 52) (al := [(vI .i64 ord), v, (vA #[(vI .i64 o.kind), (Value.string o.in__In_Begin), (Value.string o.in__In_End), (vB o.in__In_Point), (vI .i64 o.in__From), (vI .i64 o.in__Till), (vI .i64 o.val), (vI .i64 o.n), (vS none 0 0), (vS none 0 0)])]) Try.func30 rfl Try.ntmps30 rfl rfl fun w F H => ?_
 refine C_seq (fun K1_ hK1_ => C_reg ?_)
 refine S_list (T_box (v := (vA #[(vI .i64 o.kind), (Value.string o.in__In_Begin), (Value.string o.in__In_End), (vB o.in__In_Point), (vI .i64 o.in__From), (vI .i64 o.in__Till), (vI .i64 o.val), (vI .i64 o.n), (vS none 0 0), (vS none 0 0)])) rfl H ?_)
 intro b2_ w3_ S5_ H4_
 have S6_ := Same.trans (Same.refl w) S5_
 refine S_list (T_alloc z59 H4_ ?_)
 intro b7_ w8_ S10_ H9_
 have S11_ := Same.trans S6_ S10_
 refine S_list (T_alloc z59 H9_ ?_)
 intro b12_ w13_ S15_ H14_
 have S16_ := Same.trans S11_ S15_
 refine sv (v := (vB false)) (x_assign rfl) ?_
 refine wpList_nil (X_then (hK1_ _ _ ?_))
 clear hK1_
 refine C_seq (fun K17_ hK17_ => C_reg ?_)
 refine sv (v := (vI .i64 ord)) (x_move rfl) ?_
 refine sv (v := v) (x_move rfl) ?_
 have H32_ := ((Holds.bring H14_ 3 rfl) :)
 refine S_list (T_callG (al := [(vI .i64 ord), v]) (pre := []) rfl rfl cb33 (lwFill R ord v l hv (hz) (hn)) H32_ ?_)
 rintro R19_ v20_ p36_ w33_ hs18_ hq37_ S35_ H34_
 rcases hq37_ with ⟨rfl, rfl⟩ | ⟨oa21_, oc22_, O23_, pb24_, pv25_, P26_, b27_, rfl, rfl, he28_, he29_, he30_, he31_⟩
 ·skip
  have S38_ := Same.trans S16_ S35_
  refine sv (v := (vT #[(vS none 0 0), (vP none), (vB false)])) (x_move rfl) ?_
  refine sv (v := (vS none 0 0)) (by kernel_rfl) ?_
  refine sv (v := (vP none)) (by kernel_rfl) ?_
  refine sv (v := (vB false)) (by kernel_rfl) ?_
  refine sv (v := (vS none 0 0)) (x_assign rfl) ?_
  refine sv (v := (vP none)) (x_assign rfl) ?_
  refine sv (v := (vB false)) (x_assign rfl) ?_
  refine wpList_nil (X_then (hK17_ _ _ ?_))
  clear hK17_
  refine C_seq (fun K40_ hK40_ => ?_)
  refine C_seq (fun K41_ hK41_ => C_reg ?_)
  refine sv (v := (vB false)) (x_move rfl) ?_
  refine sv (v := (vB true)) (x_cast (x_not (b := false) rfl) rfl) ?_
  refine sv (v := (vB true)) (x_move rfl) ?_
  refine S_no (j := 2) (dj := 22) (b := true) rfl rfl rfl (by decide) ?_
  refine S_no (j := 2) (dj := 22) (b := true) rfl rfl rfl (by decide) ?_
  refine S_no (j := 2) (dj := 22) (b := true) rfl rfl rfl (by decide) ?_
  refine S_no (j := 2) (dj := 22) (b := true) rfl rfl rfl (by decide) ?_
  refine S_list (T_pickT (v := (vB true)) rfl rfl ?_)
  refine wpList_nil (X_then (hK41_ _ _ ?_))
  clear hK41_
  refine C_condT rfl ?_
  refine C_seq (fun K42_ hK42_ => ?_)
  refine A_start (S := fun w => Sub R19_ (hp w)) (N := 5) foll rfl rfl ?_
  have H43_ := Holds.drew_ H34_
  refine A_ready (i := 0) (rs := [1]) (by kernel_rfl) ?_
  refine AllR.cons ?_ ?_
  ·skip
   refine A_op (ls' := #[true, false, false, false, false]) rfl (by kernel_rfl) (T_val (v := (vA #[(vB false), (vI .i64 0), (vI .i64 0), (vS none 0 0), (vS none 0 0)])) (x_loadN (vs := [(vB false), (vI .i64 0), (vI .i64 0), (vS none 0 0), (vS none 0 0)]) rfl Try.underlying59 rfl z59 rfl (Rd.cells (Holds.rd H43_ 2 rfl) 0 rfl)) ?_)
   refine ⟨((Holds.ro_at H43_ 0 rfl)), ?_⟩
   refine A_ready (i := 1) (rs := [2]) (by kernel_rfl) ?_
   refine AllR.cons ?_ ?_
   ·skip
    refine A_op (ls' := #[true, true, false, false, false]) rfl (by kernel_rfl) (T_val (v := (vA #[(vB false), (vI .i64 0), (vI .i64 0), (vS none 0 0), (vS none 0 0)])) (x_loadN (vs := [(vB false), (vI .i64 0), (vI .i64 0), (vS none 0 0), (vS none 0 0)]) rfl Try.underlying59 rfl z59 rfl (Rd.cells (Holds.rd H43_ 1 rfl) 0 rfl)) ?_)
    refine ⟨((Holds.ro_at H43_ 0 rfl)), ?_⟩
    refine A_ready (i := 2) (rs := []) (by kernel_rfl) ?_
    refine AllR.cons ?_ AllR.nil
    refine A_op0 (ls' := #[true, true, true, false, false]) rfl (by kernel_rfl) (T_storeN (vs := [(vB false), (vI .i64 0), (vI .i64 0), (vS none 0 0), (vS none 0 0)]) rfl rfl z59 rfl (by simp [Value.oneCell']) H43_ 2 rfl (Nat.le_of_ble_eq_true (by rfl)) ?_)
    intro w44_ S46_ H45_
    have S47_ := Same.trans (Same.trans S38_ (Same.drew _)) S46_
    refine ⟨((Holds.ro_at H45_ 0 rfl)), ?_⟩
    refine A_ready (i := 3) (rs := []) (by kernel_rfl) ?_
    refine AllR.cons ?_ AllR.nil
    refine A_op0 (ls' := #[true, true, true, true, false]) rfl (by kernel_rfl) (T_storeN (vs := [(vB false), (vI .i64 0), (vI .i64 0), (vS none 0 0), (vS none 0 0)]) rfl rfl z59 rfl (by simp [Value.oneCell']) H45_ 1 rfl (Nat.le_of_ble_eq_true (by rfl)) ?_)
    intro w48_ S50_ H49_
    have S51_ := Same.trans S47_ S50_
    refine ⟨((Holds.ro_at H49_ 0 rfl)), ?_⟩
    have hq52_ := ((Holds.ro_at H49_ 0 rfl))
    refine A_tk 4 (v := (vB false)) rfl (by kernel_rfl) (fun w hS => x_assign rfl) hq52_ ?_
    refine A_done (by kernel_rfl) ?_
    refine (X_then (hK42_ _ _ ?_))
    clear hK42_
    refine C_ret (X_thenR ?_)
    refine R_any (v := (vT #[(vA #[(vB false), (vI .i64 0), (vI .i64 0), (vS none 0 0), (vS none 0 0)]), (vA #[(vB false), (vI .i64 0), (vI .i64 0), (vS none 0 0), (vS none 0 0)]), (vB false)])) (run_results3 rfl ⟨_, rfl, load_resN Try.underlying59 rfl z59 rfl (vs := [(vB false), (vI .i64 0), (vI .i64 0), (vS none 0 0), (vS none 0 0)]) (Holds.cl_cells H49_ 2 rfl 0 rfl)⟩ ⟨_, rfl, load_resN Try.underlying59 rfl z59 rfl (vs := [(vB false), (vI .i64 0), (vI .i64 0), (vS none 0 0), (vS none 0 0)]) (Holds.cl_cells H49_ 1 rfl 0 rfl)⟩ rfl) ?_
    have H53_ : Holds w48_ (ro R19_ :: F) := (Holds.pkF H49_ [0] 3 :)
    exact ⟨R19_, _, _, rfl, hs18_, (.inl ⟨rfl, rfl⟩), S51_, H53_⟩
   refine AllR.cons ?_ AllR.nil
   refine A_op0 (ls' := #[true, false, true, false, false]) rfl (by kernel_rfl) (T_storeN (vs := [(vB false), (vI .i64 0), (vI .i64 0), (vS none 0 0), (vS none 0 0)]) rfl rfl z59 rfl (by simp [Value.oneCell']) H43_ 2 rfl (Nat.le_of_ble_eq_true (by rfl)) ?_)
   intro w54_ S56_ H55_
   have S57_ := Same.trans (Same.trans S38_ (Same.drew _)) S56_
   refine ⟨((Holds.ro_at H55_ 0 rfl)), ?_⟩
   refine A_ready (i := 1) (rs := []) (by kernel_rfl) ?_
   refine AllR.cons ?_ AllR.nil
   refine A_op (ls' := #[true, true, true, false, false]) rfl (by kernel_rfl) (T_val (v := (vA #[(vB false), (vI .i64 0), (vI .i64 0), (vS none 0 0), (vS none 0 0)])) (x_loadN (vs := [(vB false), (vI .i64 0), (vI .i64 0), (vS none 0 0), (vS none 0 0)]) rfl Try.underlying59 rfl z59 rfl (Rd.cells (Holds.rd H55_ 1 rfl) 0 rfl)) ?_)
   refine ⟨((Holds.ro_at H55_ 0 rfl)), ?_⟩
   refine A_ready (i := 3) (rs := []) (by kernel_rfl) ?_
   refine AllR.cons ?_ AllR.nil
   refine A_op0 (ls' := #[true, true, true, true, false]) rfl (by kernel_rfl) (T_storeN (vs := [(vB false), (vI .i64 0), (vI .i64 0), (vS none 0 0), (vS none 0 0)]) rfl rfl z59 rfl (by simp [Value.oneCell']) H55_ 1 rfl (Nat.le_of_ble_eq_true (by rfl)) ?_)
   intro w58_ S60_ H59_
   have S61_ := Same.trans S57_ S60_
   refine ⟨((Holds.ro_at H59_ 0 rfl)), ?_⟩
   have hq62_ := ((Holds.ro_at H59_ 0 rfl))
   refine A_tk 4 (v := (vB false)) rfl (by kernel_rfl) (fun w hS => x_assign rfl) hq62_ ?_
   refine A_done (by kernel_rfl) ?_
   refine (X_then (hK42_ _ _ ?_))
   clear hK42_
   refine C_ret (X_thenR ?_)
   refine R_any (v := (vT #[(vA #[(vB false), (vI .i64 0), (vI .i64 0), (vS none 0 0), (vS none 0 0)]), (vA #[(vB false), (vI .i64 0), (vI .i64 0), (vS none 0 0), (vS none 0 0)]), (vB false)])) (run_results3 rfl ⟨_, rfl, load_resN Try.underlying59 rfl z59 rfl (vs := [(vB false), (vI .i64 0), (vI .i64 0), (vS none 0 0), (vS none 0 0)]) (Holds.cl_cells H59_ 2 rfl 0 rfl)⟩ ⟨_, rfl, load_resN Try.underlying59 rfl z59 rfl (vs := [(vB false), (vI .i64 0), (vI .i64 0), (vS none 0 0), (vS none 0 0)]) (Holds.cl_cells H59_ 1 rfl 0 rfl)⟩ rfl) ?_
   have H63_ : Holds w58_ (ro R19_ :: F) := (Holds.pkF H59_ [0] 3 :)
   exact ⟨R19_, _, _, rfl, hs18_, (.inl ⟨rfl, rfl⟩), S61_, H63_⟩
  refine AllR.cons ?_ AllR.nil
  refine A_op (ls' := #[false, true, false, false, false]) rfl (by kernel_rfl) (T_val (v := (vA #[(vB false), (vI .i64 0), (vI .i64 0), (vS none 0 0), (vS none 0 0)])) (x_loadN (vs := [(vB false), (vI .i64 0), (vI .i64 0), (vS none 0 0), (vS none 0 0)]) rfl Try.underlying59 rfl z59 rfl (Rd.cells (Holds.rd H43_ 1 rfl) 0 rfl)) ?_)
  refine ⟨((Holds.ro_at H43_ 0 rfl)), ?_⟩
  refine A_ready (i := 0) (rs := []) (by kernel_rfl) ?_
  refine AllR.cons ?_ AllR.nil
  refine A_op (ls' := #[true, true, false, false, false]) rfl (by kernel_rfl) (T_val (v := (vA #[(vB false), (vI .i64 0), (vI .i64 0), (vS none 0 0), (vS none 0 0)])) (x_loadN (vs := [(vB false), (vI .i64 0), (vI .i64 0), (vS none 0 0), (vS none 0 0)]) rfl Try.underlying59 rfl z59 rfl (Rd.cells (Holds.rd H43_ 2 rfl) 0 rfl)) ?_)
  refine ⟨((Holds.ro_at H43_ 0 rfl)), ?_⟩
  refine A_ready (i := 2) (rs := []) (by kernel_rfl) ?_
  refine AllR.cons ?_ AllR.nil
  refine A_op0 (ls' := #[true, true, true, false, false]) rfl (by kernel_rfl) (T_storeN (vs := [(vB false), (vI .i64 0), (vI .i64 0), (vS none 0 0), (vS none 0 0)]) rfl rfl z59 rfl (by simp [Value.oneCell']) H43_ 2 rfl (Nat.le_of_ble_eq_true (by rfl)) ?_)
  intro w64_ S66_ H65_
  have S67_ := Same.trans (Same.trans S38_ (Same.drew _)) S66_
  refine ⟨((Holds.ro_at H65_ 0 rfl)), ?_⟩
  refine A_ready (i := 3) (rs := []) (by kernel_rfl) ?_
  refine AllR.cons ?_ AllR.nil
  refine A_op0 (ls' := #[true, true, true, true, false]) rfl (by kernel_rfl) (T_storeN (vs := [(vB false), (vI .i64 0), (vI .i64 0), (vS none 0 0), (vS none 0 0)]) rfl rfl z59 rfl (by simp [Value.oneCell']) H65_ 1 rfl (Nat.le_of_ble_eq_true (by rfl)) ?_)
  intro w68_ S70_ H69_
  have S71_ := Same.trans S67_ S70_
  refine ⟨((Holds.ro_at H69_ 0 rfl)), ?_⟩
  have hq72_ := ((Holds.ro_at H69_ 0 rfl))
  refine A_tk 4 (v := (vB false)) rfl (by kernel_rfl) (fun w hS => x_assign rfl) hq72_ ?_
  refine A_done (by kernel_rfl) ?_
  refine (X_then (hK42_ _ _ ?_))
  clear hK42_
  refine C_ret (X_thenR ?_)
  refine R_any (v := (vT #[(vA #[(vB false), (vI .i64 0), (vI .i64 0), (vS none 0 0), (vS none 0 0)]), (vA #[(vB false), (vI .i64 0), (vI .i64 0), (vS none 0 0), (vS none 0 0)]), (vB false)])) (run_results3 rfl ⟨_, rfl, load_resN Try.underlying59 rfl z59 rfl (vs := [(vB false), (vI .i64 0), (vI .i64 0), (vS none 0 0), (vS none 0 0)]) (Holds.cl_cells H69_ 2 rfl 0 rfl)⟩ ⟨_, rfl, load_resN Try.underlying59 rfl z59 rfl (vs := [(vB false), (vI .i64 0), (vI .i64 0), (vS none 0 0), (vS none 0 0)]) (Holds.cl_cells H69_ 1 rfl 0 rfl)⟩ rfl) ?_
  have H73_ : Holds w68_ (ro R19_ :: F) := (Holds.pkF H69_ [0] 3 :)
  exact ⟨R19_, _, _, rfl, hs18_, (.inl ⟨rfl, rfl⟩), S71_, H73_⟩
 ·skip
  have S39_ := Same.trans S16_ S35_
  have hF_ := he29_
  have hol_ := hF_.len
  have hpl_ := he30_
  have hrg_ := he31_
  refine sv (v := (vT #[(vS oa21_ (List.length O23_) oc22_), (vQ pb24_), (vB b27_)])) (x_move rfl) ?_
  refine sv (v := (vS oa21_ (List.length O23_) oc22_)) (by kernel_rfl) ?_
  refine sv (v := (vQ pb24_)) (by kernel_rfl) ?_
  refine sv (v := (vB b27_)) (by kernel_rfl) ?_
  refine sv (v := (vS oa21_ (List.length O23_) oc22_)) (x_assign rfl) ?_
  refine sv (v := (vQ pb24_)) (x_assign rfl) ?_
  refine sv (v := (vB b27_)) (x_assign rfl) ?_
  refine wpList_nil (X_then (hK17_ _ _ ?_))
  clear hK17_
  refine C_seq (fun K74_ hK74_ => ?_)
  refine C_seq (fun K75_ hK75_ => C_reg ?_)
  refine sv (v := (vB b27_)) (x_move rfl) ?_
  refine sv (v := (vB (!b27_))) (x_not rfl) ?_
  refine sv (v := (vB (!b27_))) (x_move rfl) ?_
  rcases Bool.eq_false_or_eq_true (!b27_) with c76_t | c76_f
  ·skip
   refine S_no (j := 2) (dj := 22) (b := true) rfl rfl (congrArg vB c76_t) (by decide) ?_
   refine S_no (j := 2) (dj := 22) (b := true) rfl rfl (congrArg vB c76_t) (by decide) ?_
   refine S_no (j := 2) (dj := 22) (b := true) rfl rfl (congrArg vB c76_t) (by decide) ?_
   refine S_no (j := 2) (dj := 22) (b := true) rfl rfl (congrArg vB c76_t) (by decide) ?_
   refine S_list (T_pickT (v := (vB true)) (congrArg vB c76_t) rfl ?_)
   refine wpList_nil (X_then (hK75_ _ _ ?_))
   clear hK75_
   refine C_condT rfl ?_
   refine C_seq (fun K77_ hK77_ => ?_)
   refine A_start (S := fun w => SlRd (vS oa21_ (List.length O23_) oc22_) (O23_.flatMap TX.cells) w ∧ Sub R19_ (hp w)) (N := 5) foll rfl rfl ?_
   have H78_ := Holds.drew_ H34_
   refine A_ready (i := 0) (rs := [1]) (by kernel_rfl) ?_
   refine AllR.cons ?_ ?_
   ·skip
    refine A_op (ls' := #[true, false, false, false, false]) rfl (by kernel_rfl) (T_val (v := (vA #[(vB false), (vI .i64 0), (vI .i64 0), (vS none 0 0), (vS none 0 0)])) (x_loadN (vs := [(vB false), (vI .i64 0), (vI .i64 0), (vS none 0 0), (vS none 0 0)]) rfl Try.underlying59 rfl z59 rfl (Rd.cells (Holds.rd H78_ 4 rfl) 0 rfl)) ?_)
    refine ⟨⟨Holds.slrd H78_ 2 rfl, (Holds.ro_at H78_ 0 rfl)⟩, ?_⟩
    refine A_ready (i := 1) (rs := [2]) (by kernel_rfl) ?_
    refine AllR.cons ?_ ?_
    ·skip
     refine A_op (ls' := #[true, true, false, false, false]) rfl (by kernel_rfl) (T_val (v := (vA #[(vB false), (vI .i64 0), (vI .i64 0), (vS none 0 0), (vS none 0 0)])) (x_loadN (vs := [(vB false), (vI .i64 0), (vI .i64 0), (vS none 0 0), (vS none 0 0)]) rfl Try.underlying59 rfl z59 rfl (Rd.cells (Holds.rd H78_ 3 rfl) 0 rfl)) ?_)
     refine ⟨⟨Holds.slrd H78_ 2 rfl, (Holds.ro_at H78_ 0 rfl)⟩, ?_⟩
     refine A_ready (i := 2) (rs := []) (by kernel_rfl) ?_
     refine AllR.cons ?_ AllR.nil
     refine A_op0 (ls' := #[true, true, true, false, false]) rfl (by kernel_rfl) (T_storeN (vs := [(vB false), (vI .i64 0), (vI .i64 0), (vS none 0 0), (vS none 0 0)]) rfl rfl z59 rfl (by simp [Value.oneCell']) H78_ 4 rfl (Nat.le_of_ble_eq_true (by rfl)) ?_)
     intro w79_ S81_ H80_
     have S82_ := Same.trans (Same.trans S39_ (Same.drew _)) S81_
     refine ⟨⟨Holds.slrd H80_ 2 rfl, (Holds.ro_at H80_ 0 rfl)⟩, ?_⟩
     refine A_ready (i := 3) (rs := []) (by kernel_rfl) ?_
     refine AllR.cons ?_ AllR.nil
     refine A_op0 (ls' := #[true, true, true, true, false]) rfl (by kernel_rfl) (T_storeN (vs := [(vB false), (vI .i64 0), (vI .i64 0), (vS none 0 0), (vS none 0 0)]) rfl rfl z59 rfl (by simp [Value.oneCell']) H80_ 3 rfl (Nat.le_of_ble_eq_true (by rfl)) ?_)
     intro w83_ S85_ H84_
     have S86_ := Same.trans S82_ S85_
     refine ⟨⟨Holds.slrd H84_ 2 rfl, (Holds.ro_at H84_ 0 rfl)⟩, ?_⟩
     have hq87_ := And.intro (Holds.slrd H84_ 2 rfl) ((Holds.ro_at H84_ 0 rfl))
     refine A_tk 4 (v := (vB false)) rfl (by kernel_rfl) (fun w hS => x_assign rfl) hq87_ ?_
     refine A_done (by kernel_rfl) ?_
     refine (X_then (hK77_ _ _ ?_))
     clear hK77_
     refine C_ret (X_thenR ?_)
     refine R_any (v := (vT #[(vA #[(vB false), (vI .i64 0), (vI .i64 0), (vS none 0 0), (vS none 0 0)]), (vA #[(vB false), (vI .i64 0), (vI .i64 0), (vS none 0 0), (vS none 0 0)]), (vB false)])) (run_results3 rfl ⟨_, rfl, load_resN Try.underlying59 rfl z59 rfl (vs := [(vB false), (vI .i64 0), (vI .i64 0), (vS none 0 0), (vS none 0 0)]) (Holds.cl_cells H84_ 4 rfl 0 rfl)⟩ ⟨_, rfl, load_resN Try.underlying59 rfl z59 rfl (vs := [(vB false), (vI .i64 0), (vI .i64 0), (vS none 0 0), (vS none 0 0)]) (Holds.cl_cells H84_ 3 rfl 0 rfl)⟩ rfl) ?_
     have H88_ : Holds w83_ (ro R19_ :: F) := (Holds.pkF H84_ [0] 5 :)
     exact ⟨R19_, _, _, rfl, hs18_, (.inl ⟨rfl, rfl⟩), S86_, H88_⟩
    refine AllR.cons ?_ AllR.nil
    refine A_op0 (ls' := #[true, false, true, false, false]) rfl (by kernel_rfl) (T_storeN (vs := [(vB false), (vI .i64 0), (vI .i64 0), (vS none 0 0), (vS none 0 0)]) rfl rfl z59 rfl (by simp [Value.oneCell']) H78_ 4 rfl (Nat.le_of_ble_eq_true (by rfl)) ?_)
    intro w89_ S91_ H90_
    have S92_ := Same.trans (Same.trans S39_ (Same.drew _)) S91_
    refine ⟨⟨Holds.slrd H90_ 2 rfl, (Holds.ro_at H90_ 0 rfl)⟩, ?_⟩
    refine A_ready (i := 1) (rs := []) (by kernel_rfl) ?_
    refine AllR.cons ?_ AllR.nil
    refine A_op (ls' := #[true, true, true, false, false]) rfl (by kernel_rfl) (T_val (v := (vA #[(vB false), (vI .i64 0), (vI .i64 0), (vS none 0 0), (vS none 0 0)])) (x_loadN (vs := [(vB false), (vI .i64 0), (vI .i64 0), (vS none 0 0), (vS none 0 0)]) rfl Try.underlying59 rfl z59 rfl (Rd.cells (Holds.rd H90_ 3 rfl) 0 rfl)) ?_)
    refine ⟨⟨Holds.slrd H90_ 2 rfl, (Holds.ro_at H90_ 0 rfl)⟩, ?_⟩
    refine A_ready (i := 3) (rs := []) (by kernel_rfl) ?_
    refine AllR.cons ?_ AllR.nil
    refine A_op0 (ls' := #[true, true, true, true, false]) rfl (by kernel_rfl) (T_storeN (vs := [(vB false), (vI .i64 0), (vI .i64 0), (vS none 0 0), (vS none 0 0)]) rfl rfl z59 rfl (by simp [Value.oneCell']) H90_ 3 rfl (Nat.le_of_ble_eq_true (by rfl)) ?_)
    intro w93_ S95_ H94_
    have S96_ := Same.trans S92_ S95_
    refine ⟨⟨Holds.slrd H94_ 2 rfl, (Holds.ro_at H94_ 0 rfl)⟩, ?_⟩
    have hq97_ := And.intro (Holds.slrd H94_ 2 rfl) ((Holds.ro_at H94_ 0 rfl))
    refine A_tk 4 (v := (vB false)) rfl (by kernel_rfl) (fun w hS => x_assign rfl) hq97_ ?_
    refine A_done (by kernel_rfl) ?_
    refine (X_then (hK77_ _ _ ?_))
    clear hK77_
    refine C_ret (X_thenR ?_)
    refine R_any (v := (vT #[(vA #[(vB false), (vI .i64 0), (vI .i64 0), (vS none 0 0), (vS none 0 0)]), (vA #[(vB false), (vI .i64 0), (vI .i64 0), (vS none 0 0), (vS none 0 0)]), (vB false)])) (run_results3 rfl ⟨_, rfl, load_resN Try.underlying59 rfl z59 rfl (vs := [(vB false), (vI .i64 0), (vI .i64 0), (vS none 0 0), (vS none 0 0)]) (Holds.cl_cells H94_ 4 rfl 0 rfl)⟩ ⟨_, rfl, load_resN Try.underlying59 rfl z59 rfl (vs := [(vB false), (vI .i64 0), (vI .i64 0), (vS none 0 0), (vS none 0 0)]) (Holds.cl_cells H94_ 3 rfl 0 rfl)⟩ rfl) ?_
    have H98_ : Holds w93_ (ro R19_ :: F) := (Holds.pkF H94_ [0] 5 :)
    exact ⟨R19_, _, _, rfl, hs18_, (.inl ⟨rfl, rfl⟩), S96_, H98_⟩
   refine AllR.cons ?_ AllR.nil
   refine A_op (ls' := #[false, true, false, false, false]) rfl (by kernel_rfl) (T_val (v := (vA #[(vB false), (vI .i64 0), (vI .i64 0), (vS none 0 0), (vS none 0 0)])) (x_loadN (vs := [(vB false), (vI .i64 0), (vI .i64 0), (vS none 0 0), (vS none 0 0)]) rfl Try.underlying59 rfl z59 rfl (Rd.cells (Holds.rd H78_ 3 rfl) 0 rfl)) ?_)
   refine ⟨⟨Holds.slrd H78_ 2 rfl, (Holds.ro_at H78_ 0 rfl)⟩, ?_⟩
   refine A_ready (i := 0) (rs := []) (by kernel_rfl) ?_
   refine AllR.cons ?_ AllR.nil
   refine A_op (ls' := #[true, true, false, false, false]) rfl (by kernel_rfl) (T_val (v := (vA #[(vB false), (vI .i64 0), (vI .i64 0), (vS none 0 0), (vS none 0 0)])) (x_loadN (vs := [(vB false), (vI .i64 0), (vI .i64 0), (vS none 0 0), (vS none 0 0)]) rfl Try.underlying59 rfl z59 rfl (Rd.cells (Holds.rd H78_ 4 rfl) 0 rfl)) ?_)
   refine ⟨⟨Holds.slrd H78_ 2 rfl, (Holds.ro_at H78_ 0 rfl)⟩, ?_⟩
   refine A_ready (i := 2) (rs := []) (by kernel_rfl) ?_
   refine AllR.cons ?_ AllR.nil
   refine A_op0 (ls' := #[true, true, true, false, false]) rfl (by kernel_rfl) (T_storeN (vs := [(vB false), (vI .i64 0), (vI .i64 0), (vS none 0 0), (vS none 0 0)]) rfl rfl z59 rfl (by simp [Value.oneCell']) H78_ 4 rfl (Nat.le_of_ble_eq_true (by rfl)) ?_)
   intro w99_ S101_ H100_
   have S102_ := Same.trans (Same.trans S39_ (Same.drew _)) S101_
   refine ⟨⟨Holds.slrd H100_ 2 rfl, (Holds.ro_at H100_ 0 rfl)⟩, ?_⟩
   refine A_ready (i := 3) (rs := []) (by kernel_rfl) ?_
   refine AllR.cons ?_ AllR.nil
   refine A_op0 (ls' := #[true, true, true, true, false]) rfl (by kernel_rfl) (T_storeN (vs := [(vB false), (vI .i64 0), (vI .i64 0), (vS none 0 0), (vS none 0 0)]) rfl rfl z59 rfl (by simp [Value.oneCell']) H100_ 3 rfl (Nat.le_of_ble_eq_true (by rfl)) ?_)
   intro w103_ S105_ H104_
   have S106_ := Same.trans S102_ S105_
   refine ⟨⟨Holds.slrd H104_ 2 rfl, (Holds.ro_at H104_ 0 rfl)⟩, ?_⟩
   have hq107_ := And.intro (Holds.slrd H104_ 2 rfl) ((Holds.ro_at H104_ 0 rfl))
   refine A_tk 4 (v := (vB false)) rfl (by kernel_rfl) (fun w hS => x_assign rfl) hq107_ ?_
   refine A_done (by kernel_rfl) ?_
   refine (X_then (hK77_ _ _ ?_))
   clear hK77_
   refine C_ret (X_thenR ?_)
   refine R_any (v := (vT #[(vA #[(vB false), (vI .i64 0), (vI .i64 0), (vS none 0 0), (vS none 0 0)]), (vA #[(vB false), (vI .i64 0), (vI .i64 0), (vS none 0 0), (vS none 0 0)]), (vB false)])) (run_results3 rfl ⟨_, rfl, load_resN Try.underlying59 rfl z59 rfl (vs := [(vB false), (vI .i64 0), (vI .i64 0), (vS none 0 0), (vS none 0 0)]) (Holds.cl_cells H104_ 4 rfl 0 rfl)⟩ ⟨_, rfl, load_resN Try.underlying59 rfl z59 rfl (vs := [(vB false), (vI .i64 0), (vI .i64 0), (vS none 0 0), (vS none 0 0)]) (Holds.cl_cells H104_ 3 rfl 0 rfl)⟩ rfl) ?_
   have H108_ : Holds w103_ (ro R19_ :: F) := (Holds.pkF H104_ [0] 5 :)
   exact ⟨R19_, _, _, rfl, hs18_, (.inl ⟨rfl, rfl⟩), S106_, H108_⟩
  ·skip
   refine S_yes (j := 2) (dj := 22) (b := false) rfl rfl (congrArg vB c76_f) (T_val (v := (vI .i64 ord)) (x_move rfl) ?_)
   refine S_yes (j := 2) (dj := 22) (b := false) rfl rfl (congrArg vB c76_f) (T_val (v := (vA #[(vI .i64 o.kind), (Value.string o.in__In_Begin), (Value.string o.in__In_End), (vB o.in__In_Point), (vI .i64 o.in__From), (vI .i64 o.in__Till), (vI .i64 o.val), (vI .i64 o.n), (vS none 0 0), (vS none 0 0)])) (x_loadN (vs := [(vI .i64 o.kind), (Value.string o.in__In_Begin), (Value.string o.in__In_End), (vB o.in__In_Point), (vI .i64 o.in__From), (vI .i64 o.in__Till), (vI .i64 o.val), (vI .i64 o.n), (vS none 0 0), (vS none 0 0)]) rfl Try.underlying63 rfl z63 rfl (Rd.cells (Holds.rd H34_ 5 rfl) 0 rfl)) ?_)
   refine S_yes (j := 2) (dj := 22) (b := false) rfl rfl (congrArg vB c76_f) (T_call (al := [(vI .i64 ord), (vA #[(vI .i64 o.kind), (Value.string o.in__In_Begin), (Value.string o.in__In_End), (vB o.in__In_Point), (vI .i64 o.in__From), (vI .i64 o.in__Till), (vI .i64 o.val), (vI .i64 o.n), (vS none 0 0), (vS none 0 0)])]) (pre := []) rfl rfl cb34 (lwProp R19_ ord o (ho.1) (by omega)) H34_ ?_)
   rintro v109_ p113_ w110_ ⟨rfl, rfl⟩ S112_ H111_
   have S114_ := Same.trans S39_ S112_
   refine S_yes (j := 2) (dj := 22) (b := false) rfl rfl (congrArg vB c76_f) (T_val (v := (vB (!(spanB ord o.sn)))) (x_not rfl) ?_)
   refine S_list (T_pickF (v := (vB (!(spanB ord o.sn)))) (congrArg vB c76_f) rfl ?_)
   refine wpList_nil (X_then (hK75_ _ _ ?_))
   clear hK75_
   refine C_cond (b := !(spanB ord o.sn)) rfl (fun c115_t => ?_) (fun c115_f => ?_)
   ·skip
    refine C_seq (fun K116_ hK116_ => ?_)
    refine A_start (S := fun w => SlRd (vS oa21_ (List.length O23_) oc22_) (O23_.flatMap TX.cells) w ∧ Sub R19_ (hp w)) (N := 5) foll rfl rfl ?_
    have H117_ := Holds.drew_ H111_
    refine A_ready (i := 0) (rs := [1]) (by kernel_rfl) ?_
    refine AllR.cons ?_ ?_
    ·skip
     refine A_op (ls' := #[true, false, false, false, false]) rfl (by kernel_rfl) (T_val (v := (vA #[(vB false), (vI .i64 0), (vI .i64 0), (vS none 0 0), (vS none 0 0)])) (x_loadN (vs := [(vB false), (vI .i64 0), (vI .i64 0), (vS none 0 0), (vS none 0 0)]) rfl Try.underlying59 rfl z59 rfl (Rd.cells (Holds.rd H117_ 4 rfl) 0 rfl)) ?_)
     refine ⟨⟨Holds.slrd H117_ 2 rfl, (Holds.ro_at H117_ 0 rfl)⟩, ?_⟩
     refine A_ready (i := 1) (rs := [2]) (by kernel_rfl) ?_
     refine AllR.cons ?_ ?_
     ·skip
      refine A_op (ls' := #[true, true, false, false, false]) rfl (by kernel_rfl) (T_val (v := (vA #[(vB false), (vI .i64 0), (vI .i64 0), (vS none 0 0), (vS none 0 0)])) (x_loadN (vs := [(vB false), (vI .i64 0), (vI .i64 0), (vS none 0 0), (vS none 0 0)]) rfl Try.underlying59 rfl z59 rfl (Rd.cells (Holds.rd H117_ 3 rfl) 0 rfl)) ?_)
      refine ⟨⟨Holds.slrd H117_ 2 rfl, (Holds.ro_at H117_ 0 rfl)⟩, ?_⟩
      refine A_ready (i := 2) (rs := []) (by kernel_rfl) ?_
      refine AllR.cons ?_ AllR.nil
      refine A_op0 (ls' := #[true, true, true, false, false]) rfl (by kernel_rfl) (T_storeN (vs := [(vB false), (vI .i64 0), (vI .i64 0), (vS none 0 0), (vS none 0 0)]) rfl rfl z59 rfl (by simp [Value.oneCell']) H117_ 4 rfl (Nat.le_of_ble_eq_true (by rfl)) ?_)
      intro w118_ S120_ H119_
      have S121_ := Same.trans (Same.trans S114_ (Same.drew _)) S120_
      refine ⟨⟨Holds.slrd H119_ 2 rfl, (Holds.ro_at H119_ 0 rfl)⟩, ?_⟩
      refine A_ready (i := 3) (rs := []) (by kernel_rfl) ?_
      refine AllR.cons ?_ AllR.nil
      refine A_op0 (ls' := #[true, true, true, true, false]) rfl (by kernel_rfl) (T_storeN (vs := [(vB false), (vI .i64 0), (vI .i64 0), (vS none 0 0), (vS none 0 0)]) rfl rfl z59 rfl (by simp [Value.oneCell']) H119_ 3 rfl (Nat.le_of_ble_eq_true (by rfl)) ?_)
      intro w122_ S124_ H123_
      have S125_ := Same.trans S121_ S124_
      refine ⟨⟨Holds.slrd H123_ 2 rfl, (Holds.ro_at H123_ 0 rfl)⟩, ?_⟩
      have hq126_ := And.intro (Holds.slrd H123_ 2 rfl) ((Holds.ro_at H123_ 0 rfl))
      refine A_tk 4 (v := (vB false)) rfl (by kernel_rfl) (fun w hS => x_assign rfl) hq126_ ?_
      refine A_done (by kernel_rfl) ?_
      refine (X_then (hK116_ _ _ ?_))
      clear hK116_
      refine C_ret (X_thenR ?_)
      refine R_any (v := (vT #[(vA #[(vB false), (vI .i64 0), (vI .i64 0), (vS none 0 0), (vS none 0 0)]), (vA #[(vB false), (vI .i64 0), (vI .i64 0), (vS none 0 0), (vS none 0 0)]), (vB false)])) (run_results3 rfl ⟨_, rfl, load_resN Try.underlying59 rfl z59 rfl (vs := [(vB false), (vI .i64 0), (vI .i64 0), (vS none 0 0), (vS none 0 0)]) (Holds.cl_cells H123_ 4 rfl 0 rfl)⟩ ⟨_, rfl, load_resN Try.underlying59 rfl z59 rfl (vs := [(vB false), (vI .i64 0), (vI .i64 0), (vS none 0 0), (vS none 0 0)]) (Holds.cl_cells H123_ 3 rfl 0 rfl)⟩ rfl) ?_
      have H127_ : Holds w122_ (ro R19_ :: F) := (Holds.pkF H123_ [0] 5 :)
      exact ⟨R19_, _, _, rfl, hs18_, (.inl ⟨rfl, rfl⟩), S125_, H127_⟩
     refine AllR.cons ?_ AllR.nil
     refine A_op0 (ls' := #[true, false, true, false, false]) rfl (by kernel_rfl) (T_storeN (vs := [(vB false), (vI .i64 0), (vI .i64 0), (vS none 0 0), (vS none 0 0)]) rfl rfl z59 rfl (by simp [Value.oneCell']) H117_ 4 rfl (Nat.le_of_ble_eq_true (by rfl)) ?_)
     intro w128_ S130_ H129_
     have S131_ := Same.trans (Same.trans S114_ (Same.drew _)) S130_
     refine ⟨⟨Holds.slrd H129_ 2 rfl, (Holds.ro_at H129_ 0 rfl)⟩, ?_⟩
     refine A_ready (i := 1) (rs := []) (by kernel_rfl) ?_
     refine AllR.cons ?_ AllR.nil
     refine A_op (ls' := #[true, true, true, false, false]) rfl (by kernel_rfl) (T_val (v := (vA #[(vB false), (vI .i64 0), (vI .i64 0), (vS none 0 0), (vS none 0 0)])) (x_loadN (vs := [(vB false), (vI .i64 0), (vI .i64 0), (vS none 0 0), (vS none 0 0)]) rfl Try.underlying59 rfl z59 rfl (Rd.cells (Holds.rd H129_ 3 rfl) 0 rfl)) ?_)
     refine ⟨⟨Holds.slrd H129_ 2 rfl, (Holds.ro_at H129_ 0 rfl)⟩, ?_⟩
     refine A_ready (i := 3) (rs := []) (by kernel_rfl) ?_
     refine AllR.cons ?_ AllR.nil
     refine A_op0 (ls' := #[true, true, true, true, false]) rfl (by kernel_rfl) (T_storeN (vs := [(vB false), (vI .i64 0), (vI .i64 0), (vS none 0 0), (vS none 0 0)]) rfl rfl z59 rfl (by simp [Value.oneCell']) H129_ 3 rfl (Nat.le_of_ble_eq_true (by rfl)) ?_)
     intro w132_ S134_ H133_
     have S135_ := Same.trans S131_ S134_
     refine ⟨⟨Holds.slrd H133_ 2 rfl, (Holds.ro_at H133_ 0 rfl)⟩, ?_⟩
     have hq136_ := And.intro (Holds.slrd H133_ 2 rfl) ((Holds.ro_at H133_ 0 rfl))
     refine A_tk 4 (v := (vB false)) rfl (by kernel_rfl) (fun w hS => x_assign rfl) hq136_ ?_
     refine A_done (by kernel_rfl) ?_
     refine (X_then (hK116_ _ _ ?_))
     clear hK116_
     refine C_ret (X_thenR ?_)
     refine R_any (v := (vT #[(vA #[(vB false), (vI .i64 0), (vI .i64 0), (vS none 0 0), (vS none 0 0)]), (vA #[(vB false), (vI .i64 0), (vI .i64 0), (vS none 0 0), (vS none 0 0)]), (vB false)])) (run_results3 rfl ⟨_, rfl, load_resN Try.underlying59 rfl z59 rfl (vs := [(vB false), (vI .i64 0), (vI .i64 0), (vS none 0 0), (vS none 0 0)]) (Holds.cl_cells H133_ 4 rfl 0 rfl)⟩ ⟨_, rfl, load_resN Try.underlying59 rfl z59 rfl (vs := [(vB false), (vI .i64 0), (vI .i64 0), (vS none 0 0), (vS none 0 0)]) (Holds.cl_cells H133_ 3 rfl 0 rfl)⟩ rfl) ?_
     have H137_ : Holds w132_ (ro R19_ :: F) := (Holds.pkF H133_ [0] 5 :)
     exact ⟨R19_, _, _, rfl, hs18_, (.inl ⟨rfl, rfl⟩), S135_, H137_⟩
    refine AllR.cons ?_ AllR.nil
    refine A_op (ls' := #[false, true, false, false, false]) rfl (by kernel_rfl) (T_val (v := (vA #[(vB false), (vI .i64 0), (vI .i64 0), (vS none 0 0), (vS none 0 0)])) (x_loadN (vs := [(vB false), (vI .i64 0), (vI .i64 0), (vS none 0 0), (vS none 0 0)]) rfl Try.underlying59 rfl z59 rfl (Rd.cells (Holds.rd H117_ 3 rfl) 0 rfl)) ?_)
    refine ⟨⟨Holds.slrd H117_ 2 rfl, (Holds.ro_at H117_ 0 rfl)⟩, ?_⟩
    refine A_ready (i := 0) (rs := []) (by kernel_rfl) ?_
    refine AllR.cons ?_ AllR.nil
    refine A_op (ls' := #[true, true, false, false, false]) rfl (by kernel_rfl) (T_val (v := (vA #[(vB false), (vI .i64 0), (vI .i64 0), (vS none 0 0), (vS none 0 0)])) (x_loadN (vs := [(vB false), (vI .i64 0), (vI .i64 0), (vS none 0 0), (vS none 0 0)]) rfl Try.underlying59 rfl z59 rfl (Rd.cells (Holds.rd H117_ 4 rfl) 0 rfl)) ?_)
    refine ⟨⟨Holds.slrd H117_ 2 rfl, (Holds.ro_at H117_ 0 rfl)⟩, ?_⟩
    refine A_ready (i := 2) (rs := []) (by kernel_rfl) ?_
    refine AllR.cons ?_ AllR.nil
    refine A_op0 (ls' := #[true, true, true, false, false]) rfl (by kernel_rfl) (T_storeN (vs := [(vB false), (vI .i64 0), (vI .i64 0), (vS none 0 0), (vS none 0 0)]) rfl rfl z59 rfl (by simp [Value.oneCell']) H117_ 4 rfl (Nat.le_of_ble_eq_true (by rfl)) ?_)
    intro w138_ S140_ H139_
    have S141_ := Same.trans (Same.trans S114_ (Same.drew _)) S140_
    refine ⟨⟨Holds.slrd H139_ 2 rfl, (Holds.ro_at H139_ 0 rfl)⟩, ?_⟩
    refine A_ready (i := 3) (rs := []) (by kernel_rfl) ?_
    refine AllR.cons ?_ AllR.nil
    refine A_op0 (ls' := #[true, true, true, true, false]) rfl (by kernel_rfl) (T_storeN (vs := [(vB false), (vI .i64 0), (vI .i64 0), (vS none 0 0), (vS none 0 0)]) rfl rfl z59 rfl (by simp [Value.oneCell']) H139_ 3 rfl (Nat.le_of_ble_eq_true (by rfl)) ?_)
    intro w142_ S144_ H143_
    have S145_ := Same.trans S141_ S144_
    refine ⟨⟨Holds.slrd H143_ 2 rfl, (Holds.ro_at H143_ 0 rfl)⟩, ?_⟩
    have hq146_ := And.intro (Holds.slrd H143_ 2 rfl) ((Holds.ro_at H143_ 0 rfl))
    refine A_tk 4 (v := (vB false)) rfl (by kernel_rfl) (fun w hS => x_assign rfl) hq146_ ?_
    refine A_done (by kernel_rfl) ?_
    refine (X_then (hK116_ _ _ ?_))
    clear hK116_
    refine C_ret (X_thenR ?_)
    refine R_any (v := (vT #[(vA #[(vB false), (vI .i64 0), (vI .i64 0), (vS none 0 0), (vS none 0 0)]), (vA #[(vB false), (vI .i64 0), (vI .i64 0), (vS none 0 0), (vS none 0 0)]), (vB false)])) (run_results3 rfl ⟨_, rfl, load_resN Try.underlying59 rfl z59 rfl (vs := [(vB false), (vI .i64 0), (vI .i64 0), (vS none 0 0), (vS none 0 0)]) (Holds.cl_cells H143_ 4 rfl 0 rfl)⟩ ⟨_, rfl, load_resN Try.underlying59 rfl z59 rfl (vs := [(vB false), (vI .i64 0), (vI .i64 0), (vS none 0 0), (vS none 0 0)]) (Holds.cl_cells H143_ 3 rfl 0 rfl)⟩ rfl) ?_
    have H147_ : Holds w142_ (ro R19_ :: F) := (Holds.pkF H143_ [0] 5 :)
    exact ⟨R19_, _, _, rfl, hs18_, (.inl ⟨rfl, rfl⟩), S145_, H147_⟩
   ·skip
    refine C_skip (X_then (hK74_ _ _ ?_))
    clear hK74_
    refine C_seq (fun K148_ hK148_ => C_reg ?_)
    refine sv (v := (vI .i64 ord)) (x_move rfl) ?_
    refine sv (v := (vS oa21_ (List.length O23_) oc22_)) (x_move rfl) ?_
    refine sv (v := (vA #[(vI .i64 o.kind), (Value.string o.in__In_Begin), (Value.string o.in__In_End), (vB o.in__In_Point), (vI .i64 o.in__From), (vI .i64 o.in__Till), (vI .i64 o.val), (vI .i64 o.n), (vS none 0 0), (vS none 0 0)])) (x_loadN (vs := [(vI .i64 o.kind), (Value.string o.in__In_Begin), (Value.string o.in__In_End), (vB o.in__In_Point), (vI .i64 o.in__From), (vI .i64 o.in__Till), (vI .i64 o.val), (vI .i64 o.n), (vS none 0 0), (vS none 0 0)]) rfl Try.underlying63 rfl z63 rfl (Rd.cells (Holds.rd H111_ 5 rfl) 0 rfl)) ?_
    refine S_list (T_new (obj := .cells #[(vI .i64 o.kind), (Value.string o.in__In_Begin), (Value.string o.in__In_End), (vB o.in__In_Point), (vI .i64 o.in__From), (vI .i64 o.in__Till), (vI .i64 o.val), (vI .i64 o.n), (vS none 0 0), (vS none 0 0)] 63) (f := fun b__ => .slice (some ⟨b__, 0, none⟩) 1 1) (A := fun b__ => cl b__ 63 [(vI .i64 o.kind), (Value.string o.in__In_Begin), (Value.string o.in__In_End), (vB o.in__In_Point), (vI .i64 o.in__From), (vI .i64 o.in__Till), (vI .i64 o.val), (vI .i64 o.n), (vS none 0 0), (vS none 0 0)]) (by kernel_rfl) (fun l h => h.alloc _ _) H111_ ?_)
    intro b149_ w150_ S152_ H151_
    have S153_ := Same.trans S114_ S152_
    refine S_list (T_append rfl rfl Try.underlying66 z63 rfl (by decide) H151_ 3 rfl (Holds.cl_src H151_ 0 rfl Try.underlying66 (by simp [Value.oneCell']) rfl) (by first | omega | (simp only [List.length_append, List.length_cons, List.length_nil]; omega)) ?_)
    intro v154_ w155_ S157_ H156_
    have S158_ := Same.trans S153_ S157_
    have H159_ := Holds.resl H156_ 3 rfl (by rw [List.flatMap_append]; rfl : (O23_.flatMap TX.cells) ++ [(vI .i64 o.kind), (Value.string o.in__In_Begin), (Value.string o.in__In_End), (vB o.in__In_Point), (vI .i64 o.in__From), (vI .i64 o.in__Till), (vI .i64 o.val), (vI .i64 o.n), (vS none 0 0), (vS none 0 0)] = (O23_ ++ [TO.bare o]).flatMap TX.cells) (by rw [List.length_append]; rfl : (List.length O23_) + 1 = (List.length (O23_ ++ [TO.bare o])))
    have hor_ := hrg_ (by simpa using c76_f)
    have hsp_ : spanB ord o.sn = true := by simpa using c115_f
    have hOl_ : ((O23_ ++ [TO.bare o])).length = O23_.length + 1 := by rw [List.length_append]; rfl
    have H160_ := ((Holds.bring (Holds.bring H159_ 3 rfl) 2 rfl) :)
    obtain ⟨R161_, hs162_, ⟨R163_, ha164_, hs165_⟩, H166_⟩ := Holds.gift H160_
    have hz_R_R161_ := Sub.trans' hs18_ hs162_
    have hr167_ : RS R161_ 10 v154_ (List.length (O23_ ++ [TO.bare o])) ((O23_ ++ [TO.bare o]).flatMap TX.cells) := (sl_RS ha164_ (Sub.rfl' _)).mono hs165_
    refine S_list (T_callG (al := [(vI .i64 ord), v154_]) (pre := []) rfl rfl cb35 (tdTree R161_ ord v154_ (O23_ ++ [TO.bare o]) hr167_ (by omega) (Fil.ops hF_ hor_ (by omega) ⟨(by have h__ : (TO.bare o).q.kind = 3 := hk; omega), spanB_ok hsp_ hor_ ho.1 ho.2, hF_.mlen hpl_, fun _ => by rw [hF_.t]; exact hF_.u, fun h => by have h__ : o.kind = 5 := h; omega, fun h => by have h__ : o.kind = 10 := h; omega⟩)) H166_ ?_)
    rintro R169_ v170_ p178_ w175_ hs168_ ⟨_, A171_, rfl, rfl, he172_, he173_, he174_⟩ S177_ H176_
    have S179_ := Same.trans S158_ S177_
    have hz_R_R169_ := Sub.trans' hz_R_R161_ hs168_
    have hz_R19__R169_ := Sub.trans' hs162_ hs168_
    have hAl_ := he173_
    refine sv (v := v170_) (x_assign rfl) ?_
    refine wpList_nil (X_then (hK148_ _ _ ?_))
    clear hK148_
    refine C_seq (fun K180_ hK180_ => ?_)
    refine C_seq (fun K181_ hK181_ => C_reg ?_)
    refine sv (v := v170_) (x_move rfl) ?_
    refine sv (v := (vI .i64 ((List.length A171_) : Int))) (x_lenRS rfl he172_ Try.underlying71) ?_
    refine sv (v := (vS oa21_ (List.length O23_) oc22_)) (x_move rfl) ?_
    refine sv (v := (vI .i64 ((List.length O23_) : Int))) (x_lenS rfl Try.underlying66) ?_
    refine sv (v := (vI .i64 (((List.length O23_) : Int) + 1))) (x_bin rfl rfl (ib_add (IntWalk.i64_in _ (by omega)))) ?_
    refine sv (v := (vB (decide (((List.length A171_) : Int) ≠ ((List.length O23_) : Int) + 1)))) (x_bin rfl rfl rfl) ?_
    refine wpList_nil (X_then (hK181_ _ _ ?_))
    clear hK181_
    refine C_cond (b := decide (((List.length A171_) : Int) ≠ ((List.length O23_) : Int) + 1)) rfl (fun c182_t => ?_) (fun c182_f => ?_)
    ·have c182_tp : ((List.length A171_) : Int) ≠ ((List.length O23_) : Int) + 1 := of_decide_eq_true c182_t
     omega
    ·have c182_fp : ¬ (((List.length A171_) : Int) ≠ ((List.length O23_) : Int) + 1) := of_decide_eq_false c182_f
     refine C_skip (X_then (hK180_ _ _ ?_))
     clear hK180_
     refine C_seq (fun K183_ hK183_ => ?_)
     refine A_start (S := fun w => Rd pb24_ [(vI .i64 ord), pv25_] w ∧ Rd b2_ [(vI .i64 o.kind), (Value.string o.in__In_Begin), (Value.string o.in__In_End), (vB o.in__In_Point), (vI .i64 o.in__From), (vI .i64 o.in__Till), (vI .i64 o.val), (vI .i64 o.n), (vS none 0 0), (vS none 0 0)] w ∧ Sub R169_ (hp w)) (N := 11) foll rfl rfl ?_
     have H184_ := Holds.drew_ H176_
     have hq185_ := And.intro (Holds.rd H184_ 2 rfl) (And.intro (Holds.rd H184_ 5 rfl) ((Holds.ro_at H184_ 0 rfl)))
     refine A_tk 0 (v := v170_) rfl (by kernel_rfl) (fun w hS => x_move rfl) hq185_ ?_
     refine A_tk 1 (v := (vS oa21_ (List.length O23_) oc22_)) rfl (by kernel_rfl) (fun w hS => x_move rfl) hq185_ ?_
     refine A_tk 2 (v := (vI .i64 ((List.length O23_) : Int))) rfl (by kernel_rfl) (fun w hS => x_lenS rfl Try.underlying66) hq185_ ?_
     obtain ⟨x186_, hx187_, hm188_⟩ := elem_at A171_ (List.length O23_) (by omega)
     have hAa189_ := AnsTo.last (he174_) hx187_
     refine A_tk 3 (v := (vP (some ⟨(sb v170_), so v170_ + ((List.length O23_) * 5 + 0), none⟩))) rfl (by kernel_rfl) (fun w hS => x_idxRS (v := v170_) rfl he172_ rfl Try.underlying71 z59 (by omega) (by omega) (by omega : _ = (List.length O23_)) rfl) hq185_ ?_
     refine A_tk 4 (v := (vA #[(vB x186_.oK), (vI .i64 x186_.n), (vI .i64 x186_.most), x186_.list, x186_.vals])) rfl (by kernel_rfl) (fun w hS => x_loadN (vs := [(vB x186_.oK), (vI .i64 x186_.n), (vI .i64 x186_.most), x186_.list, x186_.vals]) rfl Try.underlying59 rfl z59 rfl (RC.cells (RS.rc he172_) hS.2.2 ((List.length O23_) * 5 + 0) (fm_cells TA.len hx187_ (i := 0) rfl))) hq185_ ?_
     refine A_tk 5 (v := (vQ pb24_)) rfl (by kernel_rfl) (fun w hS => x_move rfl) hq185_ ?_
     refine A_tk 6 (v := (vA #[(vI .i64 o.kind), (Value.string o.in__In_Begin), (Value.string o.in__In_End), (vB o.in__In_Point), (vI .i64 o.in__From), (vI .i64 o.in__Till), (vI .i64 o.val), (vI .i64 o.n), (vS none 0 0), (vS none 0 0)])) rfl (by kernel_rfl) (fun w hS => x_loadN (vs := [(vI .i64 o.kind), (Value.string o.in__In_Begin), (Value.string o.in__In_End), (vB o.in__In_Point), (vI .i64 o.in__From), (vI .i64 o.in__Till), (vI .i64 o.val), (vI .i64 o.n), (vS none 0 0), (vS none 0 0)]) rfl Try.underlying63 rfl z63 rfl (Rd.cells hS.2.1 0 rfl)) hq185_ ?_
     refine A_ready (i := 7) (rs := []) (by kernel_rfl) ?_
     refine AllR.cons ?_ AllR.nil
     have H195_ := ((Holds.bring (Holds.bring H184_ 2 rfl) 1 rfl) :)
     refine A_op (ls' := #[true, true, true, true, true, true, true, true, false, false, false]) rfl (by kernel_rfl) (T_callG (al := [(vQ pb24_), (vA #[(vI .i64 (((TO.bare o).q).kind)), (Value.string (((TO.bare o).q).in__In_Begin)), (Value.string (((TO.bare o).q).in__In_End)), (vB (((TO.bare o).q).in__In_Point)), (vI .i64 (((TO.bare o).q).in__From)), (vI .i64 (((TO.bare o).q).in__Till)), (vI .i64 (((TO.bare o).q).val)), (vI .i64 (((TO.bare o).q).n)), (((TO.bare o).q).other), (((TO.bare o).q).vals)])]) (pre := [cl pb24_ 75 [(vI .i64 ord), pv25_]]) rfl (lcons rfl (lcons (congrArg (fun l => vA (List.toArray l)) (lcons (congrArg (vI .i64) ((by first | rfl | omega | (simp; done) | (simp; omega)) : o.kind = ((TO.bare o).q).kind)) (lcons (congrArg Value.string ((by first | rfl | omega | (simp; done) | (simp; omega)) : o.in__In_Begin = (((TO.bare o).q).in__In_Begin))) (lcons (congrArg Value.string ((by first | rfl | omega | (simp; done) | (simp; omega)) : o.in__In_End = (((TO.bare o).q).in__In_End))) (lcons (congrArg vB ((by first | rfl | omega | (simp; done) | (simp; omega)) : o.in__In_Point = (((TO.bare o).q).in__In_Point))) (lcons (congrArg (vI .i64) ((by first | rfl | omega | (simp; done) | (simp; omega)) : o.in__From = ((TO.bare o).q).in__From)) (lcons (congrArg (vI .i64) ((by first | rfl | omega | (simp; done) | (simp; omega)) : o.in__Till = ((TO.bare o).q).in__Till)) (lcons (congrArg (vI .i64) ((by first | rfl | omega | (simp; done) | (simp; omega)) : o.val = ((TO.bare o).q).val)) (lcons (congrArg (vI .i64) ((by first | rfl | omega | (simp; done) | (simp; omega)) : o.n = ((TO.bare o).q).n)) (lcons ((by first | rfl | omega | (simp; done) | (simp; omega)) : (vS none 0 0) = (((TO.bare o).q).other)) (lcons ((by first | rfl | omega | (simp; done) | (simp; omega)) : (vS none 0 0) = (((TO.bare o).q).vals)) rfl))))))))))) rfl)) cb59 (spDo3 R169_ ord pb24_ pv25_ P26_ ((TO.bare o).q) ((he28_.mono hz_R19__R169_)) (hF_.z) (ho.1) (by omega) (hk)) H195_ ?_)
     rintro R191_ v192_ p199_ w196_ hs190_ ⟨a193_, rfl, rfl, he194_⟩ S198_ H197_
     have S200_ := Same.trans (Same.trans S179_ (Same.drew _)) S198_
     have hz_R_R191_ := Sub.trans' hz_R_R169_ hs190_
     have hz_R19__R191_ := Sub.trans' hz_R19__R169_ hs190_
     have hz_R161__R191_ := Sub.trans' hs168_ hs190_
     refine ⟨⟨Holds.rd H197_ 1 rfl, Holds.rd H197_ 5 rfl, (Sub.trans' hs190_ (Holds.ro_at H197_ 0 rfl))⟩, ?_⟩
     refine A_ready (i := 8) (rs := []) (by kernel_rfl) ?_
     refine AllR.cons ?_ AllR.nil
     refine A_op0 (ls' := #[true, true, true, true, true, true, true, true, true, false, false]) rfl (by kernel_rfl) (T_storeN (vs := [(vB x186_.oK), (vI .i64 x186_.n), (vI .i64 x186_.most), x186_.list, x186_.vals]) rfl rfl z59 rfl (List.forall_mem_cons.2 ⟨rfl, (List.forall_mem_cons.2 ⟨rfl, (List.forall_mem_cons.2 ⟨rfl, (List.forall_mem_cons.2 ⟨(RS.one (RS.mono (hAa189_.2.2.1) hs190_)), (List.forall_mem_cons.2 ⟨(RS.one (RS.mono (hAa189_.2.2.2) hs190_)), (fun _ h__ => by cases h__)⟩)⟩)⟩)⟩)⟩) H197_ 4 rfl (Nat.le_of_ble_eq_true (by rfl)) ?_)
     intro w201_ S203_ H202_
     have S204_ := Same.trans S200_ S203_
     refine ⟨⟨Holds.rd H202_ 1 rfl, Holds.rd H202_ 5 rfl, (Sub.trans' hs190_ (Holds.ro_at H202_ 0 rfl))⟩, ?_⟩
     refine A_ready (i := 9) (rs := []) (by kernel_rfl) ?_
     refine AllR.cons ?_ AllR.nil
     refine A_op0 (ls' := #[true, true, true, true, true, true, true, true, true, true, false]) rfl (by kernel_rfl) (T_storeN (vs := [(vB a193_.oK), (vI .i64 a193_.n), (vI .i64 a193_.most), a193_.list, a193_.vals]) rfl rfl z59 rfl (List.forall_mem_cons.2 ⟨rfl, (List.forall_mem_cons.2 ⟨rfl, (List.forall_mem_cons.2 ⟨rfl, (List.forall_mem_cons.2 ⟨(RS.one (he194_.2.2.1)), (List.forall_mem_cons.2 ⟨(RS.one (he194_.2.2.2)), (fun _ h__ => by cases h__)⟩)⟩)⟩)⟩)⟩) H202_ 3 rfl (Nat.le_of_ble_eq_true (by rfl)) ?_)
     intro w205_ S207_ H206_
     have S208_ := Same.trans S204_ S207_
     refine ⟨⟨Holds.rd H206_ 1 rfl, Holds.rd H206_ 5 rfl, (Sub.trans' hs190_ (Holds.ro_at H206_ 0 rfl))⟩, ?_⟩
     have hq209_ := And.intro (Holds.rd H206_ 1 rfl) (And.intro (Holds.rd H206_ 5 rfl) ((Sub.trans' hs190_ (Holds.ro_at H206_ 0 rfl))))
     refine A_tk 10 (v := (vB true)) rfl (by kernel_rfl) (fun w hS => x_assign rfl) hq209_ ?_
     refine A_done (by kernel_rfl) ?_
     refine (X_then (hK183_ _ _ ?_))
     clear hK183_
     refine C_ret ?_
     refine R_any (v := (vT #[(vA #[(vB x186_.oK), (vI .i64 x186_.n), (vI .i64 x186_.most), x186_.list, x186_.vals]), (vA #[(vB a193_.oK), (vI .i64 a193_.n), (vI .i64 a193_.most), a193_.list, a193_.vals]), (vB true)])) (run_results3 rfl ⟨_, rfl, load_resN Try.underlying59 rfl z59 rfl (vs := [(vB x186_.oK), (vI .i64 x186_.n), (vI .i64 x186_.most), x186_.list, x186_.vals]) (Holds.cl_cells H206_ 4 rfl 0 rfl)⟩ ⟨_, rfl, load_resN Try.underlying59 rfl z59 rfl (vs := [(vB a193_.oK), (vI .i64 a193_.n), (vI .i64 a193_.most), a193_.list, a193_.vals]) (Holds.cl_cells H206_ 3 rfl 0 rfl)⟩ rfl) ?_
     have H210_ : Holds w205_ (ro R191_ :: F) := (Holds.pkF H206_ [0] 5 :)
     exact ⟨R191_, _, _, rfl, hz_R_R191_, (.inr ⟨x186_, a193_, (findX ord (P26_.map (PN.ie ord)) (o.sn.lo ord) (o.sn.hi ord)), (spFindX ord P26_ o.sn), rfl, rfl, (by have h__ := AnsTo.last ((he174_.mono hs190_)) hx187_; rw [show tdoX ord (tdoAll ord O23_) (TO.bare o) = findX ord (tdoAll ord O23_) (o.sn.lo ord) (o.sn.hi ord) from if_pos hk, hF_.t] at h__; exact h__), (he194_), (find_agree hF_.z)⟩), S208_, H210_⟩
end Go.Proofs.Ytlnihndjepjagaa
set_option linter.unusedVariables false
set_option linter.unusedSimpArgs false
namespace Go.Proofs.Ytlnihndjepjagaa
open Go Go.RowKit Gw
open Go.Value renaming int → vI, bool → vB, slice → vS, pointer → vP, agg → vA, tuple → vT

def liveS : SN := ⟨⟨#[97]⟩, ⟨#[99]⟩, false, 0, 0⟩
def liveL : List TX := [insOp liveS 4, TO.bare ⟨3, ⟨#[97]⟩, ⟨#[99]⟩, false, 0, 0, 0, 0, .slice none 0 0, .slice none 0 0⟩]
def liveX : TAx := ⟨true, 0, [ekSpan (liveS.lo 1) (liveS.hi 1)], [4]⟩
theorem liveSn : SnOk 1 liveS := ⟨⟨by decide, by decide⟩, by decide, by decide, fun h => by cases h⟩
theorem liveM : tdoAll 1 (liveL.take 1) = [⟨liveS.lo 1, liveS.hi 1, 4⟩] := rfl
theorem liveU : UniqK [⟨liveS.lo 1, liveS.hi 1, 4⟩] := fun e he e' he' _ _ => by rw [List.mem_singleton.1 he, List.mem_singleton.1 he']
theorem liveOk (R : HP) : ∀ k x, liveL[k]? = some x → OpOk 1 R (tdoAll 1 (liveL.take k)) x := by
  intro k x hx
  match k with
  | 0 =>
    have : insOp liveS 4 = x := Option.some.inj hx
    subst this
    exact ⟨.inl rfl, liveSn, Nat.zero_le _, (fun h => by cases h), (fun h => by cases h), (fun h => by cases h)⟩
  | 1 =>
    have : TO.bare ⟨3, ⟨#[97]⟩, ⟨#[99]⟩, false, 0, 0, 0, 0, .slice none 0 0, .slice none 0 0⟩ = x := Option.some.inj hx
    subst this
    rw [liveM]
    exact ⟨(by refine .inr ?_; first | rfl | exact .inl rfl), liveSn, (by show 1 ≤ 10000000; decide), (fun _ => liveU), (fun h => by cases h), (fun h => by cases h)⟩
  | k + 2 => cases hx
theorem liveAns : findX 1 [⟨liveS.lo 1, liveS.hi 1, 4⟩] (liveS.lo 1) (liveS.hi 1) = liveX := findX_hit liveU (List.mem_singleton.2 rfl) rfl rfl
theorem liveTo {R : HP} {A : List TA} {a : TA} (h : AnsTo 1 R liveL A) (ha : A[1]? = some a) : AnsAt R a liveX := by
  have := h 1 a _ ha rfl
  rw [liveM] at this
  rw [← liveAns]
  exact this


set_option maxHeartbeats 8000000 in
theorem lwLive (R : HP) :
    Tri Try.prog 32 #[] R [] (fun v__ post__ => v__ = (vB true) ∧ post__ = []) := by
 refine Tri.into (n := 37) (al := []) Try.func32 rfl Try.ntmps32 rfl rfl fun w F H => ?_
 refine C_seq (fun K1_ hK1_ => C_reg ?_)
 refine sv (v := (vB false)) (x_assign rfl) ?_
 refine wpList_nil (X_then (hK1_ _ _ ?_))
 clear hK1_
 refine C_seq (fun K2_ hK2_ => C_reg ?_)
 refine sv (v := (vA #[(Value.string (ByteArray.mk #[97])), (Value.string (ByteArray.mk #[99])), (vB false)])) (by kernel_rfl) ?_
 refine sv (v := (vA #[(Value.string (ByteArray.mk #[97])), (Value.string (ByteArray.mk #[99])), (vB false), (vI .i64 0), (vI .i64 0)])) (by kernel_rfl) ?_
 refine S_list (T_alloc z44 H ?_)
 intro b3_ w4_ S6_ H5_
 have S7_ := Same.trans (Same.refl w) S6_
 refine S_list0 (T_storeN (vs := [(Value.string (ByteArray.mk #[97])), (Value.string (ByteArray.mk #[99])), (vB false), (vI .i64 0), (vI .i64 0)]) rfl rfl z44 rfl (by simp [Value.oneCell']) H5_ 0 rfl (Nat.le_of_ble_eq_true (by rfl)) ?_)
 intro w8_ S10_ H9_
 have S11_ := Same.trans S7_ S10_
 refine wpList_nil (X_then (hK2_ _ _ ?_))
 clear hK2_
 refine C_seq (fun K12_ hK12_ => C_reg ?_)
 refine sv (v := (vA #[(Value.string (ByteArray.mk #[97])), (Value.string (ByteArray.mk #[99])), (vB false), (vI .i64 0), (vI .i64 0)])) (x_loadN (vs := [(Value.string (ByteArray.mk #[97])), (Value.string (ByteArray.mk #[99])), (vB false), (vI .i64 0), (vI .i64 0)]) rfl Try.underlying44 rfl z44 rfl (Rd.cells (Holds.rd H9_ 0 rfl) 0 rfl)) ?_
 refine sv (v := (vA #[(vI .i64 1), (Value.string (ByteArray.mk #[97])), (Value.string (ByteArray.mk #[99])), (vB false), (vI .i64 0), (vI .i64 0), (vI .i64 4), (vI .i64 0), (vS none 0 0), (vS none 0 0)])) (by kernel_rfl) ?_
 refine sv (v := (vA #[(Value.string (ByteArray.mk #[97])), (Value.string (ByteArray.mk #[99])), (vB false), (vI .i64 0), (vI .i64 0)])) (x_loadN (vs := [(Value.string (ByteArray.mk #[97])), (Value.string (ByteArray.mk #[99])), (vB false), (vI .i64 0), (vI .i64 0)]) rfl Try.underlying44 rfl z44 rfl (Rd.cells (Holds.rd H9_ 0 rfl) 0 rfl)) ?_
 refine sv (v := (vA #[(vI .i64 3), (Value.string (ByteArray.mk #[97])), (Value.string (ByteArray.mk #[99])), (vB false), (vI .i64 0), (vI .i64 0), (vI .i64 0), (vI .i64 0), (vS none 0 0), (vS none 0 0)])) (by kernel_rfl) ?_
 refine S_list (T_new (obj := .cells #[(vI .i64 1), (Value.string (ByteArray.mk #[97])), (Value.string (ByteArray.mk #[99])), (vB false), (vI .i64 0), (vI .i64 0), (vI .i64 4), (vI .i64 0), (vS none 0 0), (vS none 0 0), (vI .i64 3), (Value.string (ByteArray.mk #[97])), (Value.string (ByteArray.mk #[99])), (vB false), (vI .i64 0), (vI .i64 0), (vI .i64 0), (vI .i64 0), (vS none 0 0), (vS none 0 0)] 63) (f := fun b__ => .slice (some ⟨b__, 0, none⟩) 2 2) (A := fun b__ => cl b__ 63 [(vI .i64 1), (Value.string (ByteArray.mk #[97])), (Value.string (ByteArray.mk #[99])), (vB false), (vI .i64 0), (vI .i64 0), (vI .i64 4), (vI .i64 0), (vS none 0 0), (vS none 0 0), (vI .i64 3), (Value.string (ByteArray.mk #[97])), (Value.string (ByteArray.mk #[99])), (vB false), (vI .i64 0), (vI .i64 0), (vI .i64 0), (vI .i64 0), (vS none 0 0), (vS none 0 0)]) (by kernel_rfl) (fun l h => h.alloc _ _) H9_ ?_)
 intro b13_ w14_ S16_ H15_
 have S17_ := Same.trans S11_ S16_
 have H18_ := ((Holds.bring H15_ 2 rfl) :)
 obtain ⟨R19_, hs20_, ⟨R21_, ha22_, hs23_⟩, H24_⟩ := Holds.gift H18_
 have hr25_ : RS R19_ 10 (vS (some ⟨b13_, 0, none⟩) 2 2) 2 (liveL.flatMap TX.cells) := (RS.set_ (cl_RSn (sz := 10) ha22_ (Sub.rfl' _) (by rfl) (by omega)) rfl rfl).mono hs23_
 refine S_list (T_callG (al := [(vI .i64 1), ((vS (some ⟨b13_, 0, none⟩) 2 2))]) (pre := []) rfl (lcons rfl (lcons (rfl : (vS (some ⟨b13_, 0, none⟩) 2 2) = ((vS (some ⟨b13_, 0, none⟩) 2 2))) rfl)) cb35 (tdTree R19_ 1 (vS (some ⟨b13_, 0, none⟩) 2 2) liveL (RS.set_ hr25_ rfl (by first | rfl | omega | (simp; done) | (simp; omega))) (by decide) (liveOk R19_)) H24_ ?_)
 rintro R27_ v28_ p36_ w33_ hs26_ ⟨_, A29_, rfl, rfl, he30_, he31_, he32_⟩ S35_ H34_
 have S37_ := Same.trans S17_ S35_
 have hz_R_R27_ := Sub.trans' hs20_ hs26_
 have hAl_ := he31_
 have hll_ : liveL.length = 2 := rfl
 have hlv_ : liveX.V.length = 1 := rfl
 refine sv (v := v28_) (x_assign rfl) ?_
 refine wpList_nil (X_then (hK12_ _ _ ?_))
 clear hK12_
 refine C_seq (fun K38_ hK38_ => C_reg ?_)
 refine sv (v := v28_) (x_move rfl) ?_
 refine sv (v := (vI .i64 ((List.length A29_) : Int))) (x_lenRS rfl he30_ Try.underlying71) ?_
 refine sv (v := (vB (decide (((List.length A29_) : Int) = 2)))) (x_bin rfl rfl rfl) ?_
 refine sv (v := (vB (decide (((List.length A29_) : Int) = 2)))) (x_move rfl) ?_
 rcases Bool.eq_false_or_eq_true (decide (((List.length A29_) : Int) = 2)) with c39_t | c39_f
 ·have c39_tp : ((List.length A29_) : Int) = 2 := of_decide_eq_true c39_t
  refine S_yes (j := 3) (dj := 14) (b := true) rfl rfl (congrArg vB c39_t) (T_val (v := v28_) (x_move rfl) ?_)
  obtain ⟨x40_, hx41_, hm42_⟩ := elem_at A29_ 1 (by omega)
  have hAa43_ := liveTo (he32_) hx41_
  have hoa_ : x40_.oK = true := hAa43_.1
  refine S_yes (j := 3) (dj := 14) (b := true) rfl rfl (congrArg vB c39_t) (T_val (v := (vP (some ⟨(sb v28_), so v28_ + (5 + 0), none⟩))) (x_idxRS (v := v28_) rfl he30_ rfl Try.underlying71 z59 (by omega) (by omega) (by omega : _ = 1) rfl) ?_)
  refine S_yes (j := 3) (dj := 14) (b := true) rfl rfl (congrArg vB c39_t) (T_val (v := (vP (some ⟨(sb v28_), so v28_ + (5 + 0), none⟩))) (by kernel_rfl) ?_)
  refine S_yes (j := 3) (dj := 14) (b := true) rfl rfl (congrArg vB c39_t) (T_val (v := (vB x40_.oK)) (x_load1 rfl Try.underlying4 rfl (RC.cell (RS.rc he30_) (Holds.ro_at H34_ 0 rfl) (j := 5 + 0) (u := (vB x40_.oK)) (fm_cell TA.len hx41_ (i := 0) rfl))) ?_)
  refine S_list (T_pickT (v := (vB x40_.oK)) (congrArg vB c39_t) rfl ?_)
  refine sv (v := (vB x40_.oK)) (x_move rfl) ?_
  rcases Bool.eq_false_or_eq_true (x40_.oK) with c44_t | c44_f
  ·skip
   refine S_yes (j := 9) (dj := 20) (b := true) rfl rfl (congrArg vB c44_t) (T_val (v := v28_) (x_move rfl) ?_)
   refine S_yes (j := 9) (dj := 20) (b := true) rfl rfl (congrArg vB c44_t) (T_val (v := (vP (some ⟨(sb v28_), so v28_ + (5 + 0), none⟩))) (x_idxRS (v := v28_) rfl he30_ rfl Try.underlying71 z59 (by omega) (by omega) (by omega : _ = 1) rfl) ?_)
   refine S_yes (j := 9) (dj := 20) (b := true) rfl rfl (congrArg vB c44_t) (T_val (v := (vP (some ⟨(sb v28_), so v28_ + (5 + 4), none⟩))) (by kernel_rfl) ?_)
   refine S_yes (j := 9) (dj := 20) (b := true) rfl rfl (congrArg vB c44_t) (T_val (v := x40_.vals) (x_load1 rfl Try.underlying35 rfl (RC.cell (RS.rc he30_) (Holds.ro_at H34_ 0 rfl) (j := 5 + 4) (u := x40_.vals) (fm_cell TA.len hx41_ (i := 4) rfl))) ?_)
   refine S_yes (j := 9) (dj := 20) (b := true) rfl rfl (congrArg vB c44_t) (T_val (v := (vI .i64 ((List.length liveX.V) : Int))) (x_lenRS rfl (hAa43_.2.2.2) Try.underlying35) ?_)
   refine S_yes (j := 9) (dj := 20) (b := true) rfl rfl (congrArg vB c44_t) (T_val (v := (vB (decide (((List.length liveX.V) : Int) = 1)))) (x_bin rfl rfl rfl) ?_)
   refine S_list (T_pickT (v := (vB (decide (((List.length liveX.V) : Int) = 1)))) (congrArg vB c44_t) rfl ?_)
   refine sv (v := (vB (decide (((List.length liveX.V) : Int) = 1)))) (x_move rfl) ?_
   rcases Bool.eq_false_or_eq_true (decide (((List.length liveX.V) : Int) = 1)) with c45_t | c45_f
   ·have c45_tp : ((List.length liveX.V) : Int) = 1 := of_decide_eq_true c45_t
    refine S_yes (j := 17) (dj := 28) (b := true) rfl rfl (congrArg vB c45_t) (T_val (v := v28_) (x_move rfl) ?_)
    refine S_yes (j := 17) (dj := 28) (b := true) rfl rfl (congrArg vB c45_t) (T_val (v := (vP (some ⟨(sb v28_), so v28_ + (5 + 0), none⟩))) (x_idxRS (v := v28_) rfl he30_ rfl Try.underlying71 z59 (by omega) (by omega) (by omega : _ = 1) rfl) ?_)
    refine S_yes (j := 17) (dj := 28) (b := true) rfl rfl (congrArg vB c45_t) (T_val (v := (vP (some ⟨(sb v28_), so v28_ + (5 + 4), none⟩))) (by kernel_rfl) ?_)
    refine S_yes (j := 17) (dj := 28) (b := true) rfl rfl (congrArg vB c45_t) (T_val (v := x40_.vals) (x_load1 rfl Try.underlying35 rfl (RC.cell (RS.rc he30_) (Holds.ro_at H34_ 0 rfl) (j := 5 + 4) (u := x40_.vals) (fm_cell TA.len hx41_ (i := 4) rfl))) ?_)
    obtain ⟨x46_, hx47_, hm48_⟩ := elem_at liveX.V 0 (by omega)
    have hv4_ : x46_ = 4 := (Option.some.inj hx47_).symm
    refine S_yes (j := 17) (dj := 28) (b := true) rfl rfl (congrArg vB c45_t) (T_val (v := (vP (some ⟨(sb x40_.vals), so x40_.vals + 0, none⟩))) (x_idxRS (v := x40_.vals) rfl (hAa43_.2.2.2) rfl Try.underlying35 z3 (by omega) (by omega) (by omega : _ = 0) (by rw [Nat.mul_one])) ?_)
    refine S_yes (j := 17) (dj := 28) (b := true) rfl rfl (congrArg vB c45_t) (T_val (v := (vI .i64 x46_)) (x_load1 rfl Try.underlying3 rfl (RC.cell (RS.rc (hAa43_.2.2.2)) (Holds.ro_at H34_ 0 rfl) (j := 0) (u := (vI .i64 x46_)) ((map_at hx47_)))) ?_)
    refine S_yes (j := 17) (dj := 28) (b := true) rfl rfl (congrArg vB c45_t) (T_val (v := (vB (decide (x46_ = 4)))) (x_bin rfl rfl rfl) ?_)
    refine S_list (T_pickT (v := (vB (decide (x46_ = 4)))) (congrArg vB c45_t) rfl ?_)
    refine sv (v := (vB (decide (x46_ = 4)))) (x_assign rfl) ?_
    refine wpList_nil (X_then (hK38_ _ _ ?_))
    clear hK38_
    refine C_ret ?_
    refine R_any (v := (vB (decide (x46_ = 4)))) (run_results1 rfl rfl) ?_
    have H49_ : Holds w33_ (ro R :: cl b3_ 44 [(Value.string (ByteArray.mk #[97])), (Value.string (ByteArray.mk #[99])), (vB false), (vI .i64 0), (vI .i64 0)] :: F) := Holds.ro_less H34_ hz_R_R27_
    have H50_ : Holds w33_ (ro R :: F) := (Holds.pkF H49_ [0] 1 :)
    exact ⟨_, _, rfl, ⟨(congrArg vB ((by have h__ := hv4_; rw [h__]; rfl) : (decide (x46_ = 4)) = true)), rfl⟩, S37_, H50_⟩
   ·have c45_fp : ¬ (((List.length liveX.V) : Int) = 1) := of_decide_eq_false c45_f
    omega
  ·skip
   exact absurd hoa_ (by rw [c44_f]; decide)
 ·have c39_fp : ¬ (((List.length A29_) : Int) = 2) := of_decide_eq_false c39_f
  omega

set_option maxHeartbeats 8000000 in
theorem fnTreeFind (R : HP) (ord : Int) (v : Value) (l : List SN) (q : SN) (hv : RS R 5 v (List.length l) (l.flatMap SN.cells)) :
    Tri Try.prog 7 #[(vI .i64 ord), v, (vA #[(Value.string q.in__Begin), (Value.string q.in__End), (vB q.in__Point), (vI .i64 q.from_), (vI .i64 q.till)])] R [] (fun v__ post__ => v__ = (vB true) ∧ post__ = []) := by
 refine Tri.into (n := 38) (al := [(vI .i64 ord), v, (vA #[(Value.string q.in__Begin), (Value.string q.in__End), (vB q.in__Point), (vI .i64 q.from_), (vI .i64 q.till)])]) Try.func7 rfl Try.ntmps7 rfl rfl fun w F H => ?_
 refine C_seq (fun K1_ hK1_ => C_reg ?_)
 refine S_list (T_box (v := (vA #[(Value.string q.in__Begin), (Value.string q.in__End), (vB q.in__Point), (vI .i64 q.from_), (vI .i64 q.till)])) rfl H ?_)
 intro b2_ w3_ S5_ H4_
 have S6_ := Same.trans (Same.refl w) S5_
 refine sv (v := (vB false)) (x_assign rfl) ?_
 refine wpList_nil (X_then (hK1_ _ _ ?_))
 clear hK1_
 refine C_seq (fun K7_ hK7_ => ?_)
 refine C_seq (fun K8_ hK8_ => C_reg ?_)
 refine sv (v := v) (x_move rfl) ?_
 have H12_ := ((Holds.bring H4_ 1 rfl) :)
 refine S_list (T_call (al := [v]) (pre := []) rfl rfl cb28 (lwFits38 R v l hv) H12_ ?_)
 rintro v9_ p16_ w13_ ⟨b10_, rfl, rfl, he11_⟩ S15_ H14_
 have S17_ := Same.trans S6_ S15_
 refine sv (v := (vB (!b10_))) (x_not rfl) ?_
 refine sv (v := (vB (!b10_))) (x_move rfl) ?_
 rcases Bool.eq_false_or_eq_true (!b10_) with c18_t | c18_f
 ·skip
  refine S_no (j := 3) (dj := 13) (b := true) rfl rfl (congrArg vB c18_t) (by decide) ?_
  refine S_no (j := 3) (dj := 13) (b := true) rfl rfl (congrArg vB c18_t) (by decide) ?_
  refine S_no (j := 3) (dj := 13) (b := true) rfl rfl (congrArg vB c18_t) (by decide) ?_
  refine S_list (T_pickT (v := (vB true)) (congrArg vB c18_t) rfl ?_)
  refine wpList_nil (X_then (hK8_ _ _ ?_))
  clear hK8_
  refine C_condT rfl ?_
  refine C_seq (fun K19_ hK19_ => C_reg ?_)
  refine sv (v := (vB true)) (x_assign rfl) ?_
  refine wpList_nil (X_then (hK19_ _ _ ?_))
  clear hK19_
  refine C_ret (X_thenR ?_)
  refine R_any (v := (vB true)) (run_results1 rfl rfl) ?_
  have H20_ : Holds w13_ (ro R :: F) := (Holds.pkF H14_ [0] 1 :)
  exact ⟨_, _, rfl, ⟨rfl, rfl⟩, S17_, H20_⟩
 ·skip
  refine S_yes (j := 3) (dj := 13) (b := false) rfl rfl (congrArg vB c18_f) (T_val (v := (vA #[(Value.string q.in__Begin), (Value.string q.in__End), (vB q.in__Point), (vI .i64 q.from_), (vI .i64 q.till)])) (x_loadN (vs := [(Value.string q.in__Begin), (Value.string q.in__End), (vB q.in__Point), (vI .i64 q.from_), (vI .i64 q.till)]) rfl Try.underlying44 rfl z44 rfl (Rd.cells (Holds.rd H14_ 1 rfl) 0 rfl)) ?_)
  refine S_yes (j := 3) (dj := 13) (b := false) rfl rfl (congrArg vB c18_f) (T_call (al := [(vA #[(Value.string q.in__Begin), (Value.string q.in__End), (vB q.in__Point), (vI .i64 q.from_), (vI .i64 q.till)])]) (pre := []) rfl rfl cb29 (lwFits36 R q) H14_ ?_)
  rintro v21_ p27_ w24_ ⟨b22_, rfl, rfl, he23_⟩ S26_ H25_
  have S28_ := Same.trans S17_ S26_
  refine S_yes (j := 3) (dj := 13) (b := false) rfl rfl (congrArg vB c18_f) (T_val (v := (vB (!b22_))) (x_not rfl) ?_)
  refine S_list (T_pickF (v := (vB (!b22_))) (congrArg vB c18_f) rfl ?_)
  refine wpList_nil (X_then (hK8_ _ _ ?_))
  clear hK8_
  refine C_cond (b := !b22_) rfl (fun c29_t => ?_) (fun c29_f => ?_)
  ·skip
   refine C_seq (fun K30_ hK30_ => C_reg ?_)
   refine sv (v := (vB true)) (x_assign rfl) ?_
   refine wpList_nil (X_then (hK30_ _ _ ?_))
   clear hK30_
   refine C_ret (X_thenR ?_)
   refine R_any (v := (vB true)) (run_results1 rfl rfl) ?_
   have H31_ : Holds w24_ (ro R :: F) := (Holds.pkF H25_ [0] 1 :)
   exact ⟨_, _, rfl, ⟨rfl, rfl⟩, S28_, H31_⟩
  ·skip
   refine C_skip (X_then (hK7_ _ _ ?_))
   clear hK7_
   refine C_seq (fun K32_ hK32_ => C_reg ?_)
   refine sv (v := (vI .i64 ord)) (x_move rfl) ?_
   refine sv (v := v) (x_move rfl) ?_
   refine sv (v := (vA #[(Value.string q.in__Begin), (Value.string q.in__End), (vB q.in__Point), (vI .i64 q.from_), (vI .i64 q.till)])) (x_loadN (vs := [(Value.string q.in__Begin), (Value.string q.in__End), (vB q.in__Point), (vI .i64 q.from_), (vI .i64 q.till)]) rfl Try.underlying44 rfl z44 rfl (Rd.cells (Holds.rd H25_ 1 rfl) 0 rfl)) ?_
   refine sv (v := (vA #[(vI .i64 3), (Value.string q.in__Begin), (Value.string q.in__End), (vB q.in__Point), (vI .i64 q.from_), (vI .i64 q.till), (vI .i64 0), (vI .i64 0), (vS none 0 0), (vS none 0 0)])) (by kernel_rfl) ?_
   have hf8_ := he11_ (by simpa using c18_f)
   have hf6_ := he23_ (by simpa using c29_f)
   refine S_list (T_callG (al := [(vI .i64 ord), v, (vA #[(vI .i64 ((⟨3, q.in__Begin, q.in__End, q.in__Point, q.from_, q.till, 0, 0, .slice none 0 0, .slice none 0 0⟩ : TO).kind)), (Value.string ((⟨3, q.in__Begin, q.in__End, q.in__Point, q.from_, q.till, 0, 0, .slice none 0 0, .slice none 0 0⟩ : TO).in__In_Begin)), (Value.string ((⟨3, q.in__Begin, q.in__End, q.in__Point, q.from_, q.till, 0, 0, .slice none 0 0, .slice none 0 0⟩ : TO).in__In_End)), (vB ((⟨3, q.in__Begin, q.in__End, q.in__Point, q.from_, q.till, 0, 0, .slice none 0 0, .slice none 0 0⟩ : TO).in__In_Point)), (vI .i64 ((⟨3, q.in__Begin, q.in__End, q.in__Point, q.from_, q.till, 0, 0, .slice none 0 0, .slice none 0 0⟩ : TO).in__From)), (vI .i64 ((⟨3, q.in__Begin, q.in__End, q.in__Point, q.from_, q.till, 0, 0, .slice none 0 0, .slice none 0 0⟩ : TO).in__Till)), (vI .i64 ((⟨3, q.in__Begin, q.in__End, q.in__Point, q.from_, q.till, 0, 0, .slice none 0 0, .slice none 0 0⟩ : TO).val)), (vI .i64 ((⟨3, q.in__Begin, q.in__End, q.in__Point, q.from_, q.till, 0, 0, .slice none 0 0, .slice none 0 0⟩ : TO).n)), (vS none 0 0), (vS none 0 0)])]) (pre := []) rfl (lcons rfl (lcons rfl (lcons (congrArg (fun l => vA (List.toArray l)) (lcons (congrArg (vI .i64) ((by first | rfl | omega | (simp; done) | (simp; omega)) : 3 = (⟨3, q.in__Begin, q.in__End, q.in__Point, q.from_, q.till, 0, 0, .slice none 0 0, .slice none 0 0⟩ : TO).kind)) (lcons (congrArg Value.string ((by first | rfl | omega | (simp; done) | (simp; omega)) : q.in__Begin = ((⟨3, q.in__Begin, q.in__End, q.in__Point, q.from_, q.till, 0, 0, .slice none 0 0, .slice none 0 0⟩ : TO).in__In_Begin))) (lcons (congrArg Value.string ((by first | rfl | omega | (simp; done) | (simp; omega)) : q.in__End = ((⟨3, q.in__Begin, q.in__End, q.in__Point, q.from_, q.till, 0, 0, .slice none 0 0, .slice none 0 0⟩ : TO).in__In_End))) (lcons (congrArg vB ((by first | rfl | omega | (simp; done) | (simp; omega)) : q.in__Point = ((⟨3, q.in__Begin, q.in__End, q.in__Point, q.from_, q.till, 0, 0, .slice none 0 0, .slice none 0 0⟩ : TO).in__In_Point))) (lcons (congrArg (vI .i64) ((by first | rfl | omega | (simp; done) | (simp; omega)) : q.from_ = (⟨3, q.in__Begin, q.in__End, q.in__Point, q.from_, q.till, 0, 0, .slice none 0 0, .slice none 0 0⟩ : TO).in__From)) (lcons (congrArg (vI .i64) ((by first | rfl | omega | (simp; done) | (simp; omega)) : q.till = (⟨3, q.in__Begin, q.in__End, q.in__Point, q.from_, q.till, 0, 0, .slice none 0 0, .slice none 0 0⟩ : TO).in__Till)) (lcons (congrArg (vI .i64) ((by first | rfl | omega | (simp; done) | (simp; omega)) : 0 = (⟨3, q.in__Begin, q.in__End, q.in__Point, q.from_, q.till, 0, 0, .slice none 0 0, .slice none 0 0⟩ : TO).val)) (lcons (congrArg (vI .i64) ((by first | rfl | omega | (simp; done) | (simp; omega)) : 0 = (⟨3, q.in__Begin, q.in__End, q.in__Point, q.from_, q.till, 0, 0, .slice none 0 0, .slice none 0 0⟩ : TO).n)) rfl))))))))) rfl))) cb30 (lwAsk3 R ord v l (⟨3, q.in__Begin, q.in__End, q.in__Point, q.from_, q.till, 0, 0, .slice none 0 0, .slice none 0 0⟩ : TO) hv (hf8_.2) (hf8_.1) (hf6_) (rfl)) H25_ ?_)
   rintro R34_ v35_ p46_ w43_ hs33_ hq47_ S45_ H44_
   rcases hq47_ with ⟨rfl, rfl⟩ | ⟨a36_, b37_, x38_, y39_, rfl, rfl, he40_, he41_, he42_⟩
   ·skip
    have S48_ := Same.trans S28_ S45_
    refine sv (v := (vT #[(vA #[(vB false), (vI .i64 0), (vI .i64 0), (vS none 0 0), (vS none 0 0)]), (vA #[(vB false), (vI .i64 0), (vI .i64 0), (vS none 0 0), (vS none 0 0)]), (vB false)])) (x_move rfl) ?_
    refine sv (v := (vA #[(vB false), (vI .i64 0), (vI .i64 0), (vS none 0 0), (vS none 0 0)])) (by kernel_rfl) ?_
    refine sv (v := (vA #[(vB false), (vI .i64 0), (vI .i64 0), (vS none 0 0), (vS none 0 0)])) (by kernel_rfl) ?_
    refine sv (v := (vB false)) (by kernel_rfl) ?_
    refine S_list (T_alloc z59 H44_ ?_)
    intro b50_ w51_ S53_ H52_
    have S54_ := Same.trans S48_ S53_
    refine S_list (T_alloc z59 H52_ ?_)
    intro b55_ w56_ S58_ H57_
    have S59_ := Same.trans S54_ S58_
    refine S_list0 (T_storeN (vs := [(vB false), (vI .i64 0), (vI .i64 0), (vS none 0 0), (vS none 0 0)]) rfl rfl z59 rfl (by simp [Value.oneCell']) H57_ 1 rfl (Nat.le_of_ble_eq_true (by rfl)) ?_)
    intro w60_ S62_ H61_
    have S63_ := Same.trans S59_ S62_
    refine S_list0 (T_storeN (vs := [(vB false), (vI .i64 0), (vI .i64 0), (vS none 0 0), (vS none 0 0)]) rfl rfl z59 rfl (by simp [Value.oneCell']) H61_ 0 rfl (Nat.le_of_ble_eq_true (by rfl)) ?_)
    intro w64_ S66_ H65_
    have S67_ := Same.trans S63_ S66_
    refine sv (v := (vB false)) (x_assign rfl) ?_
    refine wpList_nil (X_then (hK32_ _ _ ?_))
    clear hK32_
    refine C_seq (fun K68_ hK68_ => C_reg ?_)
    refine sv (v := (vB false)) (x_move rfl) ?_
    refine sv (v := (vB true)) (x_cast (x_not (b := false) rfl) rfl) ?_
    refine sv (v := (vB true)) (x_move rfl) ?_
    refine S_no (j := 2) (dj := 29) (b := true) rfl rfl rfl (by decide) ?_
    refine S_no (j := 2) (dj := 29) (b := true) rfl rfl rfl (by decide) ?_
    refine S_no (j := 2) (dj := 29) (b := true) rfl rfl rfl (by decide) ?_
    refine S_no (j := 2) (dj := 29) (b := true) rfl rfl rfl (by decide) ?_
    refine S_list (T_pickT (v := (vB true)) rfl rfl ?_)
    refine sv (v := (vB true)) (x_move rfl) ?_
    have H70_ := ((Holds.bring H65_ 2 rfl) :)
    refine S_yes (j := 8) (dj := 35) (b := true) rfl rfl rfl (T_call (al := []) (pre := []) rfl rfl cb32 (lwLive R34_) H70_ ?_)
    rintro v69_ p74_ w71_ ⟨rfl, rfl⟩ S73_ H72_
    have S75_ := Same.trans S67_ S73_
    refine S_list (T_pickT (v := (vB true)) rfl rfl ?_)
    refine sv (v := (vB true)) (x_assign rfl) ?_
    refine wpList_nil (X_then (hK68_ _ _ ?_))
    clear hK68_
    refine C_ret ?_
    refine R_any (v := (vB true)) (run_results1 rfl rfl) ?_
    have H76_ : Holds w71_ (ro R :: cl b55_ 59 [(vB false), (vI .i64 0), (vI .i64 0), (vS none 0 0), (vS none 0 0)] :: cl b50_ 59 [(vB false), (vI .i64 0), (vI .i64 0), (vS none 0 0), (vS none 0 0)] :: cl b2_ 44 [(Value.string q.in__Begin), (Value.string q.in__End), (vB q.in__Point), (vI .i64 q.from_), (vI .i64 q.till)] :: F) := Holds.ro_less H72_ hs33_
    have H77_ : Holds w71_ (ro R :: F) := (Holds.pkF H76_ [0] 3 :)
    exact ⟨_, _, rfl, ⟨rfl, rfl⟩, S75_, H77_⟩
   ·skip
    have S49_ := Same.trans S28_ S45_
    refine sv (v := (vT #[(vA #[(vB a36_.oK), (vI .i64 a36_.n), (vI .i64 a36_.most), a36_.list, a36_.vals]), (vA #[(vB b37_.oK), (vI .i64 b37_.n), (vI .i64 b37_.most), b37_.list, b37_.vals]), (vB true)])) (x_move rfl) ?_
    refine sv (v := (vA #[(vB a36_.oK), (vI .i64 a36_.n), (vI .i64 a36_.most), a36_.list, a36_.vals])) (by kernel_rfl) ?_
    refine sv (v := (vA #[(vB b37_.oK), (vI .i64 b37_.n), (vI .i64 b37_.most), b37_.list, b37_.vals])) (by kernel_rfl) ?_
    refine sv (v := (vB true)) (by kernel_rfl) ?_
    refine S_list (T_alloc z59 H44_ ?_)
    intro b78_ w79_ S81_ H80_
    have S82_ := Same.trans S49_ S81_
    refine S_list (T_alloc z59 H80_ ?_)
    intro b83_ w84_ S86_ H85_
    have S87_ := Same.trans S82_ S86_
    refine S_list0 (T_storeN (vs := [(vB a36_.oK), (vI .i64 a36_.n), (vI .i64 a36_.most), a36_.list, a36_.vals]) rfl rfl z59 rfl (List.forall_mem_cons.2 ⟨rfl, (List.forall_mem_cons.2 ⟨rfl, (List.forall_mem_cons.2 ⟨rfl, (List.forall_mem_cons.2 ⟨(RS.one (he40_.2.2.1)), (List.forall_mem_cons.2 ⟨(RS.one (he40_.2.2.2)), (fun _ h__ => by cases h__)⟩)⟩)⟩)⟩)⟩) H85_ 1 rfl (Nat.le_of_ble_eq_true (by rfl)) ?_)
    intro w88_ S90_ H89_
    have S91_ := Same.trans S87_ S90_
    refine S_list0 (T_storeN (vs := [(vB b37_.oK), (vI .i64 b37_.n), (vI .i64 b37_.most), b37_.list, b37_.vals]) rfl rfl z59 rfl (List.forall_mem_cons.2 ⟨rfl, (List.forall_mem_cons.2 ⟨rfl, (List.forall_mem_cons.2 ⟨rfl, (List.forall_mem_cons.2 ⟨(RS.one (he41_.2.2.1)), (List.forall_mem_cons.2 ⟨(RS.one (he41_.2.2.2)), (fun _ h__ => by cases h__)⟩)⟩)⟩)⟩)⟩) H89_ 0 rfl (Nat.le_of_ble_eq_true (by rfl)) ?_)
    intro w92_ S94_ H93_
    have S95_ := Same.trans S91_ S94_
    refine sv (v := (vB true)) (x_assign rfl) ?_
    refine wpList_nil (X_then (hK32_ _ _ ?_))
    clear hK32_
    refine C_seq (fun K96_ hK96_ => C_reg ?_)
    refine sv (v := (vB true)) (x_move rfl) ?_
    refine sv (v := (vB false)) (x_cast (x_not (b := true) rfl) rfl) ?_
    refine sv (v := (vB false)) (x_move rfl) ?_
    refine S_yes (j := 2) (dj := 29) (b := false) rfl rfl rfl (T_val (v := (vI .i64 ord)) (x_move rfl) ?_)
    refine S_yes (j := 2) (dj := 29) (b := false) rfl rfl rfl (T_val (v := (vA #[(vB a36_.oK), (vI .i64 a36_.n), (vI .i64 a36_.most), a36_.list, a36_.vals])) (x_loadN (vs := [(vB a36_.oK), (vI .i64 a36_.n), (vI .i64 a36_.most), a36_.list, a36_.vals]) rfl Try.underlying59 rfl z59 rfl (Rd.cells (Holds.rd H93_ 1 rfl) 0 rfl)) ?_)
    refine S_yes (j := 2) (dj := 29) (b := false) rfl rfl rfl (T_val (v := (vA #[(vB b37_.oK), (vI .i64 b37_.n), (vI .i64 b37_.most), b37_.list, b37_.vals])) (x_loadN (vs := [(vB b37_.oK), (vI .i64 b37_.n), (vI .i64 b37_.most), b37_.list, b37_.vals]) rfl Try.underlying59 rfl z59 rfl (Rd.cells (Holds.rd H93_ 0 rfl) 0 rfl)) ?_)
    have H98_ := ((Holds.bring H93_ 2 rfl) :)
    refine S_yes (j := 2) (dj := 29) (b := false) rfl rfl rfl (T_call (al := [(vI .i64 ord), (vA #[(vB a36_.oK), (vI .i64 a36_.n), (vI .i64 a36_.most), a36_.list, a36_.vals]), (vA #[(vB b37_.oK), (vI .i64 b37_.n), (vI .i64 b37_.most), b37_.list, b37_.vals])]) (pre := []) rfl rfl cb31 (lwSame R34_ ord a36_ b37_ x38_ y39_ (he40_) (he41_) (he42_)) H98_ ?_)
    rintro v97_ p102_ w99_ ⟨rfl, rfl⟩ S101_ H100_
    have S103_ := Same.trans S95_ S101_
    refine S_list (T_pickF (v := (vB true)) rfl rfl ?_)
    refine sv (v := (vB true)) (x_move rfl) ?_
    refine S_yes (j := 8) (dj := 35) (b := true) rfl rfl rfl (T_call (al := []) (pre := []) rfl rfl cb32 (lwLive R34_) H100_ ?_)
    rintro v104_ p108_ w105_ ⟨rfl, rfl⟩ S107_ H106_
    have S109_ := Same.trans S103_ S107_
    refine S_list (T_pickT (v := (vB true)) rfl rfl ?_)
    refine sv (v := (vB true)) (x_assign rfl) ?_
    refine wpList_nil (X_then (hK96_ _ _ ?_))
    clear hK96_
    refine C_ret ?_
    refine R_any (v := (vB true)) (run_results1 rfl rfl) ?_
    have H110_ : Holds w105_ (ro R :: cl b83_ 59 [(vB b37_.oK), (vI .i64 b37_.n), (vI .i64 b37_.most), b37_.list, b37_.vals] :: cl b78_ 59 [(vB a36_.oK), (vI .i64 a36_.n), (vI .i64 a36_.most), a36_.list, a36_.vals] :: cl b2_ 44 [(Value.string q.in__Begin), (Value.string q.in__End), (vB q.in__Point), (vI .i64 q.from_), (vI .i64 q.till)] :: F) := Holds.ro_less H106_ hs33_
    have H111_ : Holds w105_ (ro R :: F) := (Holds.pkF H110_ [0] 3 :)
    exact ⟨_, _, rfl, ⟨rfl, rfl⟩, S109_, H111_⟩
end Go.Proofs.Ytlnihndjepjagaa
