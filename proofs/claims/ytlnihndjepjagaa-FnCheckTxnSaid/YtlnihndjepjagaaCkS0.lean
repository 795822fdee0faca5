/- The law. -/
import Derived.Test.YtlnihndjepjagaaCkR0
set_option linter.unusedVariables false
set_option linter.unusedSimpArgs false
namespace Go.Proofs.Ytlnihndjepjagaa
open Go Go.RowKit Gw

set_option maxHeartbeats 2000000 in
theorem ckLaw (R : HP) (x : RT) (lim : Int) (hR : RAt R x) :
    Tri Try.prog 3 #[(Value.agg #[(Value.int .i64 x.q.kind), (Value.string x.q.key), (Value.string x.q.end_), (Value.string x.q.value), (Value.int .i64 x.q.lease), (Value.int .i64 x.q.rev), (Value.int .i64 x.q.limit), (Value.int .i64 x.q.sortOrder), (Value.int .i64 x.q.sortTarget), (Value.int .i64 x.q.minMod), (Value.int .i64 x.q.maxMod), (Value.int .i64 x.q.minCreate), (Value.int .i64 x.q.maxCreate), (Value.bool x.q.keysOnly), (Value.bool x.q.countOnly), (Value.bool x.q.prev), (Value.bool x.q.ignoreValue), (Value.bool x.q.ignoreLease), x.q.cmps, x.q.then_, x.q.else_]), (Value.int .i64 lim)] R [] (fun v__ post__ => v__ = (Value.bool true) ∧ post__ = []) := by
 refine Tri.into (n := 50) (al := [(Value.agg #[(Value.int .i64 x.q.kind), (Value.string x.q.key), (Value.string x.q.end_), (Value.string x.q.value), (Value.int .i64 x.q.lease), (Value.int .i64 x.q.rev), (Value.int .i64 x.q.limit), (Value.int .i64 x.q.sortOrder), (Value.int .i64 x.q.sortTarget), (Value.int .i64 x.q.minMod), (Value.int .i64 x.q.maxMod), (Value.int .i64 x.q.minCreate), (Value.int .i64 x.q.maxCreate), (Value.bool x.q.keysOnly), (Value.bool x.q.countOnly), (Value.bool x.q.prev), (Value.bool x.q.ignoreValue), (Value.bool x.q.ignoreLease), x.q.cmps, x.q.then_, x.q.else_]), (Value.int .i64 lim)]) Try.func3 rfl Try.ntmps3 rfl rfl fun w F H => ?_
 refine C_seq (fun K1_ hK1_ => ?_)
 refine C_reg ?_
 refine S_list (T_box (v := (Value.agg #[(Value.int .i64 x.q.kind), (Value.string x.q.key), (Value.string x.q.end_), (Value.string x.q.value), (Value.int .i64 x.q.lease), (Value.int .i64 x.q.rev), (Value.int .i64 x.q.limit), (Value.int .i64 x.q.sortOrder), (Value.int .i64 x.q.sortTarget), (Value.int .i64 x.q.minMod), (Value.int .i64 x.q.maxMod), (Value.int .i64 x.q.minCreate), (Value.int .i64 x.q.maxCreate), (Value.bool x.q.keysOnly), (Value.bool x.q.countOnly), (Value.bool x.q.prev), (Value.bool x.q.ignoreValue), (Value.bool x.q.ignoreLease), x.q.cmps, x.q.then_, x.q.else_])) rfl H ?_)
 intro b2_ w3_ S5_ H4_
 have S6_ := Same.trans (Same.refl w) S5_
 refine S_list (T_val (v := (Value.bool false)) (x_assign rfl) ?_)
 refine wpList_nil ?_
 refine (X_then (hK1_ _ _ ?_))
 clear hK1_
 refine C_seq (fun K7_ hK7_ => ?_)
 refine C_seq (fun K8_ hK8_ => ?_)
 refine C_reg ?_
 refine S_list (T_val (v := (Value.agg #[(Value.int .i64 x.q.kind), (Value.string x.q.key), (Value.string x.q.end_), (Value.string x.q.value), (Value.int .i64 x.q.lease), (Value.int .i64 x.q.rev), (Value.int .i64 x.q.limit), (Value.int .i64 x.q.sortOrder), (Value.int .i64 x.q.sortTarget), (Value.int .i64 x.q.minMod), (Value.int .i64 x.q.maxMod), (Value.int .i64 x.q.minCreate), (Value.int .i64 x.q.maxCreate), (Value.bool x.q.keysOnly), (Value.bool x.q.countOnly), (Value.bool x.q.prev), (Value.bool x.q.ignoreValue), (Value.bool x.q.ignoreLease), x.q.cmps, x.q.then_, x.q.else_])) (x_loadN (vs := [(Value.int .i64 x.q.kind), (Value.string x.q.key), (Value.string x.q.end_), (Value.string x.q.value), (Value.int .i64 x.q.lease), (Value.int .i64 x.q.rev), (Value.int .i64 x.q.limit), (Value.int .i64 x.q.sortOrder), (Value.int .i64 x.q.sortTarget), (Value.int .i64 x.q.minMod), (Value.int .i64 x.q.maxMod), (Value.int .i64 x.q.minCreate), (Value.int .i64 x.q.maxCreate), (Value.bool x.q.keysOnly), (Value.bool x.q.countOnly), (Value.bool x.q.prev), (Value.bool x.q.ignoreValue), (Value.bool x.q.ignoreLease), x.q.cmps, x.q.then_, x.q.else_]) rfl Try.underlying25 rfl z25 rfl (Rd.cells (Holds.rd H4_ 0 rfl) 0 rfl)) ?_)
 have H11_ := ((Holds.bring H4_ 1 rfl) :)
 replace H11_ : Holds w3_ (ro R :: cl b2_ 25 [(Value.int .i64 x.q.kind), (Value.string x.q.key), (Value.string x.q.end_), (Value.string x.q.value), (Value.int .i64 x.q.lease), (Value.int .i64 x.q.rev), (Value.int .i64 x.q.limit), (Value.int .i64 x.q.sortOrder), (Value.int .i64 x.q.sortTarget), (Value.int .i64 x.q.minMod), (Value.int .i64 x.q.maxMod), (Value.int .i64 x.q.minCreate), (Value.int .i64 x.q.maxCreate), (Value.bool x.q.keysOnly), (Value.bool x.q.countOnly), (Value.bool x.q.prev), (Value.bool x.q.ignoreValue), (Value.bool x.q.ignoreLease), x.q.cmps, x.q.then_, x.q.else_] :: F) := H11_
 refine S_list (T_call (al := [(Value.agg #[(Value.int .i64 x.q.kind), (Value.string x.q.key), (Value.string x.q.end_), (Value.string x.q.value), (Value.int .i64 x.q.lease), (Value.int .i64 x.q.rev), (Value.int .i64 x.q.limit), (Value.int .i64 x.q.sortOrder), (Value.int .i64 x.q.sortTarget), (Value.int .i64 x.q.minMod), (Value.int .i64 x.q.maxMod), (Value.int .i64 x.q.minCreate), (Value.int .i64 x.q.maxCreate), (Value.bool x.q.keysOnly), (Value.bool x.q.countOnly), (Value.bool x.q.prev), (Value.bool x.q.ignoreValue), (Value.bool x.q.ignoreLease), x.q.cmps, x.q.then_, x.q.else_])]) (pre := []) rfl rfl cb10 (ckFits8 R x (hR)) H11_ ?_)
 rintro v9_ p15_ w12_ ⟨b10_, rfl, rfl⟩ S14_ H13_
 have S16_ := Same.trans S6_ S14_
 refine S_list (T_val (v := (Value.bool (!b10_))) (x_not rfl) ?_)
 refine wpList_nil ?_
 refine (X_then (hK8_ _ _ ?_))
 clear hK8_
 refine C_cond (b := !b10_) rfl (fun c17_t => ?_) (fun c17_f => ?_)
 ·skip
  refine C_seq (fun K18_ hK18_ => ?_)
  refine C_reg ?_
  refine S_list (T_val (v := (Value.bool true)) (x_assign rfl) ?_)
  refine wpList_nil ?_
  refine (X_then (hK18_ _ _ ?_))
  clear hK18_
  refine C_ret (X_thenR ?_)
  refine R_any (v := (Value.bool true)) (run_results1 rfl rfl) ?_
  have H19_ : Holds w12_ (ro R :: F) := (Holds.pkF H13_ [0] 1 :)
  exact ⟨_, _, rfl, ⟨rfl, rfl⟩, S16_, H19_⟩
 ·skip
  refine C_skip (X_then (hK7_ _ _ ?_))
  clear hK7_
  refine C_seq (fun K20_ hK20_ => ?_)
  refine C_seq (fun K21_ hK21_ => ?_)
  refine C_reg ?_
  refine S_list (T_val (v := (Value.pointer (some ⟨b2_, 0, none⟩))) (by kernel_rfl) ?_)
  refine S_list (T_val (v := (Value.int .i64 x.q.kind)) (x_load1 rfl Try.underlying3 rfl ((Holds.rd H13_ 1 rfl) 0 (Value.int .i64 x.q.kind) rfl)) ?_)
  refine S_list (T_val (v := (Value.bool (decide (x.q.kind ≠ 4)))) (x_bin rfl rfl rfl) ?_)
  refine S_list (T_val (v := (Value.bool (decide (x.q.kind ≠ 4)))) (x_move rfl) ?_)
  rcases Bool.eq_false_or_eq_true (decide (x.q.kind ≠ 4)) with c22_t | c22_f
  ·have c22_tp : x.q.kind ≠ 4 := of_decide_eq_true c22_t
   refine S_no (j := 3) (dj := 11) (b := true) rfl rfl (congrArg Value.bool c22_t) (by decide) ?_
   refine S_no (j := 3) (dj := 11) (b := true) rfl rfl (congrArg Value.bool c22_t) (by decide) ?_
   refine S_no (j := 3) (dj := 11) (b := true) rfl rfl (congrArg Value.bool c22_t) (by decide) ?_
   refine S_no (j := 3) (dj := 11) (b := true) rfl rfl (congrArg Value.bool c22_t) (by decide) ?_
   refine S_list (T_pickT (v := (Value.bool true)) (congrArg Value.bool c22_t) rfl ?_)
   refine S_list (T_val (v := (Value.bool true)) (x_move rfl) ?_)
   refine S_no (j := 9) (dj := 17) (b := true) rfl rfl rfl (by decide) ?_
   refine S_no (j := 9) (dj := 17) (b := true) rfl rfl rfl (by decide) ?_
   refine S_list (T_pickT (v := (Value.bool true)) rfl rfl ?_)
   refine S_list (T_val (v := (Value.bool true)) (x_move rfl) ?_)
   refine S_no (j := 13) (dj := 21) (b := true) rfl rfl rfl (by decide) ?_
   refine S_no (j := 13) (dj := 21) (b := true) rfl rfl rfl (by decide) ?_
   refine S_list (T_pickT (v := (Value.bool true)) rfl rfl ?_)
   refine S_list (T_val (v := (Value.bool true)) (x_move rfl) ?_)
   refine S_no (j := 17) (dj := 25) (b := true) rfl rfl rfl (by decide) ?_
   refine S_no (j := 17) (dj := 25) (b := true) rfl rfl rfl (by decide) ?_
   refine S_no (j := 17) (dj := 25) (b := true) rfl rfl rfl (by decide) ?_
   refine S_no (j := 17) (dj := 25) (b := true) rfl rfl rfl (by decide) ?_
   refine S_no (j := 17) (dj := 25) (b := true) rfl rfl rfl (by decide) ?_
   refine S_list (T_pickT (v := (Value.bool true)) rfl rfl ?_)
   refine S_list (T_val (v := (Value.bool true)) (x_move rfl) ?_)
   refine S_no (j := 24) (dj := 32) (b := true) rfl rfl rfl (by decide) ?_
   refine S_no (j := 24) (dj := 32) (b := true) rfl rfl rfl (by decide) ?_
   refine S_no (j := 24) (dj := 32) (b := true) rfl rfl rfl (by decide) ?_
   refine S_no (j := 24) (dj := 32) (b := true) rfl rfl rfl (by decide) ?_
   refine S_no (j := 24) (dj := 32) (b := true) rfl rfl rfl (by decide) ?_
   refine S_list (T_pickT (v := (Value.bool true)) rfl rfl ?_)
   refine wpList_nil ?_
   refine (X_then (hK21_ _ _ ?_))
   clear hK21_
   refine C_condT rfl ?_
   refine C_seq (fun K23_ hK23_ => ?_)
   refine C_reg ?_
   refine S_list (T_call (al := []) (pre := []) rfl rfl cb14 (ckLive R) H13_ ?_)
   rintro v24_ p28_ w25_ ⟨rfl, rfl⟩ S27_ H26_
   have S29_ := Same.trans S16_ S27_
   refine S_list (T_val (v := (Value.bool true)) (x_assign rfl) ?_)
   refine wpList_nil ?_
   refine (X_then (hK23_ _ _ ?_))
   clear hK23_
   refine C_ret (X_thenR ?_)
   refine R_any (v := (Value.bool true)) (run_results1 rfl rfl) ?_
   have H30_ : Holds w25_ (ro R :: F) := (Holds.pkF H26_ [0] 1 :)
   exact ⟨_, _, rfl, ⟨rfl, rfl⟩, S29_, H30_⟩
  ·have c22_fp : ¬ (x.q.kind ≠ 4) := of_decide_eq_false c22_f
   refine S_yes (j := 3) (dj := 11) (b := false) rfl rfl (congrArg Value.bool c22_f) (T_val (v := (Value.agg #[(Value.int .i64 x.q.kind), (Value.string x.q.key), (Value.string x.q.end_), (Value.string x.q.value), (Value.int .i64 x.q.lease), (Value.int .i64 x.q.rev), (Value.int .i64 x.q.limit), (Value.int .i64 x.q.sortOrder), (Value.int .i64 x.q.sortTarget), (Value.int .i64 x.q.minMod), (Value.int .i64 x.q.maxMod), (Value.int .i64 x.q.minCreate), (Value.int .i64 x.q.maxCreate), (Value.bool x.q.keysOnly), (Value.bool x.q.countOnly), (Value.bool x.q.prev), (Value.bool x.q.ignoreValue), (Value.bool x.q.ignoreLease), x.q.cmps, x.q.then_, x.q.else_])) (x_loadN (vs := [(Value.int .i64 x.q.kind), (Value.string x.q.key), (Value.string x.q.end_), (Value.string x.q.value), (Value.int .i64 x.q.lease), (Value.int .i64 x.q.rev), (Value.int .i64 x.q.limit), (Value.int .i64 x.q.sortOrder), (Value.int .i64 x.q.sortTarget), (Value.int .i64 x.q.minMod), (Value.int .i64 x.q.maxMod), (Value.int .i64 x.q.minCreate), (Value.int .i64 x.q.maxCreate), (Value.bool x.q.keysOnly), (Value.bool x.q.countOnly), (Value.bool x.q.prev), (Value.bool x.q.ignoreValue), (Value.bool x.q.ignoreLease), x.q.cmps, x.q.then_, x.q.else_]) rfl Try.underlying25 rfl z25 rfl (Rd.cells (Holds.rd H13_ 1 rfl) 0 rfl)) ?_)
   refine S_yes (j := 3) (dj := 11) (b := false) rfl rfl (congrArg Value.bool c22_f) (T_new (obj := .cells #[(Value.int .i64 x.q.kind), (Value.string x.q.key), (Value.string x.q.end_), (Value.string x.q.value), (Value.int .i64 x.q.lease), (Value.int .i64 x.q.rev), (Value.int .i64 x.q.limit), (Value.int .i64 x.q.sortOrder), (Value.int .i64 x.q.sortTarget), (Value.int .i64 x.q.minMod), (Value.int .i64 x.q.maxMod), (Value.int .i64 x.q.minCreate), (Value.int .i64 x.q.maxCreate), (Value.bool x.q.keysOnly), (Value.bool x.q.countOnly), (Value.bool x.q.prev), (Value.bool x.q.ignoreValue), (Value.bool x.q.ignoreLease), x.q.cmps, x.q.then_, x.q.else_] 25) (f := fun b__ => .slice (some ⟨b__, 0, none⟩) 1 1) (A := fun b__ => cl b__ 25 [(Value.int .i64 x.q.kind), (Value.string x.q.key), (Value.string x.q.end_), (Value.string x.q.value), (Value.int .i64 x.q.lease), (Value.int .i64 x.q.rev), (Value.int .i64 x.q.limit), (Value.int .i64 x.q.sortOrder), (Value.int .i64 x.q.sortTarget), (Value.int .i64 x.q.minMod), (Value.int .i64 x.q.maxMod), (Value.int .i64 x.q.minCreate), (Value.int .i64 x.q.maxCreate), (Value.bool x.q.keysOnly), (Value.bool x.q.countOnly), (Value.bool x.q.prev), (Value.bool x.q.ignoreValue), (Value.bool x.q.ignoreLease), x.q.cmps, x.q.then_, x.q.else_]) (by kernel_rfl) (fun l h => h.alloc _ _) H13_ ?_)
   intro b31_ w32_ S34_ H33_
   have S35_ := Same.trans S16_ S34_
   have H36_ := ((Holds.bring H33_ 1 rfl) :)
   obtain ⟨R37_, hs38_, ⟨R39_, ha40_, hs41_⟩, H42_⟩ := Holds.gift H36_
   replace H42_ : Holds w32_ (ro R37_ :: cl b2_ 25 [(Value.int .i64 x.q.kind), (Value.string x.q.key), (Value.string x.q.end_), (Value.string x.q.value), (Value.int .i64 x.q.lease), (Value.int .i64 x.q.rev), (Value.int .i64 x.q.limit), (Value.int .i64 x.q.sortOrder), (Value.int .i64 x.q.sortTarget), (Value.int .i64 x.q.minMod), (Value.int .i64 x.q.maxMod), (Value.int .i64 x.q.minCreate), (Value.int .i64 x.q.maxCreate), (Value.bool x.q.keysOnly), (Value.bool x.q.countOnly), (Value.bool x.q.prev), (Value.bool x.q.ignoreValue), (Value.bool x.q.ignoreLease), x.q.cmps, x.q.then_, x.q.else_] :: F) := H42_
   have hr43_ : RS R37_ 21 (Value.slice (some ⟨b31_, 0, none⟩) 1 1) 1 ([x].flatMap RT.cells) := (RS.set_ (cl_RSn (sz := 21) ha40_ (Sub.rfl' _) (by rfl) (by omega)) rfl rfl).mono hs41_
   refine S_yes (j := 3) (dj := 11) (b := false) rfl rfl (congrArg Value.bool c22_f) (T_call (al := [((Value.slice (some ⟨b31_, 0, none⟩) 1 1))]) (pre := []) rfl (lcons (rfl : (Value.slice (some ⟨b31_, 0, none⟩) 1 1) = ((Value.slice (some ⟨b31_, 0, none⟩) 1 1))) rfl) cb11 (ckFew R37_ (Value.slice (some ⟨b31_, 0, none⟩) 1 1) [x] (RS.set_ hr43_ rfl (by first | rfl | omega | (simp; done) | (simp; omega))) (fun y hy => by rw [List.mem_singleton.1 hy]; exact hR.mono hs38_) (by simp)) H42_ ?_)
   rintro v44_ p48_ w45_ ⟨rfl, rfl⟩ S47_ H46_
   have S49_ := Same.trans S35_ S47_
   refine S_yes (j := 3) (dj := 11) (b := false) rfl rfl (congrArg Value.bool c22_f) (T_val (v := (Value.bool (decide (¬ (0 ≤ manyL [x] 3 0 ∧ manyL [x] 3 0 ≤ 200))))) (x_notP rfl) ?_)
   refine S_list (T_pickF (v := (Value.bool (decide (¬ (0 ≤ manyL [x] 3 0 ∧ manyL [x] 3 0 ≤ 200))))) (congrArg Value.bool c22_f) rfl ?_)
   refine S_list (T_val (v := (Value.bool (decide (¬ (0 ≤ manyL [x] 3 0 ∧ manyL [x] 3 0 ≤ 200))))) (x_move rfl) ?_)
   rcases Bool.eq_false_or_eq_true (decide (¬ (0 ≤ manyL [x] 3 0 ∧ manyL [x] 3 0 ≤ 200))) with c50_t | c50_f
   ·have c50_tp : ¬ (0 ≤ manyL [x] 3 0 ∧ manyL [x] 3 0 ≤ 200) := of_decide_eq_true c50_t
    refine S_no (j := 9) (dj := 17) (b := true) rfl rfl (congrArg Value.bool c50_t) (by decide) ?_
    refine S_no (j := 9) (dj := 17) (b := true) rfl rfl (congrArg Value.bool c50_t) (by decide) ?_
    refine S_list (T_pickT (v := (Value.bool true)) (congrArg Value.bool c50_t) rfl ?_)
    refine S_list (T_val (v := (Value.bool true)) (x_move rfl) ?_)
    refine S_no (j := 13) (dj := 21) (b := true) rfl rfl rfl (by decide) ?_
    refine S_no (j := 13) (dj := 21) (b := true) rfl rfl rfl (by decide) ?_
    refine S_list (T_pickT (v := (Value.bool true)) rfl rfl ?_)
    refine S_list (T_val (v := (Value.bool true)) (x_move rfl) ?_)
    refine S_no (j := 17) (dj := 25) (b := true) rfl rfl rfl (by decide) ?_
    refine S_no (j := 17) (dj := 25) (b := true) rfl rfl rfl (by decide) ?_
    refine S_no (j := 17) (dj := 25) (b := true) rfl rfl rfl (by decide) ?_
    refine S_no (j := 17) (dj := 25) (b := true) rfl rfl rfl (by decide) ?_
    refine S_no (j := 17) (dj := 25) (b := true) rfl rfl rfl (by decide) ?_
    refine S_list (T_pickT (v := (Value.bool true)) rfl rfl ?_)
    refine S_list (T_val (v := (Value.bool true)) (x_move rfl) ?_)
    refine S_no (j := 24) (dj := 32) (b := true) rfl rfl rfl (by decide) ?_
    refine S_no (j := 24) (dj := 32) (b := true) rfl rfl rfl (by decide) ?_
    refine S_no (j := 24) (dj := 32) (b := true) rfl rfl rfl (by decide) ?_
    refine S_no (j := 24) (dj := 32) (b := true) rfl rfl rfl (by decide) ?_
    refine S_no (j := 24) (dj := 32) (b := true) rfl rfl rfl (by decide) ?_
    refine S_list (T_pickT (v := (Value.bool true)) rfl rfl ?_)
    refine wpList_nil ?_
    refine (X_then (hK21_ _ _ ?_))
    clear hK21_
    refine C_condT rfl ?_
    refine C_seq (fun K51_ hK51_ => ?_)
    refine C_reg ?_
    refine S_list (T_call (al := []) (pre := []) rfl rfl cb14 (ckLive R37_) H46_ ?_)
    rintro v52_ p56_ w53_ ⟨rfl, rfl⟩ S55_ H54_
    have S57_ := Same.trans S49_ S55_
    refine S_list (T_val (v := (Value.bool true)) (x_assign rfl) ?_)
    refine wpList_nil ?_
    refine (X_then (hK51_ _ _ ?_))
    clear hK51_
    refine C_ret (X_thenR ?_)
    refine R_any (v := (Value.bool true)) (run_results1 rfl rfl) ?_
    have H58_ : Holds w53_ (ro R :: cl b2_ 25 [(Value.int .i64 x.q.kind), (Value.string x.q.key), (Value.string x.q.end_), (Value.string x.q.value), (Value.int .i64 x.q.lease), (Value.int .i64 x.q.rev), (Value.int .i64 x.q.limit), (Value.int .i64 x.q.sortOrder), (Value.int .i64 x.q.sortTarget), (Value.int .i64 x.q.minMod), (Value.int .i64 x.q.maxMod), (Value.int .i64 x.q.minCreate), (Value.int .i64 x.q.maxCreate), (Value.bool x.q.keysOnly), (Value.bool x.q.countOnly), (Value.bool x.q.prev), (Value.bool x.q.ignoreValue), (Value.bool x.q.ignoreLease), x.q.cmps, x.q.then_, x.q.else_] :: F) := Holds.ro_less H54_ hs38_
    have H59_ : Holds w53_ (ro R :: F) := (Holds.pkF H58_ [0] 1 :)
    exact ⟨_, _, rfl, ⟨rfl, rfl⟩, S57_, H59_⟩
   ·have c50_fp : ¬ (¬ (0 ≤ manyL [x] 3 0 ∧ manyL [x] 3 0 ≤ 200)) := of_decide_eq_false c50_f
    refine S_yes (j := 9) (dj := 17) (b := false) rfl rfl (congrArg Value.bool c50_f) (T_val (v := (Value.int .i64 lim)) (x_move rfl) ?_)
    refine S_yes (j := 9) (dj := 17) (b := false) rfl rfl (congrArg Value.bool c50_f) (T_val (v := (Value.bool (decide (lim < 0)))) (x_bin rfl rfl rfl) ?_)
    refine S_list (T_pickF (v := (Value.bool (decide (lim < 0)))) (congrArg Value.bool c50_f) rfl ?_)
    refine S_list (T_val (v := (Value.bool (decide (lim < 0)))) (x_move rfl) ?_)
    rcases Bool.eq_false_or_eq_true (decide (lim < 0)) with c60_t | c60_f
    ·have c60_tp : lim < 0 := of_decide_eq_true c60_t
     refine S_no (j := 13) (dj := 21) (b := true) rfl rfl (congrArg Value.bool c60_t) (by decide) ?_
     refine S_no (j := 13) (dj := 21) (b := true) rfl rfl (congrArg Value.bool c60_t) (by decide) ?_
     refine S_list (T_pickT (v := (Value.bool true)) (congrArg Value.bool c60_t) rfl ?_)
     refine S_list (T_val (v := (Value.bool true)) (x_move rfl) ?_)
     refine S_no (j := 17) (dj := 25) (b := true) rfl rfl rfl (by decide) ?_
     refine S_no (j := 17) (dj := 25) (b := true) rfl rfl rfl (by decide) ?_
     refine S_no (j := 17) (dj := 25) (b := true) rfl rfl rfl (by decide) ?_
     refine S_no (j := 17) (dj := 25) (b := true) rfl rfl rfl (by decide) ?_
     refine S_no (j := 17) (dj := 25) (b := true) rfl rfl rfl (by decide) ?_
     refine S_list (T_pickT (v := (Value.bool true)) rfl rfl ?_)
     refine S_list (T_val (v := (Value.bool true)) (x_move rfl) ?_)
     refine S_no (j := 24) (dj := 32) (b := true) rfl rfl rfl (by decide) ?_
     refine S_no (j := 24) (dj := 32) (b := true) rfl rfl rfl (by decide) ?_
     refine S_no (j := 24) (dj := 32) (b := true) rfl rfl rfl (by decide) ?_
     refine S_no (j := 24) (dj := 32) (b := true) rfl rfl rfl (by decide) ?_
     refine S_no (j := 24) (dj := 32) (b := true) rfl rfl rfl (by decide) ?_
     refine S_list (T_pickT (v := (Value.bool true)) rfl rfl ?_)
     refine wpList_nil ?_
     refine (X_then (hK21_ _ _ ?_))
     clear hK21_
     refine C_condT rfl ?_
     refine C_seq (fun K61_ hK61_ => ?_)
     refine C_reg ?_
     refine S_list (T_call (al := []) (pre := []) rfl rfl cb14 (ckLive R37_) H46_ ?_)
     rintro v62_ p66_ w63_ ⟨rfl, rfl⟩ S65_ H64_
     have S67_ := Same.trans S49_ S65_
     refine S_list (T_val (v := (Value.bool true)) (x_assign rfl) ?_)
     refine wpList_nil ?_
     refine (X_then (hK61_ _ _ ?_))
     clear hK61_
     refine C_ret (X_thenR ?_)
     refine R_any (v := (Value.bool true)) (run_results1 rfl rfl) ?_
     have H68_ : Holds w63_ (ro R :: cl b2_ 25 [(Value.int .i64 x.q.kind), (Value.string x.q.key), (Value.string x.q.end_), (Value.string x.q.value), (Value.int .i64 x.q.lease), (Value.int .i64 x.q.rev), (Value.int .i64 x.q.limit), (Value.int .i64 x.q.sortOrder), (Value.int .i64 x.q.sortTarget), (Value.int .i64 x.q.minMod), (Value.int .i64 x.q.maxMod), (Value.int .i64 x.q.minCreate), (Value.int .i64 x.q.maxCreate), (Value.bool x.q.keysOnly), (Value.bool x.q.countOnly), (Value.bool x.q.prev), (Value.bool x.q.ignoreValue), (Value.bool x.q.ignoreLease), x.q.cmps, x.q.then_, x.q.else_] :: F) := Holds.ro_less H64_ hs38_
     have H69_ : Holds w63_ (ro R :: F) := (Holds.pkF H68_ [0] 1 :)
     exact ⟨_, _, rfl, ⟨rfl, rfl⟩, S67_, H69_⟩
    ·have c60_fp : ¬ (lim < 0) := of_decide_eq_false c60_f
     refine S_yes (j := 13) (dj := 21) (b := false) rfl rfl (congrArg Value.bool c60_f) (T_val (v := (Value.int .i64 lim)) (x_move rfl) ?_)
     refine S_yes (j := 13) (dj := 21) (b := false) rfl rfl (congrArg Value.bool c60_f) (T_val (v := (Value.bool (decide (1048576 < lim)))) (x_bin rfl rfl rfl) ?_)
     refine S_list (T_pickF (v := (Value.bool (decide (1048576 < lim)))) (congrArg Value.bool c60_f) rfl ?_)
     refine S_list (T_val (v := (Value.bool (decide (1048576 < lim)))) (x_move rfl) ?_)
     rcases Bool.eq_false_or_eq_true (decide (1048576 < lim)) with c70_t | c70_f
     ·have c70_tp : 1048576 < lim := of_decide_eq_true c70_t
      refine S_no (j := 17) (dj := 25) (b := true) rfl rfl (congrArg Value.bool c70_t) (by decide) ?_
      refine S_no (j := 17) (dj := 25) (b := true) rfl rfl (congrArg Value.bool c70_t) (by decide) ?_
      refine S_no (j := 17) (dj := 25) (b := true) rfl rfl (congrArg Value.bool c70_t) (by decide) ?_
      refine S_no (j := 17) (dj := 25) (b := true) rfl rfl (congrArg Value.bool c70_t) (by decide) ?_
      refine S_no (j := 17) (dj := 25) (b := true) rfl rfl (congrArg Value.bool c70_t) (by decide) ?_
      refine S_list (T_pickT (v := (Value.bool true)) (congrArg Value.bool c70_t) rfl ?_)
      refine S_list (T_val (v := (Value.bool true)) (x_move rfl) ?_)
      refine S_no (j := 24) (dj := 32) (b := true) rfl rfl rfl (by decide) ?_
      refine S_no (j := 24) (dj := 32) (b := true) rfl rfl rfl (by decide) ?_
      refine S_no (j := 24) (dj := 32) (b := true) rfl rfl rfl (by decide) ?_
      refine S_no (j := 24) (dj := 32) (b := true) rfl rfl rfl (by decide) ?_
      refine S_no (j := 24) (dj := 32) (b := true) rfl rfl rfl (by decide) ?_
      refine S_list (T_pickT (v := (Value.bool true)) rfl rfl ?_)
      refine wpList_nil ?_
      refine (X_then (hK21_ _ _ ?_))
      clear hK21_
      refine C_condT rfl ?_
      refine C_seq (fun K71_ hK71_ => ?_)
      refine C_reg ?_
      refine S_list (T_call (al := []) (pre := []) rfl rfl cb14 (ckLive R37_) H46_ ?_)
      rintro v72_ p76_ w73_ ⟨rfl, rfl⟩ S75_ H74_
      have S77_ := Same.trans S49_ S75_
      refine S_list (T_val (v := (Value.bool true)) (x_assign rfl) ?_)
      refine wpList_nil ?_
      refine (X_then (hK71_ _ _ ?_))
      clear hK71_
      refine C_ret (X_thenR ?_)
      refine R_any (v := (Value.bool true)) (run_results1 rfl rfl) ?_
      have H78_ : Holds w73_ (ro R :: cl b2_ 25 [(Value.int .i64 x.q.kind), (Value.string x.q.key), (Value.string x.q.end_), (Value.string x.q.value), (Value.int .i64 x.q.lease), (Value.int .i64 x.q.rev), (Value.int .i64 x.q.limit), (Value.int .i64 x.q.sortOrder), (Value.int .i64 x.q.sortTarget), (Value.int .i64 x.q.minMod), (Value.int .i64 x.q.maxMod), (Value.int .i64 x.q.minCreate), (Value.int .i64 x.q.maxCreate), (Value.bool x.q.keysOnly), (Value.bool x.q.countOnly), (Value.bool x.q.prev), (Value.bool x.q.ignoreValue), (Value.bool x.q.ignoreLease), x.q.cmps, x.q.then_, x.q.else_] :: F) := Holds.ro_less H74_ hs38_
      have H79_ : Holds w73_ (ro R :: F) := (Holds.pkF H78_ [0] 1 :)
      exact ⟨_, _, rfl, ⟨rfl, rfl⟩, S77_, H79_⟩
     ·have c70_fp : ¬ (1048576 < lim) := of_decide_eq_false c70_f
      refine S_yes (j := 17) (dj := 25) (b := false) rfl rfl (congrArg Value.bool c70_f) (T_val (v := (Value.agg #[(Value.int .i64 x.q.kind), (Value.string x.q.key), (Value.string x.q.end_), (Value.string x.q.value), (Value.int .i64 x.q.lease), (Value.int .i64 x.q.rev), (Value.int .i64 x.q.limit), (Value.int .i64 x.q.sortOrder), (Value.int .i64 x.q.sortTarget), (Value.int .i64 x.q.minMod), (Value.int .i64 x.q.maxMod), (Value.int .i64 x.q.minCreate), (Value.int .i64 x.q.maxCreate), (Value.bool x.q.keysOnly), (Value.bool x.q.countOnly), (Value.bool x.q.prev), (Value.bool x.q.ignoreValue), (Value.bool x.q.ignoreLease), x.q.cmps, x.q.then_, x.q.else_])) (x_loadN (vs := [(Value.int .i64 x.q.kind), (Value.string x.q.key), (Value.string x.q.end_), (Value.string x.q.value), (Value.int .i64 x.q.lease), (Value.int .i64 x.q.rev), (Value.int .i64 x.q.limit), (Value.int .i64 x.q.sortOrder), (Value.int .i64 x.q.sortTarget), (Value.int .i64 x.q.minMod), (Value.int .i64 x.q.maxMod), (Value.int .i64 x.q.minCreate), (Value.int .i64 x.q.maxCreate), (Value.bool x.q.keysOnly), (Value.bool x.q.countOnly), (Value.bool x.q.prev), (Value.bool x.q.ignoreValue), (Value.bool x.q.ignoreLease), x.q.cmps, x.q.then_, x.q.else_]) rfl Try.underlying25 rfl z25 rfl (Rd.cells (Holds.rd H46_ 1 rfl) 0 rfl)) ?_)
      refine S_yes (j := 17) (dj := 25) (b := false) rfl rfl (congrArg Value.bool c70_f) (T_new (obj := .cells #[(Value.int .i64 x.q.kind), (Value.string x.q.key), (Value.string x.q.end_), (Value.string x.q.value), (Value.int .i64 x.q.lease), (Value.int .i64 x.q.rev), (Value.int .i64 x.q.limit), (Value.int .i64 x.q.sortOrder), (Value.int .i64 x.q.sortTarget), (Value.int .i64 x.q.minMod), (Value.int .i64 x.q.maxMod), (Value.int .i64 x.q.minCreate), (Value.int .i64 x.q.maxCreate), (Value.bool x.q.keysOnly), (Value.bool x.q.countOnly), (Value.bool x.q.prev), (Value.bool x.q.ignoreValue), (Value.bool x.q.ignoreLease), x.q.cmps, x.q.then_, x.q.else_] 25) (f := fun b__ => .slice (some ⟨b__, 0, none⟩) 1 1) (A := fun b__ => cl b__ 25 [(Value.int .i64 x.q.kind), (Value.string x.q.key), (Value.string x.q.end_), (Value.string x.q.value), (Value.int .i64 x.q.lease), (Value.int .i64 x.q.rev), (Value.int .i64 x.q.limit), (Value.int .i64 x.q.sortOrder), (Value.int .i64 x.q.sortTarget), (Value.int .i64 x.q.minMod), (Value.int .i64 x.q.maxMod), (Value.int .i64 x.q.minCreate), (Value.int .i64 x.q.maxCreate), (Value.bool x.q.keysOnly), (Value.bool x.q.countOnly), (Value.bool x.q.prev), (Value.bool x.q.ignoreValue), (Value.bool x.q.ignoreLease), x.q.cmps, x.q.then_, x.q.else_]) (by kernel_rfl) (fun l h => h.alloc _ _) H46_ ?_)
      intro b80_ w81_ S83_ H82_
      have S84_ := Same.trans S49_ S83_
      have hc2_ := many_cnt 2 (by decide) _ [x] (Nat.le_refl _) 3 0 (Int.le_refl 0) (by omega)
      have H85_ : Holds w81_ (sl 9 1 (Value.slice none 0 0) 0 ([] : List Value) :: cl b80_ 25 [(Value.int .i64 x.q.kind), (Value.string x.q.key), (Value.string x.q.end_), (Value.string x.q.value), (Value.int .i64 x.q.lease), (Value.int .i64 x.q.rev), (Value.int .i64 x.q.limit), (Value.int .i64 x.q.sortOrder), (Value.int .i64 x.q.sortTarget), (Value.int .i64 x.q.minMod), (Value.int .i64 x.q.maxMod), (Value.int .i64 x.q.minCreate), (Value.int .i64 x.q.maxCreate), (Value.bool x.q.keysOnly), (Value.bool x.q.countOnly), (Value.bool x.q.prev), (Value.bool x.q.ignoreValue), (Value.bool x.q.ignoreLease), x.q.cmps, x.q.then_, x.q.else_] :: ro R37_ :: cl b2_ 25 [(Value.int .i64 x.q.kind), (Value.string x.q.key), (Value.string x.q.end_), (Value.string x.q.value), (Value.int .i64 x.q.lease), (Value.int .i64 x.q.rev), (Value.int .i64 x.q.limit), (Value.int .i64 x.q.sortOrder), (Value.int .i64 x.q.sortTarget), (Value.int .i64 x.q.minMod), (Value.int .i64 x.q.maxMod), (Value.int .i64 x.q.minCreate), (Value.int .i64 x.q.maxCreate), (Value.bool x.q.keysOnly), (Value.bool x.q.countOnly), (Value.bool x.q.prev), (Value.bool x.q.ignoreValue), (Value.bool x.q.ignoreLease), x.q.cmps, x.q.then_, x.q.else_] :: F) := Holds.add_nil H82_ 9 1
      have H86_ := ((Holds.bring (Holds.bring H85_ 1 rfl) 2 rfl) :)
      obtain ⟨R87_, hs88_, ⟨R89_, ha90_, hs91_⟩, H92_⟩ := Holds.gift H86_
      replace H92_ : Holds w81_ (ro R87_ :: sl 9 1 (Value.slice none 0 0) 0 ([] : List Value) :: cl b2_ 25 [(Value.int .i64 x.q.kind), (Value.string x.q.key), (Value.string x.q.end_), (Value.string x.q.value), (Value.int .i64 x.q.lease), (Value.int .i64 x.q.rev), (Value.int .i64 x.q.limit), (Value.int .i64 x.q.sortOrder), (Value.int .i64 x.q.sortTarget), (Value.int .i64 x.q.minMod), (Value.int .i64 x.q.maxMod), (Value.int .i64 x.q.minCreate), (Value.int .i64 x.q.maxCreate), (Value.bool x.q.keysOnly), (Value.bool x.q.countOnly), (Value.bool x.q.prev), (Value.bool x.q.ignoreValue), (Value.bool x.q.ignoreLease), x.q.cmps, x.q.then_, x.q.else_] :: F) := H92_
      have hz_R_R87_ := Sub.trans' hs38_ hs88_
      have hr93_ : RS R87_ 21 (Value.slice (some ⟨b80_, 0, none⟩) 1 1) 1 ([x].flatMap RT.cells) := (RS.set_ (cl_RSn (sz := 21) ha90_ (Sub.rfl' _) (by rfl) (by omega)) rfl rfl).mono hs91_
      refine S_yes (j := 17) (dj := 25) (b := false) rfl rfl (congrArg Value.bool c70_f) (T_call (al := [((Value.slice none 0 0)), ((Value.slice (some ⟨b80_, 0, none⟩) 1 1))]) (pre := [sl 9 1 (Value.slice none 0 0) 0 ([] : List Value)]) rfl (lcons (rfl : (Value.slice none 0 0) = ((Value.slice none 0 0))) (lcons (rfl : (Value.slice (some ⟨b80_, 0, none⟩) 1 1) = ((Value.slice (some ⟨b80_, 0, none⟩) 1 1))) rfl)) cb12 (ckPuts R87_ (Value.slice none 0 0) (Value.slice (some ⟨b80_, 0, none⟩) 1 1) 0 ([] : List Value) [x] (RS.set_ hr93_ rfl (by first | rfl | omega | (simp; done) | (simp; omega))) (fun y hy => by rw [List.mem_singleton.1 hy]; exact hR.mono hz_R_R87_) (by simp) (by omega)) H92_ ?_)
      rintro v94_ p101_ w98_ ⟨_, m95_, xs96_, rfl, rfl, he97_⟩ S100_ H99_
      have S102_ := Same.trans S84_ S100_
      refine S_yes (j := 17) (dj := 25) (b := false) rfl rfl (congrArg Value.bool c70_f) (T_val (v := (Value.int .i64 (m95_ : Int))) (x_lenSl rfl H99_ 1 rfl Try.underlying28) ?_)
      refine S_yes (j := 17) (dj := 25) (b := false) rfl rfl (congrArg Value.bool c70_f) (T_val (v := (Value.bool (decide (0 < (m95_ : Int))))) (x_bin rfl rfl rfl) ?_)
      refine S_list (T_pickF (v := (Value.bool (decide (0 < (m95_ : Int))))) (congrArg Value.bool c70_f) rfl ?_)
      refine S_list (T_val (v := (Value.bool (decide (0 < (m95_ : Int))))) (x_move rfl) ?_)
      rcases Bool.eq_false_or_eq_true (decide (0 < (m95_ : Int))) with c103_t | c103_f
      ·have c103_tp : 0 < (m95_ : Int) := of_decide_eq_true c103_t
       refine S_no (j := 24) (dj := 32) (b := true) rfl rfl (congrArg Value.bool c103_t) (by decide) ?_
       refine S_no (j := 24) (dj := 32) (b := true) rfl rfl (congrArg Value.bool c103_t) (by decide) ?_
       refine S_no (j := 24) (dj := 32) (b := true) rfl rfl (congrArg Value.bool c103_t) (by decide) ?_
       refine S_no (j := 24) (dj := 32) (b := true) rfl rfl (congrArg Value.bool c103_t) (by decide) ?_
       refine S_no (j := 24) (dj := 32) (b := true) rfl rfl (congrArg Value.bool c103_t) (by decide) ?_
       refine S_list (T_pickT (v := (Value.bool true)) (congrArg Value.bool c103_t) rfl ?_)
       refine wpList_nil ?_
       refine (X_then (hK21_ _ _ ?_))
       clear hK21_
       refine C_condT rfl ?_
       refine C_seq (fun K104_ hK104_ => ?_)
       refine C_reg ?_
       refine S_list (T_call (al := []) (pre := []) rfl rfl cb14 (ckLive R87_) H99_ ?_)
       rintro v105_ p109_ w106_ ⟨rfl, rfl⟩ S108_ H107_
       have S110_ := Same.trans S102_ S108_
       refine S_list (T_val (v := (Value.bool true)) (x_assign rfl) ?_)
       refine wpList_nil ?_
       refine (X_then (hK104_ _ _ ?_))
       clear hK104_
       refine C_ret (X_thenR ?_)
       refine R_any (v := (Value.bool true)) (run_results1 rfl rfl) ?_
       have H111_ : Holds w106_ (ro R :: sl 9 1 v94_ m95_ xs96_ :: cl b2_ 25 [(Value.int .i64 x.q.kind), (Value.string x.q.key), (Value.string x.q.end_), (Value.string x.q.value), (Value.int .i64 x.q.lease), (Value.int .i64 x.q.rev), (Value.int .i64 x.q.limit), (Value.int .i64 x.q.sortOrder), (Value.int .i64 x.q.sortTarget), (Value.int .i64 x.q.minMod), (Value.int .i64 x.q.maxMod), (Value.int .i64 x.q.minCreate), (Value.int .i64 x.q.maxCreate), (Value.bool x.q.keysOnly), (Value.bool x.q.countOnly), (Value.bool x.q.prev), (Value.bool x.q.ignoreValue), (Value.bool x.q.ignoreLease), x.q.cmps, x.q.then_, x.q.else_] :: F) := Holds.ro_less H107_ hz_R_R87_
       have H112_ : Holds w106_ (ro R :: F) := (Holds.pkF H111_ [0] 2 :)
       exact ⟨_, _, rfl, ⟨rfl, rfl⟩, S110_, H112_⟩
      ·have c103_fp : ¬ (0 < (m95_ : Int)) := of_decide_eq_false c103_f
       refine S_yes (j := 24) (dj := 32) (b := false) rfl rfl (congrArg Value.bool c103_f) (T_val (v := (Value.agg #[(Value.int .i64 x.q.kind), (Value.string x.q.key), (Value.string x.q.end_), (Value.string x.q.value), (Value.int .i64 x.q.lease), (Value.int .i64 x.q.rev), (Value.int .i64 x.q.limit), (Value.int .i64 x.q.sortOrder), (Value.int .i64 x.q.sortTarget), (Value.int .i64 x.q.minMod), (Value.int .i64 x.q.maxMod), (Value.int .i64 x.q.minCreate), (Value.int .i64 x.q.maxCreate), (Value.bool x.q.keysOnly), (Value.bool x.q.countOnly), (Value.bool x.q.prev), (Value.bool x.q.ignoreValue), (Value.bool x.q.ignoreLease), x.q.cmps, x.q.then_, x.q.else_])) (x_loadN (vs := [(Value.int .i64 x.q.kind), (Value.string x.q.key), (Value.string x.q.end_), (Value.string x.q.value), (Value.int .i64 x.q.lease), (Value.int .i64 x.q.rev), (Value.int .i64 x.q.limit), (Value.int .i64 x.q.sortOrder), (Value.int .i64 x.q.sortTarget), (Value.int .i64 x.q.minMod), (Value.int .i64 x.q.maxMod), (Value.int .i64 x.q.minCreate), (Value.int .i64 x.q.maxCreate), (Value.bool x.q.keysOnly), (Value.bool x.q.countOnly), (Value.bool x.q.prev), (Value.bool x.q.ignoreValue), (Value.bool x.q.ignoreLease), x.q.cmps, x.q.then_, x.q.else_]) rfl Try.underlying25 rfl z25 rfl (Rd.cells (Holds.rd H99_ 2 rfl) 0 rfl)) ?_)
       refine S_yes (j := 24) (dj := 32) (b := false) rfl rfl (congrArg Value.bool c103_f) (T_new (obj := .cells #[(Value.int .i64 x.q.kind), (Value.string x.q.key), (Value.string x.q.end_), (Value.string x.q.value), (Value.int .i64 x.q.lease), (Value.int .i64 x.q.rev), (Value.int .i64 x.q.limit), (Value.int .i64 x.q.sortOrder), (Value.int .i64 x.q.sortTarget), (Value.int .i64 x.q.minMod), (Value.int .i64 x.q.maxMod), (Value.int .i64 x.q.minCreate), (Value.int .i64 x.q.maxCreate), (Value.bool x.q.keysOnly), (Value.bool x.q.countOnly), (Value.bool x.q.prev), (Value.bool x.q.ignoreValue), (Value.bool x.q.ignoreLease), x.q.cmps, x.q.then_, x.q.else_] 25) (f := fun b__ => .slice (some ⟨b__, 0, none⟩) 1 1) (A := fun b__ => cl b__ 25 [(Value.int .i64 x.q.kind), (Value.string x.q.key), (Value.string x.q.end_), (Value.string x.q.value), (Value.int .i64 x.q.lease), (Value.int .i64 x.q.rev), (Value.int .i64 x.q.limit), (Value.int .i64 x.q.sortOrder), (Value.int .i64 x.q.sortTarget), (Value.int .i64 x.q.minMod), (Value.int .i64 x.q.maxMod), (Value.int .i64 x.q.minCreate), (Value.int .i64 x.q.maxCreate), (Value.bool x.q.keysOnly), (Value.bool x.q.countOnly), (Value.bool x.q.prev), (Value.bool x.q.ignoreValue), (Value.bool x.q.ignoreLease), x.q.cmps, x.q.then_, x.q.else_]) (by kernel_rfl) (fun l h => h.alloc _ _) H99_ ?_)
       intro b113_ w114_ S116_ H115_
       have S117_ := Same.trans S102_ S116_
       have hc3_ := many_cnt 3 (by decide) _ [x] (Nat.le_refl _) 3 0 (Int.le_refl 0) (by omega)
       have H118_ := ((Holds.bring H115_ 1 rfl) :)
       obtain ⟨R119_, hs120_, ⟨R121_, ha122_, hs123_⟩, H124_⟩ := Holds.gift H118_
       replace H124_ : Holds w114_ (ro R119_ :: sl 9 1 v94_ m95_ xs96_ :: cl b2_ 25 [(Value.int .i64 x.q.kind), (Value.string x.q.key), (Value.string x.q.end_), (Value.string x.q.value), (Value.int .i64 x.q.lease), (Value.int .i64 x.q.rev), (Value.int .i64 x.q.limit), (Value.int .i64 x.q.sortOrder), (Value.int .i64 x.q.sortTarget), (Value.int .i64 x.q.minMod), (Value.int .i64 x.q.maxMod), (Value.int .i64 x.q.minCreate), (Value.int .i64 x.q.maxCreate), (Value.bool x.q.keysOnly), (Value.bool x.q.countOnly), (Value.bool x.q.prev), (Value.bool x.q.ignoreValue), (Value.bool x.q.ignoreLease), x.q.cmps, x.q.then_, x.q.else_] :: F) := H124_
       have hz_R_R119_ := Sub.trans' hz_R_R87_ hs120_
       have hz_R37__R119_ := Sub.trans' hs88_ hs120_
       have hr125_ : RS R119_ 21 (Value.slice (some ⟨b113_, 0, none⟩) 1 1) 1 ([x].flatMap RT.cells) := (RS.set_ (cl_RSn (sz := 21) ha122_ (Sub.rfl' _) (by rfl) (by omega)) rfl rfl).mono hs123_
       refine S_yes (j := 24) (dj := 32) (b := false) rfl rfl (congrArg Value.bool c103_f) (T_call (al := [((Value.slice (some ⟨b113_, 0, none⟩) 1 1))]) (pre := []) rfl (lcons (rfl : (Value.slice (some ⟨b113_, 0, none⟩) 1 1) = ((Value.slice (some ⟨b113_, 0, none⟩) 1 1))) rfl) cb13 (ckDeletes R119_ (Value.slice (some ⟨b113_, 0, none⟩) 1 1) [x] (RS.set_ hr125_ rfl (by first | rfl | omega | (simp; done) | (simp; omega))) (fun y hy => by rw [List.mem_singleton.1 hy]; exact hR.mono hz_R_R119_) (by simp) (by omega)) H124_ ?_)
       rintro v126_ p134_ w131_ ⟨_, m127_, xs128_, rfl, rfl, he129_, he130_⟩ S133_ H132_
       have S135_ := Same.trans S117_ S133_
       refine S_yes (j := 24) (dj := 32) (b := false) rfl rfl (congrArg Value.bool c103_f) (T_val (v := (Value.int .i64 (m127_ : Int))) (x_lenSl rfl H132_ 1 rfl Try.underlying30) ?_)
       refine S_yes (j := 24) (dj := 32) (b := false) rfl rfl (congrArg Value.bool c103_f) (T_val (v := (Value.bool (decide (0 < (m127_ : Int))))) (x_bin rfl rfl rfl) ?_)
       refine S_list (T_pickF (v := (Value.bool (decide (0 < (m127_ : Int))))) (congrArg Value.bool c103_f) rfl ?_)
       refine wpList_nil ?_
       refine (X_then (hK21_ _ _ ?_))
       clear hK21_
       refine C_cond (b := decide (0 < (m127_ : Int))) rfl (fun c136_t => ?_) (fun c136_f => ?_)
       ·have c136_tp : 0 < (m127_ : Int) := of_decide_eq_true c136_t
        refine C_seq (fun K137_ hK137_ => ?_)
        refine C_reg ?_
        refine S_list (T_call (al := []) (pre := []) rfl rfl cb14 (ckLive R119_) H132_ ?_)
        rintro v138_ p142_ w139_ ⟨rfl, rfl⟩ S141_ H140_
        have S143_ := Same.trans S135_ S141_
        refine S_list (T_val (v := (Value.bool true)) (x_assign rfl) ?_)
        refine wpList_nil ?_
        refine (X_then (hK137_ _ _ ?_))
        clear hK137_
        refine C_ret (X_thenR ?_)
        refine R_any (v := (Value.bool true)) (run_results1 rfl rfl) ?_
        have H144_ : Holds w139_ (ro R :: sl 44 5 v126_ m127_ xs128_ :: sl 9 1 v94_ m95_ xs96_ :: cl b2_ 25 [(Value.int .i64 x.q.kind), (Value.string x.q.key), (Value.string x.q.end_), (Value.string x.q.value), (Value.int .i64 x.q.lease), (Value.int .i64 x.q.rev), (Value.int .i64 x.q.limit), (Value.int .i64 x.q.sortOrder), (Value.int .i64 x.q.sortTarget), (Value.int .i64 x.q.minMod), (Value.int .i64 x.q.maxMod), (Value.int .i64 x.q.minCreate), (Value.int .i64 x.q.maxCreate), (Value.bool x.q.keysOnly), (Value.bool x.q.countOnly), (Value.bool x.q.prev), (Value.bool x.q.ignoreValue), (Value.bool x.q.ignoreLease), x.q.cmps, x.q.then_, x.q.else_] :: F) := Holds.ro_less H140_ hz_R_R119_
        have H145_ : Holds w139_ (ro R :: F) := (Holds.pkF H144_ [0] 3 :)
        exact ⟨_, _, rfl, ⟨rfl, rfl⟩, S143_, H145_⟩
       ·have c136_fp : ¬ (0 < (m127_ : Int)) := of_decide_eq_false c136_f
        refine C_skip (X_then (hK20_ _ _ ?_))
        clear hK20_
        refine C_seq (fun K146_ hK146_ => ?_)
        refine A_start (S := fun w => SlRd v126_ xs128_ w ∧ SlRd v94_ xs96_ w ∧ Rd b2_ [(Value.int .i64 x.q.kind), (Value.string x.q.key), (Value.string x.q.end_), (Value.string x.q.value), (Value.int .i64 x.q.lease), (Value.int .i64 x.q.rev), (Value.int .i64 x.q.limit), (Value.int .i64 x.q.sortOrder), (Value.int .i64 x.q.sortTarget), (Value.int .i64 x.q.minMod), (Value.int .i64 x.q.maxMod), (Value.int .i64 x.q.minCreate), (Value.int .i64 x.q.maxCreate), (Value.bool x.q.keysOnly), (Value.bool x.q.countOnly), (Value.bool x.q.prev), (Value.bool x.q.ignoreValue), (Value.bool x.q.ignoreLease), x.q.cmps, x.q.then_, x.q.else_] w ∧ Sub R119_ (hp w)) (N := 11) foll rfl rfl ?_
        have H147_ := Holds.drew_ H132_
        have hq148_ := And.intro (Holds.slrd H147_ 1 rfl) (And.intro (Holds.slrd H147_ 2 rfl) (And.intro (Holds.rd H147_ 3 rfl) ((Holds.ro_at H147_ 0 rfl))))
        refine A_tk 0 (v := (Value.agg #[(Value.int .i64 x.q.kind), (Value.string x.q.key), (Value.string x.q.end_), (Value.string x.q.value), (Value.int .i64 x.q.lease), (Value.int .i64 x.q.rev), (Value.int .i64 x.q.limit), (Value.int .i64 x.q.sortOrder), (Value.int .i64 x.q.sortTarget), (Value.int .i64 x.q.minMod), (Value.int .i64 x.q.maxMod), (Value.int .i64 x.q.minCreate), (Value.int .i64 x.q.maxCreate), (Value.bool x.q.keysOnly), (Value.bool x.q.countOnly), (Value.bool x.q.prev), (Value.bool x.q.ignoreValue), (Value.bool x.q.ignoreLease), x.q.cmps, x.q.then_, x.q.else_])) rfl (by kernel_rfl) (fun w hS => x_loadN (vs := [(Value.int .i64 x.q.kind), (Value.string x.q.key), (Value.string x.q.end_), (Value.string x.q.value), (Value.int .i64 x.q.lease), (Value.int .i64 x.q.rev), (Value.int .i64 x.q.limit), (Value.int .i64 x.q.sortOrder), (Value.int .i64 x.q.sortTarget), (Value.int .i64 x.q.minMod), (Value.int .i64 x.q.maxMod), (Value.int .i64 x.q.minCreate), (Value.int .i64 x.q.maxCreate), (Value.bool x.q.keysOnly), (Value.bool x.q.countOnly), (Value.bool x.q.prev), (Value.bool x.q.ignoreValue), (Value.bool x.q.ignoreLease), x.q.cmps, x.q.then_, x.q.else_]) rfl Try.underlying25 rfl z25 rfl (Rd.cells hS.2.2.1 0 rfl)) hq148_ ?_
        refine A_tk 1 (v := (Value.int .i64 lim)) rfl (by kernel_rfl) (fun w hS => x_move rfl) hq148_ ?_
        refine A_tk 3 (v := (Value.agg #[(Value.int .i64 x.q.kind), (Value.string x.q.key), (Value.string x.q.end_), (Value.string x.q.value), (Value.int .i64 x.q.lease), (Value.int .i64 x.q.rev), (Value.int .i64 x.q.limit), (Value.int .i64 x.q.sortOrder), (Value.int .i64 x.q.sortTarget), (Value.int .i64 x.q.minMod), (Value.int .i64 x.q.maxMod), (Value.int .i64 x.q.minCreate), (Value.int .i64 x.q.maxCreate), (Value.bool x.q.keysOnly), (Value.bool x.q.countOnly), (Value.bool x.q.prev), (Value.bool x.q.ignoreValue), (Value.bool x.q.ignoreLease), x.q.cmps, x.q.then_, x.q.else_])) rfl (by kernel_rfl) (fun w hS => x_loadN (vs := [(Value.int .i64 x.q.kind), (Value.string x.q.key), (Value.string x.q.end_), (Value.string x.q.value), (Value.int .i64 x.q.lease), (Value.int .i64 x.q.rev), (Value.int .i64 x.q.limit), (Value.int .i64 x.q.sortOrder), (Value.int .i64 x.q.sortTarget), (Value.int .i64 x.q.minMod), (Value.int .i64 x.q.maxMod), (Value.int .i64 x.q.minCreate), (Value.int .i64 x.q.maxCreate), (Value.bool x.q.keysOnly), (Value.bool x.q.countOnly), (Value.bool x.q.prev), (Value.bool x.q.ignoreValue), (Value.bool x.q.ignoreLease), x.q.cmps, x.q.then_, x.q.else_]) rfl Try.underlying25 rfl z25 rfl (Rd.cells hS.2.2.1 0 rfl)) hq148_ ?_
        refine A_tk 4 (v := (Value.int .i64 lim)) rfl (by kernel_rfl) (fun w hS => x_move rfl) hq148_ ?_
        refine A_ready (i := 2) (rs := []) (by kernel_rfl) ?_
        refine AllR.cons ?_ AllR.nil
        have hl2_ : cntL 2 [x] = cntT 2 x := by simp [cntL]
        have hl3_ : cntL 3 [x] = cntT 3 x := by simp [cntL]
        obtain ⟨mm_, hm0_, hm1_⟩ := (manyL_len [x] 3 0 (Int.le_refl 0) (by omega)).2 x (by simp)
        have hPl_ : Pln x := pln_of _ x (Nat.le_refl _) 3 mm_ hm0_ hm1_ (by omega) (by omega)
        have h4_ : x.q.kind = 4 := by omega
        refine A_op (ls' := #[true, true, true, true, true, false, false, false, false, false, false]) rfl (by kernel_rfl) (T_call (al := [(Value.agg #[(Value.int .i64 x.q.kind), (Value.string x.q.key), (Value.string x.q.end_), (Value.string x.q.value), (Value.int .i64 x.q.lease), (Value.int .i64 x.q.rev), (Value.int .i64 x.q.limit), (Value.int .i64 x.q.sortOrder), (Value.int .i64 x.q.sortTarget), (Value.int .i64 x.q.minMod), (Value.int .i64 x.q.maxMod), (Value.int .i64 x.q.minCreate), (Value.int .i64 x.q.maxCreate), (Value.bool x.q.keysOnly), (Value.bool x.q.countOnly), (Value.bool x.q.prev), (Value.bool x.q.ignoreValue), (Value.bool x.q.ignoreLease), x.q.cmps, x.q.then_, x.q.else_]), (Value.int .i64 lim)]) (pre := []) rfl rfl cb15 (ckCheck4 R119_ x lim (hR.mono hz_R_R119_) (hPl_) (by omega) (h4_)) H147_ ?_)
        rintro v149_ p153_ w150_ ⟨rfl, rfl⟩ S152_ H151_
        have S154_ := Same.trans (Same.trans S135_ (Same.drew _)) S152_
        refine ⟨⟨Holds.slrd H151_ 1 rfl, Holds.slrd H151_ 2 rfl, Holds.rd H151_ 3 rfl, (Holds.ro_at H151_ 0 rfl)⟩, ?_⟩
        refine A_ready (i := 5) (rs := []) (by kernel_rfl) ?_
        refine AllR.cons ?_ AllR.nil
        refine A_op (ls' := #[true, true, true, true, true, true, false, false, false, false, false]) rfl (by kernel_rfl) (T_call (al := [(Value.agg #[(Value.int .i64 x.q.kind), (Value.string x.q.key), (Value.string x.q.end_), (Value.string x.q.value), (Value.int .i64 x.q.lease), (Value.int .i64 x.q.rev), (Value.int .i64 x.q.limit), (Value.int .i64 x.q.sortOrder), (Value.int .i64 x.q.sortTarget), (Value.int .i64 x.q.minMod), (Value.int .i64 x.q.maxMod), (Value.int .i64 x.q.minCreate), (Value.int .i64 x.q.maxCreate), (Value.bool x.q.keysOnly), (Value.bool x.q.countOnly), (Value.bool x.q.prev), (Value.bool x.q.ignoreValue), (Value.bool x.q.ignoreLease), x.q.cmps, x.q.then_, x.q.else_]), (Value.int .i64 lim)]) (pre := []) rfl rfl cb16 (ckRefused R119_ x lim (hR.mono hz_R_R119_) (hPl_) (by omega)) H151_ ?_)
        rintro v155_ p159_ w156_ ⟨rfl, rfl⟩ S158_ H157_
        have S160_ := Same.trans S154_ S158_
        refine ⟨⟨Holds.slrd H157_ 1 rfl, Holds.slrd H157_ 2 rfl, Holds.rd H157_ 3 rfl, (Holds.ro_at H157_ 0 rfl)⟩, ?_⟩
        have hq161_ := And.intro (Holds.slrd H157_ 1 rfl) (And.intro (Holds.slrd H157_ 2 rfl) (And.intro (Holds.rd H157_ 3 rfl) ((Holds.ro_at H157_ 0 rfl))))
        refine A_tk 6 (v := (Value.bool (decide (refT x lim = refT x lim)))) rfl (by kernel_rfl) (fun w hS => x_bin rfl rfl rfl) hq161_ ?_
        refine A_tk 7 (v := (Value.bool (decide (refT x lim = refT x lim)))) rfl (by kernel_rfl) (fun w hS => x_move rfl) hq161_ ?_
        rcases Bool.eq_false_or_eq_true (decide (refT x lim = refT x lim)) with c162_t | c162_f
        ·have c162_tp : refT x lim = refT x lim := of_decide_eq_true c162_t
         refine A_ready (i := 8) (rs := []) (by kernel_rfl) ?_
         refine AllR.cons ?_ AllR.nil
         refine A_opYes (ls' := #[true, true, true, true, true, true, true, true, true, false, false]) (j := 7) (dj := 47) (b := true) rfl (by kernel_rfl) rfl rfl (congrArg Value.bool c162_t) (T_call (al := []) (pre := []) rfl rfl cb14 (ckLive R119_) H157_ ?_)
         rintro v163_ p167_ w164_ ⟨rfl, rfl⟩ S166_ H165_
         replace H165_ : Holds w164_ (ro R119_ :: sl 44 5 v126_ m127_ xs128_ :: sl 9 1 v94_ m95_ xs96_ :: cl b2_ 25 [(Value.int .i64 x.q.kind), (Value.string x.q.key), (Value.string x.q.end_), (Value.string x.q.value), (Value.int .i64 x.q.lease), (Value.int .i64 x.q.rev), (Value.int .i64 x.q.limit), (Value.int .i64 x.q.sortOrder), (Value.int .i64 x.q.sortTarget), (Value.int .i64 x.q.minMod), (Value.int .i64 x.q.maxMod), (Value.int .i64 x.q.minCreate), (Value.int .i64 x.q.maxCreate), (Value.bool x.q.keysOnly), (Value.bool x.q.countOnly), (Value.bool x.q.prev), (Value.bool x.q.ignoreValue), (Value.bool x.q.ignoreLease), x.q.cmps, x.q.then_, x.q.else_] :: F) := H165_
         have S168_ := Same.trans S160_ S166_
         refine ⟨⟨Holds.slrd H165_ 1 rfl, Holds.slrd H165_ 2 rfl, Holds.rd H165_ 3 rfl, (Holds.ro_at H165_ 0 rfl)⟩, ?_⟩
         have hq169_ := And.intro (Holds.slrd H165_ 1 rfl) (And.intro (Holds.slrd H165_ 2 rfl) (And.intro (Holds.rd H165_ 3 rfl) ((Holds.ro_at H165_ 0 rfl))))
         refine A_tk 9 (v := (Value.bool true)) rfl (by kernel_rfl) (fun w hS => (x_pickT (congrArg Value.bool c162_t) rfl)) hq169_ ?_
         refine A_tk 10 (v := (Value.bool true)) rfl (by kernel_rfl) (fun w hS => x_assign rfl) hq169_ ?_
         refine A_done (by kernel_rfl) ?_
         refine (X_then (hK146_ _ _ ?_))
         clear hK146_
         refine C_ret ?_
         refine R_any (v := (Value.bool true)) (run_results1 rfl rfl) ?_
         have H170_ : Holds w164_ (ro R :: sl 44 5 v126_ m127_ xs128_ :: sl 9 1 v94_ m95_ xs96_ :: cl b2_ 25 [(Value.int .i64 x.q.kind), (Value.string x.q.key), (Value.string x.q.end_), (Value.string x.q.value), (Value.int .i64 x.q.lease), (Value.int .i64 x.q.rev), (Value.int .i64 x.q.limit), (Value.int .i64 x.q.sortOrder), (Value.int .i64 x.q.sortTarget), (Value.int .i64 x.q.minMod), (Value.int .i64 x.q.maxMod), (Value.int .i64 x.q.minCreate), (Value.int .i64 x.q.maxCreate), (Value.bool x.q.keysOnly), (Value.bool x.q.countOnly), (Value.bool x.q.prev), (Value.bool x.q.ignoreValue), (Value.bool x.q.ignoreLease), x.q.cmps, x.q.then_, x.q.else_] :: F) := Holds.ro_less H165_ hz_R_R119_
         have H171_ : Holds w164_ (ro R :: F) := (Holds.pkF H170_ [0] 3 :)
         exact ⟨_, _, rfl, ⟨rfl, rfl⟩, S168_, H171_⟩
        ·have c162_fp : ¬ (refT x lim = refT x lim) := of_decide_eq_false c162_f
         exact absurd rfl c162_fp
end Go.Proofs.Ytlnihndjepjagaa
