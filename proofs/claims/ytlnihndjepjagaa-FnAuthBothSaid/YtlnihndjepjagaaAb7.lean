/- Words, and proved steps, on which the proof leans. -/
import Derived.Test.YtlnihndjepjagaaAb6
set_option linter.unusedVariables false
set_option linter.unusedSimpArgs false
namespace Go.Proofs.Ytlnihndjepjagaa
open Go Go.RowKit Gw
open Go.Value renaming int → vI, bool → vB, slice → vS, pointer → vP, agg → vA, tuple → vT

theorem apart1_eq (p : PM) : apart1 p = (if pallows 0 p = true then [⟨0, p.key, p.end_⟩] else []) ++ (if pallows 1 p = true then [⟨1, p.key, p.end_⟩] else []) := by
  unfold apart1 pallows
  simp only [decide_eq_true_eq]
theorem apartL_snoc {l : List PM} {k : Nat} {p : PM} (h : l[k]? = some p) : apartL (l.take (k + 1)) = apartL (l.take k) ++ apart1 p := by
  unfold apartL
  rw [take_snoc h, List.flatMap_append]
  simp
theorem otherL_snoc {l : List PM} {k : Nat} {p : PM} {kind : Int} (h : l[k]? = some p) : otherL (l.take (k + 1)) kind = otherL (l.take k) kind ++ [⟨1 - kind, p.key, p.end_⟩] := by
  unfold otherL
  rw [take_snoc h, List.map_append]
  rfl

set_option maxHeartbeats 1600000 in
theorem pmAllows (R : HP) (p : PM) (kind : Int) :
    Tri Try.prog 25 #[(vA #[(vI .i64 p.kind), (Value.string p.key), (Value.string p.end_)]), (vI .i64 kind)] R [] (fun v__ post__ => v__ = (vB (pallows kind p)) ∧ post__ = []) := by
 refine Tri.into (n := 14) (al := [(vA #[(vI .i64 p.kind), (Value.string p.key), (Value.string p.end_)]), (vI .i64 kind)]) Try.func25 rfl Try.ntmps25 rfl rfl fun w F H => ?_
 refine C_seq (fun K1_ hK1_ => C_reg ?_)
 refine S_list (T_box (v := (vA #[(vI .i64 p.kind), (Value.string p.key), (Value.string p.end_)])) rfl H ?_)
 intro b2_ w3_ S5_ H4_
 have S6_ := Same.trans (Same.refl w) S5_
 refine sv (v := (vB false)) (x_assign rfl) ?_
 refine wpList_nil (X_then (hK1_ _ _ ?_))
 clear hK1_
 refine C_seq (fun K7_ hK7_ => C_reg ?_)
 refine sv (v := (vQ b2_)) (by kernel_rfl) ?_
 refine sv (v := (vI .i64 p.kind)) (x_load1 rfl Try.underlying3 rfl ((Holds.rd H4_ 0 rfl) 0 (vI .i64 p.kind) rfl)) ?_
 refine sv (v := (vI .i64 kind)) (x_move rfl) ?_
 refine sv (v := (vB (decide (p.kind = kind)))) (x_bin rfl rfl rfl) ?_
 refine sv (v := (vB (decide (p.kind = kind)))) (x_move rfl) ?_
 rcases Bool.eq_false_or_eq_true (decide (p.kind = kind)) with c8_t | c8_f
 ·have c8_tp : p.kind = kind := of_decide_eq_true c8_t
  refine S_no (j := 4) (dj := 9) (b := true) rfl rfl (congrArg vB c8_t) (by decide) ?_
  refine S_no (j := 4) (dj := 9) (b := true) rfl rfl (congrArg vB c8_t) (by decide) ?_
  refine S_no (j := 4) (dj := 9) (b := true) rfl rfl (congrArg vB c8_t) (by decide) ?_
  refine S_list (T_pickT (v := (vB true)) (congrArg vB c8_t) rfl ?_)
  refine sv (v := (vB true)) (x_assign rfl) ?_
  refine wpList_nil (X_then (hK7_ _ _ ?_))
  clear hK7_
  refine C_ret ?_
  refine R_any (v := (vB true)) (run_results1 rfl rfl) ?_
  have H9_ : Holds w3_ (ro R :: F) := (Holds.pkF H4_ [1] 1 :)
  exact ⟨_, _, rfl, ⟨(congrArg vB ((by unfold pallows; first | exact (decide_eq_true (by omega)).symm | exact decide_eq_decide.2 (by omega)) : true = (pallows kind p))), rfl⟩, S6_, H9_⟩
 ·have c8_fp : ¬ (p.kind = kind) := of_decide_eq_false c8_f
  refine S_yes (j := 4) (dj := 9) (b := false) rfl rfl (congrArg vB c8_f) (T_val (v := (vQ b2_)) (by kernel_rfl) ?_)
  refine S_yes (j := 4) (dj := 9) (b := false) rfl rfl (congrArg vB c8_f) (T_val (v := (vI .i64 p.kind)) (x_load1 rfl Try.underlying3 rfl ((Holds.rd H4_ 0 rfl) 0 (vI .i64 p.kind) rfl)) ?_)
  refine S_yes (j := 4) (dj := 9) (b := false) rfl rfl (congrArg vB c8_f) (T_val (v := (vB (decide (p.kind = 2)))) (x_bin rfl rfl rfl) ?_)
  refine S_list (T_pickF (v := (vB (decide (p.kind = 2)))) (congrArg vB c8_f) rfl ?_)
  refine sv (v := (vB (decide (p.kind = 2)))) (x_assign rfl) ?_
  refine wpList_nil (X_then (hK7_ _ _ ?_))
  clear hK7_
  refine C_ret ?_
  refine R_any (v := (vB (decide (p.kind = 2)))) (run_results1 rfl rfl) ?_
  have H10_ : Holds w3_ (ro R :: F) := (Holds.pkF H4_ [1] 1 :)
  exact ⟨_, _, rfl, ⟨(congrArg vB ((by unfold pallows; first | exact (decide_eq_true (by omega)).symm | exact decide_eq_decide.2 (by omega)) : (decide (p.kind = 2)) = (pallows kind p))), rfl⟩, S6_, H10_⟩

set_option maxHeartbeats 8000000 in
theorem fnAuthBoth (R : HP) (v : Value) (l : List PM) (key end_ : ByteArray) (kind : Int) (hv : RS R 3 v (List.length l) (l.flatMap PM.cells)) :
    Tri Try.prog 5 #[v, (Value.string key), (Value.string end_), (vI .i64 kind)] R [] (fun v__ post__ => v__ = (vB true) ∧ post__ = []) := by
 refine Tri.into (n := 124) (al := [v, (Value.string key), (Value.string end_), (vI .i64 kind)]) Try.func5 rfl Try.ntmps5 rfl rfl fun w F H => ?_
 refine C_seq (fun K1_ hK1_ => C_reg ?_)
 refine sv (v := (vB false)) (x_assign rfl) ?_
 refine wpList_nil (X_then (hK1_ _ _ ?_))
 clear hK1_
 refine C_seq (fun K2_ hK2_ => ?_)
 refine C_seq (fun K3_ hK3_ => C_reg ?_)
 refine sv (v := v) (x_move rfl) ?_
 refine S_list (T_call (al := [v]) (pre := []) rfl rfl cb21 (pmFits R v l hv) H ?_)
 rintro v4_ p10_ w7_ ⟨b5_, rfl, rfl, he6_⟩ S9_ H8_
 have S11_ := Same.trans (Same.refl w) S9_
 refine sv (v := (vB (!b5_))) (x_not rfl) ?_
 refine sv (v := (vB (!b5_))) (x_move rfl) ?_
 rcases Bool.eq_false_or_eq_true (!b5_) with c12_t | c12_f
 ·skip
  refine S_no (j := 3) (dj := 16) (b := true) rfl rfl (congrArg vB c12_t) (by decide) ?_
  refine S_no (j := 3) (dj := 16) (b := true) rfl rfl (congrArg vB c12_t) (by decide) ?_
  refine S_no (j := 3) (dj := 16) (b := true) rfl rfl (congrArg vB c12_t) (by decide) ?_
  refine S_list (T_pickT (v := (vB true)) (congrArg vB c12_t) rfl ?_)
  refine sv (v := (vB true)) (x_move rfl) ?_
  refine S_no (j := 8) (dj := 21) (b := true) rfl rfl rfl (by decide) ?_
  refine S_no (j := 8) (dj := 21) (b := true) rfl rfl rfl (by decide) ?_
  refine S_no (j := 8) (dj := 21) (b := true) rfl rfl rfl (by decide) ?_
  refine S_list (T_pickT (v := (vB true)) rfl rfl ?_)
  refine wpList_nil (X_then (hK3_ _ _ ?_))
  clear hK3_
  refine C_condT rfl ?_
  refine C_seq (fun K13_ hK13_ => C_reg ?_)
  refine sv (v := (vB true)) (x_assign rfl) ?_
  refine wpList_nil (X_then (hK13_ _ _ ?_))
  clear hK13_
  refine C_ret (X_thenR ?_)
  refine R_any (v := (vB true)) (run_results1 rfl rfl) ?_
  exact ⟨_, _, rfl, ⟨rfl, rfl⟩, S11_, H8_⟩
 ·skip
  refine S_yes (j := 3) (dj := 16) (b := false) rfl rfl (congrArg vB c12_f) (T_val (v := (Value.string key)) (x_move rfl) ?_)
  refine S_yes (j := 3) (dj := 16) (b := false) rfl rfl (congrArg vB c12_f) (T_val (v := (vI .i64 (key.size : Int))) (x_lenT rfl Try.underlying9) ?_)
  refine S_yes (j := 3) (dj := 16) (b := false) rfl rfl (congrArg vB c12_f) (T_val (v := (vB (decide (2147483647 < (key.size : Int))))) (x_bin rfl rfl rfl) ?_)
  refine S_list (T_pickF (v := (vB (decide (2147483647 < (key.size : Int))))) (congrArg vB c12_f) rfl ?_)
  refine sv (v := (vB (decide (2147483647 < (key.size : Int))))) (x_move rfl) ?_
  rcases Bool.eq_false_or_eq_true (decide (2147483647 < (key.size : Int))) with c14_t | c14_f
  ·have c14_tp : 2147483647 < (key.size : Int) := of_decide_eq_true c14_t
   refine S_no (j := 8) (dj := 21) (b := true) rfl rfl (congrArg vB c14_t) (by decide) ?_
   refine S_no (j := 8) (dj := 21) (b := true) rfl rfl (congrArg vB c14_t) (by decide) ?_
   refine S_no (j := 8) (dj := 21) (b := true) rfl rfl (congrArg vB c14_t) (by decide) ?_
   refine S_list (T_pickT (v := (vB true)) (congrArg vB c14_t) rfl ?_)
   refine wpList_nil (X_then (hK3_ _ _ ?_))
   clear hK3_
   refine C_condT rfl ?_
   refine C_seq (fun K15_ hK15_ => C_reg ?_)
   refine sv (v := (vB true)) (x_assign rfl) ?_
   refine wpList_nil (X_then (hK15_ _ _ ?_))
   clear hK15_
   refine C_ret (X_thenR ?_)
   refine R_any (v := (vB true)) (run_results1 rfl rfl) ?_
   exact ⟨_, _, rfl, ⟨rfl, rfl⟩, S11_, H8_⟩
  ·have c14_fp : ¬ (2147483647 < (key.size : Int)) := of_decide_eq_false c14_f
   refine S_yes (j := 8) (dj := 21) (b := false) rfl rfl (congrArg vB c14_f) (T_val (v := (Value.string end_)) (x_move rfl) ?_)
   refine S_yes (j := 8) (dj := 21) (b := false) rfl rfl (congrArg vB c14_f) (T_val (v := (vI .i64 (end_.size : Int))) (x_lenT rfl Try.underlying9) ?_)
   refine S_yes (j := 8) (dj := 21) (b := false) rfl rfl (congrArg vB c14_f) (T_val (v := (vB (decide (2147483647 < (end_.size : Int))))) (x_bin rfl rfl rfl) ?_)
   refine S_list (T_pickF (v := (vB (decide (2147483647 < (end_.size : Int))))) (congrArg vB c14_f) rfl ?_)
   refine wpList_nil (X_then (hK3_ _ _ ?_))
   clear hK3_
   refine C_cond (b := decide (2147483647 < (end_.size : Int))) rfl (fun c16_t => ?_) (fun c16_f => ?_)
   ·have c16_tp : 2147483647 < (end_.size : Int) := of_decide_eq_true c16_t
    refine C_seq (fun K17_ hK17_ => C_reg ?_)
    refine sv (v := (vB true)) (x_assign rfl) ?_
    refine wpList_nil (X_then (hK17_ _ _ ?_))
    clear hK17_
    refine C_ret (X_thenR ?_)
    refine R_any (v := (vB true)) (run_results1 rfl rfl) ?_
    exact ⟨_, _, rfl, ⟨rfl, rfl⟩, S11_, H8_⟩
   ·have c16_fp : ¬ (2147483647 < (end_.size : Int)) := of_decide_eq_false c16_f
    refine C_skip (X_then (hK2_ _ _ ?_))
    clear hK2_
    refine C_seq (fun K18_ hK18_ => ?_)
    refine C_seq (fun K19_ hK19_ => C_reg ?_)
    refine sv (v := v) (x_move rfl) ?_
    refine S_list (T_call (al := [v]) (pre := []) rfl rfl cb22 (pmPerms R v l hv ((he6_ (by simpa using c12_f)))) H8_ ?_)
    rintro v20_ p26_ w23_ ⟨b21_, rfl, rfl, he22_⟩ S25_ H24_
    have S27_ := Same.trans S11_ S25_
    refine sv (v := (vB (!b21_))) (x_not rfl) ?_
    refine sv (v := (vB (!b21_))) (x_move rfl) ?_
    rcases Bool.eq_false_or_eq_true (!b21_) with c28_t | c28_f
    ·skip
     refine S_no (j := 3) (dj := 29) (b := true) rfl rfl (congrArg vB c28_t) (by decide) ?_
     refine S_no (j := 3) (dj := 29) (b := true) rfl rfl (congrArg vB c28_t) (by decide) ?_
     refine S_no (j := 3) (dj := 29) (b := true) rfl rfl (congrArg vB c28_t) (by decide) ?_
     refine S_list (T_pickT (v := (vB true)) (congrArg vB c28_t) rfl ?_)
     refine sv (v := (vB true)) (x_move rfl) ?_
     refine S_no (j := 8) (dj := 34) (b := true) rfl rfl rfl (by decide) ?_
     refine S_no (j := 8) (dj := 34) (b := true) rfl rfl rfl (by decide) ?_
     refine S_no (j := 8) (dj := 34) (b := true) rfl rfl rfl (by decide) ?_
     refine S_list (T_pickT (v := (vB true)) rfl rfl ?_)
     refine sv (v := (vB true)) (x_move rfl) ?_
     refine S_no (j := 13) (dj := 39) (b := true) rfl rfl rfl (by decide) ?_
     refine S_no (j := 13) (dj := 39) (b := true) rfl rfl rfl (by decide) ?_
     refine S_no (j := 13) (dj := 39) (b := true) rfl rfl rfl (by decide) ?_
     refine S_list (T_pickT (v := (vB true)) rfl rfl ?_)
     refine sv (v := (vB true)) (x_move rfl) ?_
     refine S_no (j := 18) (dj := 44) (b := true) rfl rfl rfl (by decide) ?_
     refine S_no (j := 18) (dj := 44) (b := true) rfl rfl rfl (by decide) ?_
     refine S_no (j := 18) (dj := 44) (b := true) rfl rfl rfl (by decide) ?_
     refine S_no (j := 18) (dj := 44) (b := true) rfl rfl rfl (by decide) ?_
     refine S_list (T_pickT (v := (vB true)) rfl rfl ?_)
     refine sv (v := (vB true)) (x_move rfl) ?_
     refine S_no (j := 24) (dj := 50) (b := true) rfl rfl rfl (by decide) ?_
     refine S_no (j := 24) (dj := 50) (b := true) rfl rfl rfl (by decide) ?_
     refine S_list (T_pickT (v := (vB true)) rfl rfl ?_)
     refine sv (v := (vB true)) (x_move rfl) ?_
     refine S_no (j := 28) (dj := 54) (b := true) rfl rfl rfl (by decide) ?_
     refine S_no (j := 28) (dj := 54) (b := true) rfl rfl rfl (by decide) ?_
     refine S_list (T_pickT (v := (vB true)) rfl rfl ?_)
     refine wpList_nil (X_then (hK19_ _ _ ?_))
     clear hK19_
     refine C_condT rfl ?_
     refine C_seq (fun K29_ hK29_ => C_reg ?_)
     refine sv (v := (vB true)) (x_assign rfl) ?_
     refine wpList_nil (X_then (hK29_ _ _ ?_))
     clear hK29_
     refine C_ret (X_thenR ?_)
     refine R_any (v := (vB true)) (run_results1 rfl rfl) ?_
     exact ⟨_, _, rfl, ⟨rfl, rfl⟩, S27_, H24_⟩
    ·skip
     refine S_yes (j := 3) (dj := 29) (b := false) rfl rfl (congrArg vB c28_f) (T_val (v := v) (x_move rfl) ?_)
     refine S_yes (j := 3) (dj := 29) (b := false) rfl rfl (congrArg vB c28_f) (T_val (v := (vI .i64 ((List.length l) : Int))) (x_lenRS rfl hv Try.underlying46) ?_)
     refine S_yes (j := 3) (dj := 29) (b := false) rfl rfl (congrArg vB c28_f) (T_val (v := (vB (decide (6 < ((List.length l) : Int))))) (x_bin rfl rfl rfl) ?_)
     refine S_list (T_pickF (v := (vB (decide (6 < ((List.length l) : Int))))) (congrArg vB c28_f) rfl ?_)
     refine sv (v := (vB (decide (6 < ((List.length l) : Int))))) (x_move rfl) ?_
     rcases Bool.eq_false_or_eq_true (decide (6 < ((List.length l) : Int))) with c30_t | c30_f
     ·have c30_tp : 6 < ((List.length l) : Int) := of_decide_eq_true c30_t
      refine S_no (j := 8) (dj := 34) (b := true) rfl rfl (congrArg vB c30_t) (by decide) ?_
      refine S_no (j := 8) (dj := 34) (b := true) rfl rfl (congrArg vB c30_t) (by decide) ?_
      refine S_no (j := 8) (dj := 34) (b := true) rfl rfl (congrArg vB c30_t) (by decide) ?_
      refine S_list (T_pickT (v := (vB true)) (congrArg vB c30_t) rfl ?_)
      refine sv (v := (vB true)) (x_move rfl) ?_
      refine S_no (j := 13) (dj := 39) (b := true) rfl rfl rfl (by decide) ?_
      refine S_no (j := 13) (dj := 39) (b := true) rfl rfl rfl (by decide) ?_
      refine S_no (j := 13) (dj := 39) (b := true) rfl rfl rfl (by decide) ?_
      refine S_list (T_pickT (v := (vB true)) rfl rfl ?_)
      refine sv (v := (vB true)) (x_move rfl) ?_
      refine S_no (j := 18) (dj := 44) (b := true) rfl rfl rfl (by decide) ?_
      refine S_no (j := 18) (dj := 44) (b := true) rfl rfl rfl (by decide) ?_
      refine S_no (j := 18) (dj := 44) (b := true) rfl rfl rfl (by decide) ?_
      refine S_no (j := 18) (dj := 44) (b := true) rfl rfl rfl (by decide) ?_
      refine S_list (T_pickT (v := (vB true)) rfl rfl ?_)
      refine sv (v := (vB true)) (x_move rfl) ?_
      refine S_no (j := 24) (dj := 50) (b := true) rfl rfl rfl (by decide) ?_
      refine S_no (j := 24) (dj := 50) (b := true) rfl rfl rfl (by decide) ?_
      refine S_list (T_pickT (v := (vB true)) rfl rfl ?_)
      refine sv (v := (vB true)) (x_move rfl) ?_
      refine S_no (j := 28) (dj := 54) (b := true) rfl rfl rfl (by decide) ?_
      refine S_no (j := 28) (dj := 54) (b := true) rfl rfl rfl (by decide) ?_
      refine S_list (T_pickT (v := (vB true)) rfl rfl ?_)
      refine wpList_nil (X_then (hK19_ _ _ ?_))
      clear hK19_
      refine C_condT rfl ?_
      refine C_seq (fun K31_ hK31_ => C_reg ?_)
      refine sv (v := (vB true)) (x_assign rfl) ?_
      refine wpList_nil (X_then (hK31_ _ _ ?_))
      clear hK31_
      refine C_ret (X_thenR ?_)
      refine R_any (v := (vB true)) (run_results1 rfl rfl) ?_
      exact ⟨_, _, rfl, ⟨rfl, rfl⟩, S27_, H24_⟩
     ·have c30_fp : ¬ (6 < ((List.length l) : Int)) := of_decide_eq_false c30_f
      refine S_yes (j := 8) (dj := 34) (b := false) rfl rfl (congrArg vB c30_f) (T_val (v := (Value.string key)) (x_move rfl) ?_)
      refine S_yes (j := 8) (dj := 34) (b := false) rfl rfl (congrArg vB c30_f) (T_callW (al := [(Value.string key)]) rfl rfl cb23 (Calls.into (n := 6) (al := [(Value.string key)]) Try.func23 rfl Try.ntmps23 rfl rfl ?_))
      refine C_seq (fun K32_ hK32_ => C_reg ?_)
      refine sv (v := (vB false)) (x_assign rfl) ?_
      refine wpList_nil (X_then (hK32_ _ _ ?_))
      clear hK32_
      refine C_seq (fun K33_ hK33_ => C_reg ?_)
      refine sv (v := (Value.string key)) (x_move rfl) ?_
      refine sv (v := (vI .i64 (key.size : Int))) (x_lenT rfl Try.underlying9) ?_
      refine sv (v := (vB (decide ((key.size : Int) ≤ 64)))) (x_bin rfl rfl rfl) ?_
      refine sv (v := (vB (decide ((key.size : Int) ≤ 64)))) (x_assign rfl) ?_
      refine wpList_nil (X_then (hK33_ _ _ ?_))
      clear hK33_
      refine C_ret ?_
      refine R_any (v := (vB (decide ((key.size : Int) ≤ 64)))) (run_results1 rfl rfl) ⟨_, rfl, ?_⟩
      refine S_yes (j := 8) (dj := 34) (b := false) rfl rfl (congrArg vB c30_f) (T_val (v := (vB (decide (¬ ((key.size : Int) ≤ 64))))) (x_notP rfl) ?_)
      refine S_list (T_pickF (v := (vB (decide (¬ ((key.size : Int) ≤ 64))))) (congrArg vB c30_f) rfl ?_)
      refine sv (v := (vB (decide (¬ ((key.size : Int) ≤ 64))))) (x_move rfl) ?_
      rcases Bool.eq_false_or_eq_true (decide (¬ ((key.size : Int) ≤ 64))) with c34_t | c34_f
      ·have c34_tp : ¬ ((key.size : Int) ≤ 64) := of_decide_eq_true c34_t
       refine S_no (j := 13) (dj := 39) (b := true) rfl rfl (congrArg vB c34_t) (by decide) ?_
       refine S_no (j := 13) (dj := 39) (b := true) rfl rfl (congrArg vB c34_t) (by decide) ?_
       refine S_no (j := 13) (dj := 39) (b := true) rfl rfl (congrArg vB c34_t) (by decide) ?_
       refine S_list (T_pickT (v := (vB true)) (congrArg vB c34_t) rfl ?_)
       refine sv (v := (vB true)) (x_move rfl) ?_
       refine S_no (j := 18) (dj := 44) (b := true) rfl rfl rfl (by decide) ?_
       refine S_no (j := 18) (dj := 44) (b := true) rfl rfl rfl (by decide) ?_
       refine S_no (j := 18) (dj := 44) (b := true) rfl rfl rfl (by decide) ?_
       refine S_no (j := 18) (dj := 44) (b := true) rfl rfl rfl (by decide) ?_
       refine S_list (T_pickT (v := (vB true)) rfl rfl ?_)
       refine sv (v := (vB true)) (x_move rfl) ?_
       refine S_no (j := 24) (dj := 50) (b := true) rfl rfl rfl (by decide) ?_
       refine S_no (j := 24) (dj := 50) (b := true) rfl rfl rfl (by decide) ?_
       refine S_list (T_pickT (v := (vB true)) rfl rfl ?_)
       refine sv (v := (vB true)) (x_move rfl) ?_
       refine S_no (j := 28) (dj := 54) (b := true) rfl rfl rfl (by decide) ?_
       refine S_no (j := 28) (dj := 54) (b := true) rfl rfl rfl (by decide) ?_
       refine S_list (T_pickT (v := (vB true)) rfl rfl ?_)
       refine wpList_nil (X_then (hK19_ _ _ ?_))
       clear hK19_
       refine C_condT rfl ?_
       refine C_seq (fun K35_ hK35_ => C_reg ?_)
       refine sv (v := (vB true)) (x_assign rfl) ?_
       refine wpList_nil (X_then (hK35_ _ _ ?_))
       clear hK35_
       refine C_ret (X_thenR ?_)
       refine R_any (v := (vB true)) (run_results1 rfl rfl) ?_
       exact ⟨_, _, rfl, ⟨rfl, rfl⟩, S27_, H24_⟩
      ·have c34_fp : ¬ (¬ ((key.size : Int) ≤ 64)) := of_decide_eq_false c34_f
       refine S_yes (j := 13) (dj := 39) (b := false) rfl rfl (congrArg vB c34_f) (T_val (v := (Value.string end_)) (x_move rfl) ?_)
       refine S_yes (j := 13) (dj := 39) (b := false) rfl rfl (congrArg vB c34_f) (T_callW (al := [(Value.string end_)]) rfl rfl cb23 (Calls.into (n := 6) (al := [(Value.string end_)]) Try.func23 rfl Try.ntmps23 rfl rfl ?_))
       refine C_seq (fun K36_ hK36_ => C_reg ?_)
       refine sv (v := (vB false)) (x_assign rfl) ?_
       refine wpList_nil (X_then (hK36_ _ _ ?_))
       clear hK36_
       refine C_seq (fun K37_ hK37_ => C_reg ?_)
       refine sv (v := (Value.string end_)) (x_move rfl) ?_
       refine sv (v := (vI .i64 (end_.size : Int))) (x_lenT rfl Try.underlying9) ?_
       refine sv (v := (vB (decide ((end_.size : Int) ≤ 64)))) (x_bin rfl rfl rfl) ?_
       refine sv (v := (vB (decide ((end_.size : Int) ≤ 64)))) (x_assign rfl) ?_
       refine wpList_nil (X_then (hK37_ _ _ ?_))
       clear hK37_
       refine C_ret ?_
       refine R_any (v := (vB (decide ((end_.size : Int) ≤ 64)))) (run_results1 rfl rfl) ⟨_, rfl, ?_⟩
       refine S_yes (j := 13) (dj := 39) (b := false) rfl rfl (congrArg vB c34_f) (T_val (v := (vB (decide (¬ ((end_.size : Int) ≤ 64))))) (x_notP rfl) ?_)
       refine S_list (T_pickF (v := (vB (decide (¬ ((end_.size : Int) ≤ 64))))) (congrArg vB c34_f) rfl ?_)
       refine sv (v := (vB (decide (¬ ((end_.size : Int) ≤ 64))))) (x_move rfl) ?_
       rcases Bool.eq_false_or_eq_true (decide (¬ ((end_.size : Int) ≤ 64))) with c38_t | c38_f
       ·have c38_tp : ¬ ((end_.size : Int) ≤ 64) := of_decide_eq_true c38_t
        refine S_no (j := 18) (dj := 44) (b := true) rfl rfl (congrArg vB c38_t) (by decide) ?_
        refine S_no (j := 18) (dj := 44) (b := true) rfl rfl (congrArg vB c38_t) (by decide) ?_
        refine S_no (j := 18) (dj := 44) (b := true) rfl rfl (congrArg vB c38_t) (by decide) ?_
        refine S_no (j := 18) (dj := 44) (b := true) rfl rfl (congrArg vB c38_t) (by decide) ?_
        refine S_list (T_pickT (v := (vB true)) (congrArg vB c38_t) rfl ?_)
        refine sv (v := (vB true)) (x_move rfl) ?_
        refine S_no (j := 24) (dj := 50) (b := true) rfl rfl rfl (by decide) ?_
        refine S_no (j := 24) (dj := 50) (b := true) rfl rfl rfl (by decide) ?_
        refine S_list (T_pickT (v := (vB true)) rfl rfl ?_)
        refine sv (v := (vB true)) (x_move rfl) ?_
        refine S_no (j := 28) (dj := 54) (b := true) rfl rfl rfl (by decide) ?_
        refine S_no (j := 28) (dj := 54) (b := true) rfl rfl rfl (by decide) ?_
        refine S_list (T_pickT (v := (vB true)) rfl rfl ?_)
        refine wpList_nil (X_then (hK19_ _ _ ?_))
        clear hK19_
        refine C_condT rfl ?_
        refine C_seq (fun K39_ hK39_ => C_reg ?_)
        refine sv (v := (vB true)) (x_assign rfl) ?_
        refine wpList_nil (X_then (hK39_ _ _ ?_))
        clear hK39_
        refine C_ret (X_thenR ?_)
        refine R_any (v := (vB true)) (run_results1 rfl rfl) ?_
        exact ⟨_, _, rfl, ⟨rfl, rfl⟩, S27_, H24_⟩
       ·have c38_fp : ¬ (¬ ((end_.size : Int) ≤ 64)) := of_decide_eq_false c38_f
        refine S_yes (j := 18) (dj := 44) (b := false) rfl rfl (congrArg vB c38_f) (T_val (v := (Value.string key)) (x_move rfl) ?_)
        refine S_yes (j := 18) (dj := 44) (b := false) rfl rfl (congrArg vB c38_f) (T_val (v := (Value.string end_)) (x_move rfl) ?_)
        refine S_yes (j := 18) (dj := 44) (b := false) rfl rfl (congrArg vB c38_f) (T_call (al := [(Value.string key), (Value.string end_)]) (pre := []) rfl rfl cb24 (pmRange R key end_) H24_ ?_)
        rintro v40_ p44_ w41_ ⟨rfl, rfl⟩ S43_ H42_
        have S45_ := Same.trans S27_ S43_
        refine S_yes (j := 18) (dj := 44) (b := false) rfl rfl (congrArg vB c38_f) (T_val (v := (vB (!(vrB key end_)))) (x_not rfl) ?_)
        refine S_list (T_pickF (v := (vB (!(vrB key end_)))) (congrArg vB c38_f) rfl ?_)
        refine sv (v := (vB (!(vrB key end_)))) (x_move rfl) ?_
        rcases Bool.eq_false_or_eq_true (!(vrB key end_)) with c46_t | c46_f
        ·skip
         refine S_no (j := 24) (dj := 50) (b := true) rfl rfl (congrArg vB c46_t) (by decide) ?_
         refine S_no (j := 24) (dj := 50) (b := true) rfl rfl (congrArg vB c46_t) (by decide) ?_
         refine S_list (T_pickT (v := (vB true)) (congrArg vB c46_t) rfl ?_)
         refine sv (v := (vB true)) (x_move rfl) ?_
         refine S_no (j := 28) (dj := 54) (b := true) rfl rfl rfl (by decide) ?_
         refine S_no (j := 28) (dj := 54) (b := true) rfl rfl rfl (by decide) ?_
         refine S_list (T_pickT (v := (vB true)) rfl rfl ?_)
         refine wpList_nil (X_then (hK19_ _ _ ?_))
         clear hK19_
         refine C_condT rfl ?_
         refine C_seq (fun K47_ hK47_ => C_reg ?_)
         refine sv (v := (vB true)) (x_assign rfl) ?_
         refine wpList_nil (X_then (hK47_ _ _ ?_))
         clear hK47_
         refine C_ret (X_thenR ?_)
         refine R_any (v := (vB true)) (run_results1 rfl rfl) ?_
         exact ⟨_, _, rfl, ⟨rfl, rfl⟩, S45_, H42_⟩
        ·skip
         refine S_yes (j := 24) (dj := 50) (b := false) rfl rfl (congrArg vB c46_f) (T_val (v := (vI .i64 kind)) (x_move rfl) ?_)
         refine S_yes (j := 24) (dj := 50) (b := false) rfl rfl (congrArg vB c46_f) (T_val (v := (vB (decide (kind < 0)))) (x_bin rfl rfl rfl) ?_)
         refine S_list (T_pickF (v := (vB (decide (kind < 0)))) (congrArg vB c46_f) rfl ?_)
         refine sv (v := (vB (decide (kind < 0)))) (x_move rfl) ?_
         rcases Bool.eq_false_or_eq_true (decide (kind < 0)) with c48_t | c48_f
         ·have c48_tp : kind < 0 := of_decide_eq_true c48_t
          refine S_no (j := 28) (dj := 54) (b := true) rfl rfl (congrArg vB c48_t) (by decide) ?_
          refine S_no (j := 28) (dj := 54) (b := true) rfl rfl (congrArg vB c48_t) (by decide) ?_
          refine S_list (T_pickT (v := (vB true)) (congrArg vB c48_t) rfl ?_)
          refine wpList_nil (X_then (hK19_ _ _ ?_))
          clear hK19_
          refine C_condT rfl ?_
          refine C_seq (fun K49_ hK49_ => C_reg ?_)
          refine sv (v := (vB true)) (x_assign rfl) ?_
          refine wpList_nil (X_then (hK49_ _ _ ?_))
          clear hK49_
          refine C_ret (X_thenR ?_)
          refine R_any (v := (vB true)) (run_results1 rfl rfl) ?_
          exact ⟨_, _, rfl, ⟨rfl, rfl⟩, S45_, H42_⟩
         ·have c48_fp : ¬ (kind < 0) := of_decide_eq_false c48_f
          refine S_yes (j := 28) (dj := 54) (b := false) rfl rfl (congrArg vB c48_f) (T_val (v := (vI .i64 kind)) (x_move rfl) ?_)
          refine S_yes (j := 28) (dj := 54) (b := false) rfl rfl (congrArg vB c48_f) (T_val (v := (vB (decide (1 < kind)))) (x_bin rfl rfl rfl) ?_)
          refine S_list (T_pickF (v := (vB (decide (1 < kind)))) (congrArg vB c48_f) rfl ?_)
          refine wpList_nil (X_then (hK19_ _ _ ?_))
          clear hK19_
          refine C_cond (b := decide (1 < kind)) rfl (fun c50_t => ?_) (fun c50_f => ?_)
          ·have c50_tp : 1 < kind := of_decide_eq_true c50_t
           refine C_seq (fun K51_ hK51_ => C_reg ?_)
           refine sv (v := (vB true)) (x_assign rfl) ?_
           refine wpList_nil (X_then (hK51_ _ _ ?_))
           clear hK51_
           refine C_ret (X_thenR ?_)
           refine R_any (v := (vB true)) (run_results1 rfl rfl) ?_
           exact ⟨_, _, rfl, ⟨rfl, rfl⟩, S45_, H42_⟩
          ·have c50_fp : ¬ (1 < kind) := of_decide_eq_false c50_f
           refine C_skip (X_then (hK18_ _ _ ?_))
           clear hK18_
           refine C_seq (fun K52_ hK52_ => C_reg ?_)
           refine sv (v := (vS none 0 0)) (x_assign rfl) ?_
           refine sv (v := (vS none 0 0)) (x_assign rfl) ?_
           refine wpList_nil (X_then (hK52_ _ _ ?_))
           clear hK52_
           refine C_seq (fun K53_ hK53_ => ?_)
           refine C_seq (fun K54_ hK54_ => C_reg ?_)
           refine sv (v := v) (x_move rfl) ?_
           refine sv (v := (vI .i64 ((List.length l) : Int))) (x_lenRS rfl hv Try.underlying46) ?_
           refine sv (v := (vI .i64 0)) (x_move rfl) ?_
           refine wpList_nil (X_then (hK54_ _ _ ?_))
           clear hK54_
           refine C_block ?_
           have hg55_ := he22_ (by simpa using c28_f)
           have hlen_ := hg55_.1
           have hlok_ := hg55_.2
           have hvr_ := vrB_iff.1 (by simpa using c46_f)
           have hqk_ : PmOk (⟨kind, key, end_⟩ : PM) := ⟨⟨by show 0 ≤ kind; omega, by show kind ≤ 2; omega⟩, by show key.size ≤ 64; omega, by show end_.size ≤ 64; omega, hvr_.1, hvr_.2⟩
           have H56_ : Holds w41_ (sl 51 3 (vS none 0 0) (List.length ([] : List PM)) (([] : List PM).flatMap PM.cells) :: ro R :: F) := Holds.add_nil H42_ 51 3
           have H57_ : Holds w41_ (sl 51 3 (vS none 0 0) (List.length ([] : List PM)) (([] : List PM).flatMap PM.cells) :: sl 51 3 (vS none 0 0) (List.length ([] : List PM)) (([] : List PM).flatMap PM.cells) :: ro R :: F) := Holds.add_nil H56_ 51 3
           refine C_loop (γ := Nat × Value × Value × (List PM) × (List PM)) (fun x__ a__ w1__ => match x__ with | ⟨k, av, bv, A, B⟩ => ∃ h : Env, a__ = mkA 124 (upd (upd (upd (upd (upd (upd (upd (upd (upd (upd h 0 v) 1 (Value.string key)) 2 (Value.string end_)) 3 (vI .i64 kind)) 8 (vB false)) 9 av) 10 bv) 58 v) 59 (vI .i64 ((List.length l) : Int))) 60 (vI .i64 (k : Int))) [] ∧ Holds w1__ (sl 51 3 av (List.length A) (A.flatMap PM.cells) :: sl 51 3 bv (List.length B) (B.flatMap PM.cells) :: ro R :: F) ∧ Same w w1__ ∧ (k ≤ l.length) ∧ (A.length ≤ 2 * k) ∧ (B.length = k) ∧ (A = apartL (l.take k)) ∧ (B = otherL (l.take k) kind)) (fun x__ => match x__ with | ⟨k, av, bv, A, B⟩ => l.length - k) (⟨0, (vS none 0 0), (vS none 0 0), ([] : List PM), ([] : List PM)⟩) ⟨_, congrArg (fun e => mkA 124 e []) (ch (ch (ch (ch (ch (ch (ch (ch (ch (ch rfl rfl) rfl) rfl) rfl) rfl) (rfl : (vS none 0 0) = ((vS none 0 0)))) (rfl : (vS none 0 0) = ((vS none 0 0)))) rfl) rfl) (congrArg (vI .i64) ((by first | rfl | omega | (simp; done) | (simp; omega)) : 0 = (0 : Int)))), H57_, S45_, (by first | assumption | omega | exact rfl), (Nat.le_refl _), (rfl), (rfl), (rfl)⟩ ?_
           rintro ⟨k, av, bv, A, B⟩ _ w58_ ⟨h, rfl, H59_, S60_, hkk, hAl, hBl, hA, hB⟩
           refine C_seq (fun K61_ hK61_ => C_reg ?_)
           refine sv (v := (vB (decide ((k : Int) < ((List.length l) : Int))))) (x_bin rfl rfl rfl) ?_
           refine wpList_nil (X_then (hK61_ _ _ ?_))
           clear hK61_
           refine C_seq (fun K62_ hK62_ => ?_)
           refine C_cond (b := decide ((k : Int) < ((List.length l) : Int))) rfl (fun c63_t => ?_) (fun c63_f => ?_)
           ·have c63_tp : (k : Int) < ((List.length l) : Int) := of_decide_eq_true c63_t
            refine C_skip (X_then (hK62_ _ _ ?_))
            clear hK62_
            refine C_seq (fun K64_ hK64_ => ?_)
            refine C_block ?_
            refine C_seq (fun K65_ hK65_ => C_reg ?_)
            obtain ⟨x66_, hx67_, hm68_⟩ := elem_at l k (by omega)
            refine sv (v := (vP (some ⟨(sb v), so v + (k * 3 + 0), none⟩))) (x_idxRS (v := v) rfl hv rfl Try.underlying46 z51 (by omega) (by omega) (by omega : _ = k) rfl) ?_
            refine sv (v := (vA #[(vI .i64 x66_.kind), (Value.string x66_.key), (Value.string x66_.end_)])) (x_loadN (vs := [(vI .i64 x66_.kind), (Value.string x66_.key), (Value.string x66_.end_)]) rfl Try.underlying51 rfl z51 rfl (RC.cells (RS.rc hv) (Holds.ro_at H59_ 2 rfl) (k * 3 + 0) (fm_cells PM.len hx67_ (i := 0) rfl))) ?_
            refine S_list (T_alloc z51 H59_ ?_)
            intro b69_ w70_ S72_ H71_
            have S73_ := Same.trans S60_ S72_
            refine S_list0 (T_storeN (vs := [(vI .i64 x66_.kind), (Value.string x66_.key), (Value.string x66_.end_)]) rfl rfl z51 rfl (by simp [Value.oneCell']) H71_ 0 rfl (Nat.le_of_ble_eq_true (by rfl)) ?_)
            intro w74_ S76_ H75_
            have S77_ := Same.trans S73_ S76_
            refine wpList_nil (X_then (hK65_ _ _ ?_))
            clear hK65_
            refine C_seq (fun K78_ hK78_ => ?_)
            refine C_seq (fun K79_ hK79_ => C_reg ?_)
            refine sv (v := (vA #[(vI .i64 x66_.kind), (Value.string x66_.key), (Value.string x66_.end_)])) (x_loadN (vs := [(vI .i64 x66_.kind), (Value.string x66_.key), (Value.string x66_.end_)]) rfl Try.underlying51 rfl z51 rfl (Rd.cells (Holds.rd H75_ 0 rfl) 0 rfl)) ?_
            have H81_ := ((Holds.bring H75_ 3 rfl) :)
            refine S_list (T_call (al := [(vA #[(vI .i64 x66_.kind), (Value.string x66_.key), (Value.string x66_.end_)]), (vI .i64 0)]) (pre := []) rfl rfl cb25 (pmAllows R x66_ 0) H81_ ?_)
            rintro v80_ p85_ w82_ ⟨rfl, rfl⟩ S84_ H83_
            have S86_ := Same.trans S77_ S84_
            refine wpList_nil (X_then (hK79_ _ _ ?_))
            clear hK79_
            refine C_cond (b := pallows 0 x66_) rfl (fun c87_t => ?_) (fun c87_f => ?_)
            ·skip
             refine C_reg ?_
             refine sv (v := av) (x_move rfl) ?_
             refine sv (v := (vP (some ⟨b69_, 1, none⟩))) (by kernel_rfl) ?_
             refine sv (v := (Value.string x66_.key)) (x_load1 rfl Try.underlying9 rfl ((Holds.rd H83_ 1 rfl) 1 (Value.string x66_.key) rfl)) ?_
             refine sv (v := (vP (some ⟨b69_, 2, none⟩))) (by kernel_rfl) ?_
             refine sv (v := (Value.string x66_.end_)) (x_load1 rfl Try.underlying9 rfl ((Holds.rd H83_ 1 rfl) 2 (Value.string x66_.end_) rfl)) ?_
             refine sv (v := (vA #[(vI .i64 0), (Value.string x66_.key), (Value.string x66_.end_)])) (by kernel_rfl) ?_
             refine S_list (T_new (obj := .cells #[(vI .i64 0), (Value.string x66_.key), (Value.string x66_.end_)] 51) (f := fun b__ => .slice (some ⟨b__, 0, none⟩) 1 1) (A := fun b__ => cl b__ 51 [(vI .i64 0), (Value.string x66_.key), (Value.string x66_.end_)]) (by kernel_rfl) (fun l h => h.alloc _ _) H83_ ?_)
             intro b88_ w89_ S91_ H90_
             have S92_ := Same.trans S86_ S91_
             refine S_list (T_append rfl rfl Try.underlying46 z51 rfl (by decide) H90_ 3 rfl (Holds.cl_src H90_ 0 rfl Try.underlying46 (by simp [Value.oneCell']) rfl) (by first | omega | (simp only [List.length_append, List.length_cons, List.length_nil]; omega)) ?_)
             intro v93_ w94_ S96_ H95_
             have S97_ := Same.trans S92_ S96_
             refine sv (v := v93_) (x_assign rfl) ?_
             refine wpList_nil (X_then (hK78_ _ _ ?_))
             clear hK78_
             refine C_seq (fun K98_ hK98_ => ?_)
             refine C_seq (fun K99_ hK99_ => C_reg ?_)
             refine sv (v := (vA #[(vI .i64 x66_.kind), (Value.string x66_.key), (Value.string x66_.end_)])) (x_loadN (vs := [(vI .i64 x66_.kind), (Value.string x66_.key), (Value.string x66_.end_)]) rfl Try.underlying51 rfl z51 rfl (Rd.cells (Holds.rd H95_ 2 rfl) 0 rfl)) ?_
             have H101_ := ((Holds.bring H95_ 1 rfl) :)
             refine S_list (T_call (al := [(vA #[(vI .i64 x66_.kind), (Value.string x66_.key), (Value.string x66_.end_)]), (vI .i64 1)]) (pre := []) rfl rfl cb25 (pmAllows R x66_ 1) H101_ ?_)
             rintro v100_ p105_ w102_ ⟨rfl, rfl⟩ S104_ H103_
             have S106_ := Same.trans S97_ S104_
             refine wpList_nil (X_then (hK99_ _ _ ?_))
             clear hK99_
             refine C_cond (b := pallows 1 x66_) rfl (fun c107_t => ?_) (fun c107_f => ?_)
             ·skip
              refine C_reg ?_
              refine sv (v := v93_) (x_move rfl) ?_
              refine sv (v := (vP (some ⟨b69_, 1, none⟩))) (by kernel_rfl) ?_
              refine sv (v := (Value.string x66_.key)) (x_load1 rfl Try.underlying9 rfl ((Holds.rd H103_ 2 rfl) 1 (Value.string x66_.key) rfl)) ?_
              refine sv (v := (vP (some ⟨b69_, 2, none⟩))) (by kernel_rfl) ?_
              refine sv (v := (Value.string x66_.end_)) (x_load1 rfl Try.underlying9 rfl ((Holds.rd H103_ 2 rfl) 2 (Value.string x66_.end_) rfl)) ?_
              refine sv (v := (vA #[(vI .i64 1), (Value.string x66_.key), (Value.string x66_.end_)])) (by kernel_rfl) ?_
              refine S_list (T_new (obj := .cells #[(vI .i64 1), (Value.string x66_.key), (Value.string x66_.end_)] 51) (f := fun b__ => .slice (some ⟨b__, 0, none⟩) 1 1) (A := fun b__ => cl b__ 51 [(vI .i64 1), (Value.string x66_.key), (Value.string x66_.end_)]) (by kernel_rfl) (fun l h => h.alloc _ _) H103_ ?_)
              intro b108_ w109_ S111_ H110_
              have S112_ := Same.trans S106_ S111_
              refine S_list (T_append rfl rfl Try.underlying46 z51 rfl (by decide) H110_ 4 rfl (Holds.cl_src H110_ 0 rfl Try.underlying46 (by simp [Value.oneCell']) rfl) (by first | omega | (simp only [List.length_append, List.length_cons, List.length_nil]; omega)) ?_)
              intro v113_ w114_ S116_ H115_
              have S117_ := Same.trans S112_ S116_
              refine sv (v := v113_) (x_assign rfl) ?_
              refine wpList_nil (X_then (hK98_ _ _ ?_))
              clear hK98_
              refine C_reg ?_
              refine sv (v := bv) (x_move rfl) ?_
              refine sv (v := (vI .i64 kind)) (x_move rfl) ?_
              refine sv (v := (vI .i64 (1 - kind))) (x_bin rfl rfl (ib_sub (IntWalk.i64_in _ (by omega)))) ?_
              refine sv (v := (vP (some ⟨b69_, 1, none⟩))) (by kernel_rfl) ?_
              refine sv (v := (Value.string x66_.key)) (x_load1 rfl Try.underlying9 rfl ((Holds.rd H115_ 3 rfl) 1 (Value.string x66_.key) rfl)) ?_
              refine sv (v := (vP (some ⟨b69_, 2, none⟩))) (by kernel_rfl) ?_
              refine sv (v := (Value.string x66_.end_)) (x_load1 rfl Try.underlying9 rfl ((Holds.rd H115_ 3 rfl) 2 (Value.string x66_.end_) rfl)) ?_
              refine sv (v := (vA #[(vI .i64 (1 - kind)), (Value.string x66_.key), (Value.string x66_.end_)])) (by kernel_rfl) ?_
              refine S_list (T_new (obj := .cells #[(vI .i64 (1 - kind)), (Value.string x66_.key), (Value.string x66_.end_)] 51) (f := fun b__ => .slice (some ⟨b__, 0, none⟩) 1 1) (A := fun b__ => cl b__ 51 [(vI .i64 (1 - kind)), (Value.string x66_.key), (Value.string x66_.end_)]) (by kernel_rfl) (fun l h => h.alloc _ _) H115_ ?_)
              intro b118_ w119_ S121_ H120_
              have S122_ := Same.trans S117_ S121_
              refine S_list (T_append rfl rfl Try.underlying46 z51 rfl (by decide) H120_ 6 rfl (Holds.cl_src H120_ 0 rfl Try.underlying46 (by simp [Value.oneCell']) rfl) (by first | omega | (simp only [List.length_append, List.length_cons, List.length_nil]; omega)) ?_)
              intro v123_ w124_ S126_ H125_
              have S127_ := Same.trans S122_ S126_
              refine sv (v := v123_) (x_assign rfl) ?_
              refine wpList_nil (X_blkN (X_then (hK64_ _ _ ?_)))
              clear hK64_
              refine C_reg ?_
              refine sv (v := (vI .i64 ((k : Int) + 1))) (x_bin rfl rfl (ib_add (IntWalk.i64_in _ (by omega)))) ?_
              refine sv (v := (vI .i64 ((k : Int) + 1))) (x_move rfl) ?_
              refine wpList_nil (X_then ?_)
              have H128_ := Holds.resl H125_ 5 rfl (by simp [PM.cells, List.flatMap_append] : ((A.flatMap PM.cells) ++ [(vI .i64 0), (Value.string x66_.key), (Value.string x66_.end_)]) ++ [(vI .i64 1), (Value.string x66_.key), (Value.string x66_.end_)] = (A ++ [(⟨0, x66_.key, x66_.end_⟩ : PM), (⟨1, x66_.key, x66_.end_⟩ : PM)]).flatMap PM.cells) (by simp : (List.length A) + 1 + 1 = (List.length (A ++ [(⟨0, x66_.key, x66_.end_⟩ : PM), (⟨1, x66_.key, x66_.end_⟩ : PM)])))
              have H129_ := Holds.resl H128_ 6 rfl (by simp [PM.cells, List.flatMap_append] : (B.flatMap PM.cells) ++ [(vI .i64 (1 - kind)), (Value.string x66_.key), (Value.string x66_.end_)] = (B ++ [(⟨1 - kind, x66_.key, x66_.end_⟩ : PM)]).flatMap PM.cells) (by simp : (List.length B) + 1 = (List.length (B ++ [(⟨1 - kind, x66_.key, x66_.end_⟩ : PM)])))
              have H130_ : Holds w124_ (sl 51 3 v113_ (List.length (A ++ [(⟨0, x66_.key, x66_.end_⟩ : PM), (⟨1, x66_.key, x66_.end_⟩ : PM)])) ((A ++ [(⟨0, x66_.key, x66_.end_⟩ : PM), (⟨1, x66_.key, x66_.end_⟩ : PM)]).flatMap PM.cells) :: sl 51 3 v123_ (List.length (B ++ [(⟨1 - kind, x66_.key, x66_.end_⟩ : PM)])) ((B ++ [(⟨1 - kind, x66_.key, x66_.end_⟩ : PM)]).flatMap PM.cells) :: ro R :: F) := (Holds.pkF H129_ [5, 5, 2] 4 :)
              exact ⟨⟨k + 1, v113_, v123_, (A ++ [(⟨0, x66_.key, x66_.end_⟩ : PM), (⟨1, x66_.key, x66_.end_⟩ : PM)]), (B ++ [(⟨1 - kind, x66_.key, x66_.end_⟩ : PM)])⟩, ⟨_, congrArg (fun e => mkA 124 e []) (ch (ch (ch (ch (ch (ch (ch (ch (ch (ch rfl rfl) rfl) rfl) rfl) rfl) rfl) rfl) rfl) rfl) (congrArg (vI .i64) ((by first | rfl | omega | (simp; done) | (simp; omega)) : (k : Int) + 1 = ((k + 1 : Nat) : Int)))), H130_, S127_, (by first | assumption | omega | exact rfl), (by first | omega | (simp; omega)), (by simp; omega), (by rw [hA, apartL_snoc hx67_, apart1_eq]; simp [c87_t, c107_t]), (by rw [hB, otherL_snoc hx67_])⟩, by first | omega | (dsimp only; omega) | (simp; omega)⟩
             ·skip
              refine C_skip (X_then (hK98_ _ _ ?_))
              clear hK98_
              refine C_reg ?_
              refine sv (v := bv) (x_move rfl) ?_
              refine sv (v := (vI .i64 kind)) (x_move rfl) ?_
              refine sv (v := (vI .i64 (1 - kind))) (x_bin rfl rfl (ib_sub (IntWalk.i64_in _ (by omega)))) ?_
              refine sv (v := (vP (some ⟨b69_, 1, none⟩))) (by kernel_rfl) ?_
              refine sv (v := (Value.string x66_.key)) (x_load1 rfl Try.underlying9 rfl ((Holds.rd H103_ 2 rfl) 1 (Value.string x66_.key) rfl)) ?_
              refine sv (v := (vP (some ⟨b69_, 2, none⟩))) (by kernel_rfl) ?_
              refine sv (v := (Value.string x66_.end_)) (x_load1 rfl Try.underlying9 rfl ((Holds.rd H103_ 2 rfl) 2 (Value.string x66_.end_) rfl)) ?_
              refine sv (v := (vA #[(vI .i64 (1 - kind)), (Value.string x66_.key), (Value.string x66_.end_)])) (by kernel_rfl) ?_
              refine S_list (T_new (obj := .cells #[(vI .i64 (1 - kind)), (Value.string x66_.key), (Value.string x66_.end_)] 51) (f := fun b__ => .slice (some ⟨b__, 0, none⟩) 1 1) (A := fun b__ => cl b__ 51 [(vI .i64 (1 - kind)), (Value.string x66_.key), (Value.string x66_.end_)]) (by kernel_rfl) (fun l h => h.alloc _ _) H103_ ?_)
              intro b131_ w132_ S134_ H133_
              have S135_ := Same.trans S106_ S134_
              refine S_list (T_append rfl rfl Try.underlying46 z51 rfl (by decide) H133_ 5 rfl (Holds.cl_src H133_ 0 rfl Try.underlying46 (by simp [Value.oneCell']) rfl) (by first | omega | (simp only [List.length_append, List.length_cons, List.length_nil]; omega)) ?_)
              intro v136_ w137_ S139_ H138_
              have S140_ := Same.trans S135_ S139_
              refine sv (v := v136_) (x_assign rfl) ?_
              refine wpList_nil (X_blkN (X_then (hK64_ _ _ ?_)))
              clear hK64_
              refine C_reg ?_
              refine sv (v := (vI .i64 ((k : Int) + 1))) (x_bin rfl rfl (ib_add (IntWalk.i64_in _ (by omega)))) ?_
              refine sv (v := (vI .i64 ((k : Int) + 1))) (x_move rfl) ?_
              refine wpList_nil (X_then ?_)
              have H141_ := Holds.resl H138_ 4 rfl (by simp [PM.cells, List.flatMap_append] : (A.flatMap PM.cells) ++ [(vI .i64 0), (Value.string x66_.key), (Value.string x66_.end_)] = (A ++ [(⟨0, x66_.key, x66_.end_⟩ : PM)]).flatMap PM.cells) (by simp : (List.length A) + 1 = (List.length (A ++ [(⟨0, x66_.key, x66_.end_⟩ : PM)])))
              have H142_ := Holds.resl H141_ 5 rfl (by simp [PM.cells, List.flatMap_append] : (B.flatMap PM.cells) ++ [(vI .i64 (1 - kind)), (Value.string x66_.key), (Value.string x66_.end_)] = (B ++ [(⟨1 - kind, x66_.key, x66_.end_⟩ : PM)]).flatMap PM.cells) (by simp : (List.length B) + 1 = (List.length (B ++ [(⟨1 - kind, x66_.key, x66_.end_⟩ : PM)])))
              have H143_ : Holds w137_ (sl 51 3 v93_ (List.length (A ++ [(⟨0, x66_.key, x66_.end_⟩ : PM)])) ((A ++ [(⟨0, x66_.key, x66_.end_⟩ : PM)]).flatMap PM.cells) :: sl 51 3 v136_ (List.length (B ++ [(⟨1 - kind, x66_.key, x66_.end_⟩ : PM)])) ((B ++ [(⟨1 - kind, x66_.key, x66_.end_⟩ : PM)]).flatMap PM.cells) :: ro R :: F) := (Holds.pkF H142_ [4, 4, 1] 3 :)
              exact ⟨⟨k + 1, v93_, v136_, (A ++ [(⟨0, x66_.key, x66_.end_⟩ : PM)]), (B ++ [(⟨1 - kind, x66_.key, x66_.end_⟩ : PM)])⟩, ⟨_, congrArg (fun e => mkA 124 e []) (ch (ch (ch (ch (ch (ch (ch (ch (ch (ch rfl rfl) rfl) rfl) rfl) rfl) rfl) rfl) rfl) rfl) (congrArg (vI .i64) ((by first | rfl | omega | (simp; done) | (simp; omega)) : (k : Int) + 1 = ((k + 1 : Nat) : Int)))), H143_, S140_, (by first | assumption | omega | exact rfl), (by first | omega | (simp; omega)), (by simp; omega), (by rw [hA, apartL_snoc hx67_, apart1_eq]; simp [c87_t, c107_f]), (by rw [hB, otherL_snoc hx67_])⟩, by first | omega | (dsimp only; omega) | (simp; omega)⟩
            ·skip
             refine C_skip (X_then (hK78_ _ _ ?_))
             clear hK78_
             refine C_seq (fun K144_ hK144_ => ?_)
             refine C_seq (fun K145_ hK145_ => C_reg ?_)
             refine sv (v := (vA #[(vI .i64 x66_.kind), (Value.string x66_.key), (Value.string x66_.end_)])) (x_loadN (vs := [(vI .i64 x66_.kind), (Value.string x66_.key), (Value.string x66_.end_)]) rfl Try.underlying51 rfl z51 rfl (Rd.cells (Holds.rd H83_ 1 rfl) 0 rfl)) ?_
             refine S_list (T_call (al := [(vA #[(vI .i64 x66_.kind), (Value.string x66_.key), (Value.string x66_.end_)]), (vI .i64 1)]) (pre := []) rfl rfl cb25 (pmAllows R x66_ 1) H83_ ?_)
             rintro v146_ p150_ w147_ ⟨rfl, rfl⟩ S149_ H148_
             have S151_ := Same.trans S86_ S149_
             refine wpList_nil (X_then (hK145_ _ _ ?_))
             clear hK145_
             refine C_cond (b := pallows 1 x66_) rfl (fun c152_t => ?_) (fun c152_f => ?_)
             ·skip
              refine C_reg ?_
              refine sv (v := av) (x_move rfl) ?_
              refine sv (v := (vP (some ⟨b69_, 1, none⟩))) (by kernel_rfl) ?_
              refine sv (v := (Value.string x66_.key)) (x_load1 rfl Try.underlying9 rfl ((Holds.rd H148_ 1 rfl) 1 (Value.string x66_.key) rfl)) ?_
              refine sv (v := (vP (some ⟨b69_, 2, none⟩))) (by kernel_rfl) ?_
              refine sv (v := (Value.string x66_.end_)) (x_load1 rfl Try.underlying9 rfl ((Holds.rd H148_ 1 rfl) 2 (Value.string x66_.end_) rfl)) ?_
              refine sv (v := (vA #[(vI .i64 1), (Value.string x66_.key), (Value.string x66_.end_)])) (by kernel_rfl) ?_
              refine S_list (T_new (obj := .cells #[(vI .i64 1), (Value.string x66_.key), (Value.string x66_.end_)] 51) (f := fun b__ => .slice (some ⟨b__, 0, none⟩) 1 1) (A := fun b__ => cl b__ 51 [(vI .i64 1), (Value.string x66_.key), (Value.string x66_.end_)]) (by kernel_rfl) (fun l h => h.alloc _ _) H148_ ?_)
              intro b153_ w154_ S156_ H155_
              have S157_ := Same.trans S151_ S156_
              refine S_list (T_append rfl rfl Try.underlying46 z51 rfl (by decide) H155_ 3 rfl (Holds.cl_src H155_ 0 rfl Try.underlying46 (by simp [Value.oneCell']) rfl) (by first | omega | (simp only [List.length_append, List.length_cons, List.length_nil]; omega)) ?_)
              intro v158_ w159_ S161_ H160_
              have S162_ := Same.trans S157_ S161_
              refine sv (v := v158_) (x_assign rfl) ?_
              refine wpList_nil (X_then (hK144_ _ _ ?_))
              clear hK144_
              refine C_reg ?_
              refine sv (v := bv) (x_move rfl) ?_
              refine sv (v := (vI .i64 kind)) (x_move rfl) ?_
              refine sv (v := (vI .i64 (1 - kind))) (x_bin rfl rfl (ib_sub (IntWalk.i64_in _ (by omega)))) ?_
              refine sv (v := (vP (some ⟨b69_, 1, none⟩))) (by kernel_rfl) ?_
              refine sv (v := (Value.string x66_.key)) (x_load1 rfl Try.underlying9 rfl ((Holds.rd H160_ 2 rfl) 1 (Value.string x66_.key) rfl)) ?_
              refine sv (v := (vP (some ⟨b69_, 2, none⟩))) (by kernel_rfl) ?_
              refine sv (v := (Value.string x66_.end_)) (x_load1 rfl Try.underlying9 rfl ((Holds.rd H160_ 2 rfl) 2 (Value.string x66_.end_) rfl)) ?_
              refine sv (v := (vA #[(vI .i64 (1 - kind)), (Value.string x66_.key), (Value.string x66_.end_)])) (by kernel_rfl) ?_
              refine S_list (T_new (obj := .cells #[(vI .i64 (1 - kind)), (Value.string x66_.key), (Value.string x66_.end_)] 51) (f := fun b__ => .slice (some ⟨b__, 0, none⟩) 1 1) (A := fun b__ => cl b__ 51 [(vI .i64 (1 - kind)), (Value.string x66_.key), (Value.string x66_.end_)]) (by kernel_rfl) (fun l h => h.alloc _ _) H160_ ?_)
              intro b163_ w164_ S166_ H165_
              have S167_ := Same.trans S162_ S166_
              refine S_list (T_append rfl rfl Try.underlying46 z51 rfl (by decide) H165_ 5 rfl (Holds.cl_src H165_ 0 rfl Try.underlying46 (by simp [Value.oneCell']) rfl) (by first | omega | (simp only [List.length_append, List.length_cons, List.length_nil]; omega)) ?_)
              intro v168_ w169_ S171_ H170_
              have S172_ := Same.trans S167_ S171_
              refine sv (v := v168_) (x_assign rfl) ?_
              refine wpList_nil (X_blkN (X_then (hK64_ _ _ ?_)))
              clear hK64_
              refine C_reg ?_
              refine sv (v := (vI .i64 ((k : Int) + 1))) (x_bin rfl rfl (ib_add (IntWalk.i64_in _ (by omega)))) ?_
              refine sv (v := (vI .i64 ((k : Int) + 1))) (x_move rfl) ?_
              refine wpList_nil (X_then ?_)
              have H173_ := Holds.resl H170_ 4 rfl (by simp [PM.cells, List.flatMap_append] : (A.flatMap PM.cells) ++ [(vI .i64 1), (Value.string x66_.key), (Value.string x66_.end_)] = (A ++ [(⟨1, x66_.key, x66_.end_⟩ : PM)]).flatMap PM.cells) (by simp : (List.length A) + 1 = (List.length (A ++ [(⟨1, x66_.key, x66_.end_⟩ : PM)])))
              have H174_ := Holds.resl H173_ 5 rfl (by simp [PM.cells, List.flatMap_append] : (B.flatMap PM.cells) ++ [(vI .i64 (1 - kind)), (Value.string x66_.key), (Value.string x66_.end_)] = (B ++ [(⟨1 - kind, x66_.key, x66_.end_⟩ : PM)]).flatMap PM.cells) (by simp : (List.length B) + 1 = (List.length (B ++ [(⟨1 - kind, x66_.key, x66_.end_⟩ : PM)])))
              have H175_ : Holds w169_ (sl 51 3 v158_ (List.length (A ++ [(⟨1, x66_.key, x66_.end_⟩ : PM)])) ((A ++ [(⟨1, x66_.key, x66_.end_⟩ : PM)]).flatMap PM.cells) :: sl 51 3 v168_ (List.length (B ++ [(⟨1 - kind, x66_.key, x66_.end_⟩ : PM)])) ((B ++ [(⟨1 - kind, x66_.key, x66_.end_⟩ : PM)]).flatMap PM.cells) :: ro R :: F) := (Holds.pkF H174_ [4, 4, 2] 3 :)
              exact ⟨⟨k + 1, v158_, v168_, (A ++ [(⟨1, x66_.key, x66_.end_⟩ : PM)]), (B ++ [(⟨1 - kind, x66_.key, x66_.end_⟩ : PM)])⟩, ⟨_, congrArg (fun e => mkA 124 e []) (ch (ch (ch (ch (ch (ch (ch (ch (ch (ch rfl rfl) rfl) rfl) rfl) rfl) rfl) rfl) rfl) rfl) (congrArg (vI .i64) ((by first | rfl | omega | (simp; done) | (simp; omega)) : (k : Int) + 1 = ((k + 1 : Nat) : Int)))), H175_, S172_, (by first | assumption | omega | exact rfl), (by first | omega | (simp; omega)), (by simp; omega), (by rw [hA, apartL_snoc hx67_, apart1_eq]; simp [c87_f, c152_t]), (by rw [hB, otherL_snoc hx67_])⟩, by first | omega | (dsimp only; omega) | (simp; omega)⟩
             ·skip
              refine C_skip (X_then (hK144_ _ _ ?_))
              clear hK144_
              refine C_reg ?_
              refine sv (v := bv) (x_move rfl) ?_
              refine sv (v := (vI .i64 kind)) (x_move rfl) ?_
              refine sv (v := (vI .i64 (1 - kind))) (x_bin rfl rfl (ib_sub (IntWalk.i64_in _ (by omega)))) ?_
              refine sv (v := (vP (some ⟨b69_, 1, none⟩))) (by kernel_rfl) ?_
              refine sv (v := (Value.string x66_.key)) (x_load1 rfl Try.underlying9 rfl ((Holds.rd H148_ 1 rfl) 1 (Value.string x66_.key) rfl)) ?_
              refine sv (v := (vP (some ⟨b69_, 2, none⟩))) (by kernel_rfl) ?_
              refine sv (v := (Value.string x66_.end_)) (x_load1 rfl Try.underlying9 rfl ((Holds.rd H148_ 1 rfl) 2 (Value.string x66_.end_) rfl)) ?_
              refine sv (v := (vA #[(vI .i64 (1 - kind)), (Value.string x66_.key), (Value.string x66_.end_)])) (by kernel_rfl) ?_
              refine S_list (T_new (obj := .cells #[(vI .i64 (1 - kind)), (Value.string x66_.key), (Value.string x66_.end_)] 51) (f := fun b__ => .slice (some ⟨b__, 0, none⟩) 1 1) (A := fun b__ => cl b__ 51 [(vI .i64 (1 - kind)), (Value.string x66_.key), (Value.string x66_.end_)]) (by kernel_rfl) (fun l h => h.alloc _ _) H148_ ?_)
              intro b176_ w177_ S179_ H178_
              have S180_ := Same.trans S151_ S179_
              refine S_list (T_append rfl rfl Try.underlying46 z51 rfl (by decide) H178_ 4 rfl (Holds.cl_src H178_ 0 rfl Try.underlying46 (by simp [Value.oneCell']) rfl) (by first | omega | (simp only [List.length_append, List.length_cons, List.length_nil]; omega)) ?_)
              intro v181_ w182_ S184_ H183_
              have S185_ := Same.trans S180_ S184_
              refine sv (v := v181_) (x_assign rfl) ?_
              refine wpList_nil (X_blkN (X_then (hK64_ _ _ ?_)))
              clear hK64_
              refine C_reg ?_
              refine sv (v := (vI .i64 ((k : Int) + 1))) (x_bin rfl rfl (ib_add (IntWalk.i64_in _ (by omega)))) ?_
              refine sv (v := (vI .i64 ((k : Int) + 1))) (x_move rfl) ?_
              refine wpList_nil (X_then ?_)
              have H186_ := Holds.resl H183_ 4 rfl (by simp [PM.cells, List.flatMap_append] : (B.flatMap PM.cells) ++ [(vI .i64 (1 - kind)), (Value.string x66_.key), (Value.string x66_.end_)] = (B ++ [(⟨1 - kind, x66_.key, x66_.end_⟩ : PM)]).flatMap PM.cells) (by simp : (List.length B) + 1 = (List.length (B ++ [(⟨1 - kind, x66_.key, x66_.end_⟩ : PM)])))
              have H187_ : Holds w182_ (sl 51 3 av (List.length A) (A.flatMap PM.cells) :: sl 51 3 v181_ (List.length (B ++ [(⟨1 - kind, x66_.key, x66_.end_⟩ : PM)])) ((B ++ [(⟨1 - kind, x66_.key, x66_.end_⟩ : PM)]).flatMap PM.cells) :: ro R :: F) := (Holds.pkF H186_ [3, 3, 1] 2 :)
              exact ⟨⟨k + 1, av, v181_, A, (B ++ [(⟨1 - kind, x66_.key, x66_.end_⟩ : PM)])⟩, ⟨_, congrArg (fun e => mkA 124 e []) (ch (ch (ch (ch (ch (ch (ch (ch (ch (ch rfl rfl) rfl) rfl) rfl) rfl) rfl) rfl) rfl) rfl) (congrArg (vI .i64) ((by first | rfl | omega | (simp; done) | (simp; omega)) : (k : Int) + 1 = ((k + 1 : Nat) : Int)))), H187_, S185_, (by first | assumption | omega | exact rfl), (by first | omega | (simp; omega)), (by simp; omega), (by rw [hA, apartL_snoc hx67_, apart1_eq]; simp [c87_f, c152_f]), (by rw [hB, otherL_snoc hx67_])⟩, by first | omega | (dsimp only; omega) | (simp; omega)⟩
           ·have c63_fp : ¬ ((k : Int) < ((List.length l) : Int)) := of_decide_eq_false c63_f
            refine C_exit (X_thenX (X_thenX (X_blkHit ?_)))
            refine (X_then (hK53_ _ _ ?_))
            clear hK53_
            refine C_seq (fun K188_ hK188_ => C_reg ?_)
            refine sv (v := v) (x_move rfl) ?_
            refine sv (v := (Value.string key)) (x_move rfl) ?_
            refine sv (v := (Value.string end_)) (x_move rfl) ?_
            refine sv (v := (vI .i64 kind)) (x_move rfl) ?_
            rw [List.take_of_length_le (by omega)] at hA hB
            have hAl_ := apart_len l
            have hBl_ : B.length = l.length := by rw [hB]; simp [otherL]
            have hAl2_ : A.length = (apartL l).length := by rw [hA]
            have H190_ := ((Holds.bring H59_ 2 rfl) :)
            refine S_list (T_call (al := [v, (Value.string key), (Value.string end_), (vI .i64 kind)]) (pre := []) rfl rfl cb26 (prPermits R v l key end_ kind hv (hlok_) (by first | omega | (simp; done)) (hqk_) (by first | assumption | omega)) H190_ ?_)
            rintro v189_ p194_ w191_ ⟨rfl, rfl⟩ S193_ H192_
            have S195_ := Same.trans S60_ S193_
            refine sv (v := av) (x_move rfl) ?_
            refine sv (v := (Value.string key)) (x_move rfl) ?_
            refine sv (v := (Value.string end_)) (x_move rfl) ?_
            refine sv (v := (vI .i64 kind)) (x_move rfl) ?_
            obtain ⟨R196_, hs197_, ⟨R198_, ha199_, hs200_⟩, H201_⟩ := Holds.gift H192_
            have hr202_ : RS R196_ 3 av (List.length A) (A.flatMap PM.cells) := (sl_RS ha199_ (Sub.rfl' _)).mono hs200_
            refine S_list (T_call (al := [av, (Value.string key), (Value.string end_), (vI .i64 kind)]) (pre := []) rfl rfl cb26 (prPermits R196_ av A key end_ kind hr202_ ((by rw [hA]; exact apart_ok hlok_)) (by first | omega | (simp; done)) (hqk_) (by first | assumption | omega)) H201_ ?_)
            rintro v203_ p207_ w204_ ⟨rfl, rfl⟩ S206_ H205_
            have S208_ := Same.trans S195_ S206_
            rw [show permits A (⟨kind, key, end_⟩ : PM) kind = permits l (⟨kind, key, end_⟩ : PM) kind from by rw [hA]; exact (permits_ext (apart_pivls (by omega))).symm]
            refine sv (v := (vB true)) (x_cast (x_eqB rfl rfl Try.underlying4) (by simp)) ?_
            refine sv (v := (vB true)) (x_move rfl) ?_
            refine S_yes (j := 11) (dj := 106) (b := true) rfl rfl rfl (T_val (v := bv) (x_move rfl) ?_)
            refine S_yes (j := 11) (dj := 106) (b := true) rfl rfl rfl (T_val (v := (Value.string key)) (x_move rfl) ?_)
            refine S_yes (j := 11) (dj := 106) (b := true) rfl rfl rfl (T_val (v := (Value.string end_)) (x_move rfl) ?_)
            refine S_yes (j := 11) (dj := 106) (b := true) rfl rfl rfl (T_val (v := (vI .i64 kind)) (x_move rfl) ?_)
            obtain ⟨R209_, hs210_, ⟨R211_, ha212_, hs213_⟩, H214_⟩ := Holds.gift H205_
            have hz_R_R209_ := Sub.trans' hs197_ hs210_
            have hr215_ : RS R209_ 3 bv (List.length B) (B.flatMap PM.cells) := (sl_RS ha212_ (Sub.rfl' _)).mono hs213_
            refine S_yes (j := 11) (dj := 106) (b := true) rfl rfl rfl (T_call (al := [bv, (Value.string key), (Value.string end_), (vI .i64 kind)]) (pre := []) rfl rfl cb26 (prPermits R209_ bv B key end_ kind hr215_ ((by rw [hB]; exact other_ok (by omega) hlok_)) (by first | omega | (simp; done)) (hqk_) (by first | assumption | omega)) H214_ ?_)
            rintro v216_ p220_ w217_ ⟨rfl, rfl⟩ S219_ H218_
            have S221_ := Same.trans S208_ S219_
            rw [show permits B (⟨kind, key, end_⟩ : PM) kind = false from by rw [hB]; exact permits_none hqk_ (other_pivls (by omega))]
            refine S_yes (j := 11) (dj := 106) (b := true) rfl rfl rfl (T_val (v := (vB true)) (x_cast (x_not (b := false) rfl) rfl) ?_)
            refine S_list (T_pickT (v := (vB true)) rfl rfl ?_)
            refine sv (v := (vB true)) (x_move rfl) ?_
            refine S_yes (j := 19) (dj := 114) (b := true) rfl rfl rfl (T_val (v := (Value.string key)) (x_move rfl) ?_)
            refine S_yes (j := 19) (dj := 114) (b := true) rfl rfl rfl (T_val (v := (Value.string end_)) (x_move rfl) ?_)
            refine S_yes (j := 19) (dj := 114) (b := true) rfl rfl rfl (T_val (v := (vA #[(vI .i64 2), (Value.string key), (Value.string end_)])) (by kernel_rfl) ?_)
            refine S_yes (j := 19) (dj := 114) (b := true) rfl rfl rfl (T_new (obj := .cells #[(vI .i64 2), (Value.string key), (Value.string end_)] 51) (f := fun b__ => .slice (some ⟨b__, 0, none⟩) 1 1) (A := fun b__ => cl b__ 51 [(vI .i64 2), (Value.string key), (Value.string end_)]) (by kernel_rfl) (fun l h => h.alloc _ _) H218_ ?_)
            intro b222_ w223_ S225_ H224_
            have S226_ := Same.trans S221_ S225_
            refine S_yes (j := 19) (dj := 114) (b := true) rfl rfl rfl (T_val (v := (Value.string key)) (x_move rfl) ?_)
            refine S_yes (j := 19) (dj := 114) (b := true) rfl rfl rfl (T_val (v := (Value.string end_)) (x_move rfl) ?_)
            refine S_yes (j := 19) (dj := 114) (b := true) rfl rfl rfl (T_val (v := (vI .i64 kind)) (x_move rfl) ?_)
            have H227_ := ((Holds.bring H224_ 1 rfl) :)
            obtain ⟨R228_, hs229_, ⟨R230_, ha231_, hs232_⟩, H233_⟩ := Holds.gift H227_
            have hz_R_R228_ := Sub.trans' hz_R_R209_ hs229_
            have hz_R196__R228_ := Sub.trans' hs210_ hs229_
            have hr234_ : RS R228_ 3 (vS (some ⟨b222_, 0, none⟩) 1 1) 1 ([(⟨2, key, end_⟩ : PM)].flatMap PM.cells) := (RS.set_ (cl_RSn (sz := 3) ha231_ (Sub.rfl' _) (by rfl) (by omega)) rfl rfl).mono hs232_
            refine S_yes (j := 19) (dj := 114) (b := true) rfl rfl rfl (T_call (al := [((vS (some ⟨b222_, 0, none⟩) 1 1)), (Value.string key), (Value.string end_), (vI .i64 kind)]) (pre := []) rfl (lcons (rfl : (vS (some ⟨b222_, 0, none⟩) 1 1) = ((vS (some ⟨b222_, 0, none⟩) 1 1))) rfl) cb26 (prPermits R228_ (vS (some ⟨b222_, 0, none⟩) 1 1) [(⟨2, key, end_⟩ : PM)] key end_ kind (RS.set_ hr234_ rfl (by first | rfl | omega | (simp; done) | (simp; omega))) ((fun p hm => by rw [List.mem_singleton.1 hm]; exact ⟨⟨by show (0 : Int) ≤ 2; decide, by show (2 : Int) ≤ 2; decide⟩, hqk_.s1, hqk_.s2, hqk_.n, hqk_.v⟩)) (by first | omega | (simp; done)) (hqk_) (by first | assumption | omega)) H233_ ?_)
            rintro v235_ p239_ w236_ ⟨rfl, rfl⟩ S238_ H237_
            have S240_ := Same.trans S226_ S238_
            rw [show permits [(⟨2, key, end_⟩ : PM)] (⟨kind, key, end_⟩ : PM) kind = true from permits_self hqk_ (List.mem_singleton.2 rfl) (.inr rfl) rfl rfl]
            refine S_list (T_pickT (v := (vB true)) rfl rfl ?_)
            refine sv (v := (vB true)) (x_assign rfl) ?_
            refine wpList_nil (X_then (hK188_ _ _ ?_))
            clear hK188_
            refine C_ret ?_
            refine R_any (v := (vB true)) (run_results1 rfl rfl) ?_
            have H241_ : Holds w236_ (ro R :: F) := Holds.ro_less H237_ hz_R_R228_
            exact ⟨_, _, rfl, ⟨rfl, rfl⟩, S240_, H241_⟩
end Go.Proofs.Ytlnihndjepjagaa
