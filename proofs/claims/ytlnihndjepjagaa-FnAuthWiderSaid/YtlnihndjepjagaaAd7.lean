/- Words, and proved steps, on which the proof leans. -/
import Derived.Test.YtlnihndjepjagaaAd6
set_option linter.unusedVariables false
set_option linter.unusedSimpArgs false
namespace Go.Proofs.Ytlnihndjepjagaa
open Go Go.RowKit Gw
open Go.Value renaming int → vI, bool → vB, slice → vS, pointer → vP, agg → vA, tuple → vT

theorem ones_PM (l : List PM) : ∀ u ∈ l.flatMap PM.cells, u.oneCell' = true := by
  intro u hu
  obtain ⟨x, _, h⟩ := List.mem_flatMap.1 hu
  simp [PM.cells] at h
  rcases h with rfl | rfl | rfl <;> rfl

set_option maxHeartbeats 8000000 in
theorem fnAuthWider (R : HP) (v : Value) (l : List PM) (m : PM) (key end_ : ByteArray) (kind : Int) (hv : RS R 3 v (List.length l) (l.flatMap PM.cells)) :
    Tri Try.prog 6 #[v, (vA #[(vI .i64 m.kind), (Value.string m.key), (Value.string m.end_)]), (Value.string key), (Value.string end_), (vI .i64 kind)] R [] (fun v__ post__ => v__ = (vB true) ∧ post__ = []) := by
 refine Tri.into (n := 110) (al := [v, (vA #[(vI .i64 m.kind), (Value.string m.key), (Value.string m.end_)]), (Value.string key), (Value.string end_), (vI .i64 kind)]) Try.func6 rfl Try.ntmps6 rfl rfl fun w F H => ?_
 refine C_seq (fun K1_ hK1_ => C_reg ?_)
 refine S_list (T_box (v := (vA #[(vI .i64 m.kind), (Value.string m.key), (Value.string m.end_)])) rfl H ?_)
 intro b2_ w3_ S5_ H4_
 have S6_ := Same.trans (Same.refl w) S5_
 refine sv (v := (vB false)) (x_assign rfl) ?_
 refine wpList_nil (X_then (hK1_ _ _ ?_))
 clear hK1_
 refine C_seq (fun K7_ hK7_ => ?_)
 refine C_seq (fun K8_ hK8_ => C_reg ?_)
 refine sv (v := v) (x_move rfl) ?_
 have H12_ := ((Holds.bring H4_ 1 rfl) :)
 refine S_list (T_call (al := [v]) (pre := []) rfl rfl cb21 (pmFits R v l hv) H12_ ?_)
 rintro v9_ p16_ w13_ ⟨b10_, rfl, rfl, he11_⟩ S15_ H14_
 have S17_ := Same.trans S6_ S15_
 refine sv (v := (vB (!b10_))) (x_not rfl) ?_
 refine sv (v := (vB (!b10_))) (x_move rfl) ?_
 rcases Bool.eq_false_or_eq_true (!b10_) with c18_t | c18_f
 ·skip
  refine S_no (j := 3) (dj := 17) (b := true) rfl rfl (congrArg vB c18_t) (by decide) ?_
  refine S_no (j := 3) (dj := 17) (b := true) rfl rfl (congrArg vB c18_t) (by decide) ?_
  refine S_no (j := 3) (dj := 17) (b := true) rfl rfl (congrArg vB c18_t) (by decide) ?_
  refine S_list (T_pickT (v := (vB true)) (congrArg vB c18_t) rfl ?_)
  refine sv (v := (vB true)) (x_move rfl) ?_
  refine S_no (j := 8) (dj := 22) (b := true) rfl rfl rfl (by decide) ?_
  refine S_no (j := 8) (dj := 22) (b := true) rfl rfl rfl (by decide) ?_
  refine S_no (j := 8) (dj := 22) (b := true) rfl rfl rfl (by decide) ?_
  refine S_list (T_pickT (v := (vB true)) rfl rfl ?_)
  refine sv (v := (vB true)) (x_move rfl) ?_
  refine S_no (j := 13) (dj := 27) (b := true) rfl rfl rfl (by decide) ?_
  refine S_no (j := 13) (dj := 27) (b := true) rfl rfl rfl (by decide) ?_
  refine S_no (j := 13) (dj := 27) (b := true) rfl rfl rfl (by decide) ?_
  refine S_list (T_pickT (v := (vB true)) rfl rfl ?_)
  refine wpList_nil (X_then (hK8_ _ _ ?_))
  clear hK8_
  refine C_condT rfl ?_
  refine C_seq (fun K19_ hK19_ => C_reg ?_)
  refine sv (v := (vB true)) (x_assign rfl) ?_
  refine wpList_nil (X_then (hK19_ _ _ ?_))
  clear hK19_
  refine C_ret (X_thenR ?_)
  refine R_any (v := (vB true)) (run_results1 rfl rfl) ?_
  have H20_ : Holds w13_ (ro R :: F) := (Holds.pkF H14_ [0] 1 :)
  exact ⟨_, _, rfl, ⟨rfl, rfl⟩, S17_, H20_⟩
 ·skip
  refine S_yes (j := 3) (dj := 17) (b := false) rfl rfl (congrArg vB c18_f) (T_val (v := (vA #[(vI .i64 m.kind), (Value.string m.key), (Value.string m.end_)])) (x_loadN (vs := [(vI .i64 m.kind), (Value.string m.key), (Value.string m.end_)]) rfl Try.underlying51 rfl z51 rfl (Rd.cells (Holds.rd H14_ 1 rfl) 0 rfl)) ?_)
  refine S_yes (j := 3) (dj := 17) (b := false) rfl rfl (congrArg vB c18_f) (T_callW (al := [(vA #[(vI .i64 m.kind), (Value.string m.key), (Value.string m.end_)])]) rfl rfl cb27 (Calls.into (n := 11) (al := [(vA #[(vI .i64 m.kind), (Value.string m.key), (Value.string m.end_)])]) Try.func27 rfl Try.ntmps27 rfl rfl ?_))
  refine C_seq (fun K21_ hK21_ => C_reg ?_)
  refine S_list (T_box (v := (vA #[(vI .i64 m.kind), (Value.string m.key), (Value.string m.end_)])) rfl H14_ ?_)
  intro b22_ w23_ S25_ H24_
  have S26_ := Same.trans S17_ S25_
  refine sv (v := (vB false)) (x_assign rfl) ?_
  refine wpList_nil (X_then (hK21_ _ _ ?_))
  clear hK21_
  refine C_seq (fun K27_ hK27_ => ?_)
  refine C_seq (fun K28_ hK28_ => C_reg ?_)
  refine sv (v := (vP (some ⟨b22_, 1, none⟩))) (by kernel_rfl) ?_
  refine sv (v := (Value.string m.key)) (x_load1 rfl Try.underlying9 rfl ((Holds.rd H24_ 0 rfl) 1 (Value.string m.key) rfl)) ?_
  refine sv (v := (vI .i64 (m.key.size : Int))) (x_lenT rfl Try.underlying9) ?_
  refine sv (v := (vB (decide (2147483647 < (m.key.size : Int))))) (x_bin rfl rfl rfl) ?_
  refine wpList_nil (X_then (hK28_ _ _ ?_))
  clear hK28_
  refine C_cond (b := decide (2147483647 < (m.key.size : Int))) rfl (fun c29_t => ?_) (fun c29_f => ?_)
  ·have c29_tp : 2147483647 < (m.key.size : Int) := of_decide_eq_true c29_t
   refine C_seq (fun K30_ hK30_ => C_reg ?_)
   refine sv (v := (vB false)) (x_assign rfl) ?_
   refine wpList_nil (X_then (hK30_ _ _ ?_))
   clear hK30_
   refine C_ret (X_thenR ?_)
   refine R_any (v := (vB false)) (run_results1 rfl rfl) ⟨_, rfl, ?_⟩
   refine S_yes (j := 3) (dj := 17) (b := false) rfl rfl (congrArg vB c18_f) (T_val (v := (vB true)) (x_cast (x_not (b := false) rfl) rfl) ?_)
   refine S_list (T_pickF (v := (vB true)) (congrArg vB c18_f) rfl ?_)
   refine sv (v := (vB true)) (x_move rfl) ?_
   refine S_no (j := 8) (dj := 22) (b := true) rfl rfl rfl (by decide) ?_
   refine S_no (j := 8) (dj := 22) (b := true) rfl rfl rfl (by decide) ?_
   refine S_no (j := 8) (dj := 22) (b := true) rfl rfl rfl (by decide) ?_
   refine S_list (T_pickT (v := (vB true)) rfl rfl ?_)
   refine sv (v := (vB true)) (x_move rfl) ?_
   refine S_no (j := 13) (dj := 27) (b := true) rfl rfl rfl (by decide) ?_
   refine S_no (j := 13) (dj := 27) (b := true) rfl rfl rfl (by decide) ?_
   refine S_no (j := 13) (dj := 27) (b := true) rfl rfl rfl (by decide) ?_
   refine S_list (T_pickT (v := (vB true)) rfl rfl ?_)
   refine wpList_nil (X_then (hK8_ _ _ ?_))
   clear hK8_
   refine C_condT rfl ?_
   refine C_seq (fun K31_ hK31_ => C_reg ?_)
   refine sv (v := (vB true)) (x_assign rfl) ?_
   refine wpList_nil (X_then (hK31_ _ _ ?_))
   clear hK31_
   refine C_ret (X_thenR ?_)
   refine R_any (v := (vB true)) (run_results1 rfl rfl) ?_
   have H32_ : Holds w23_ (ro R :: F) := (Holds.pkF H24_ [1] 2 :)
   exact ⟨_, _, rfl, ⟨rfl, rfl⟩, S26_, H32_⟩
  ·have c29_fp : ¬ (2147483647 < (m.key.size : Int)) := of_decide_eq_false c29_f
   refine C_skip (X_then (hK27_ _ _ ?_))
   clear hK27_
   refine C_seq (fun K33_ hK33_ => ?_)
   refine C_seq (fun K34_ hK34_ => C_reg ?_)
   refine sv (v := (vP (some ⟨b22_, 2, none⟩))) (by kernel_rfl) ?_
   refine sv (v := (Value.string m.end_)) (x_load1 rfl Try.underlying9 rfl ((Holds.rd H24_ 0 rfl) 2 (Value.string m.end_) rfl)) ?_
   refine sv (v := (vI .i64 (m.end_.size : Int))) (x_lenT rfl Try.underlying9) ?_
   refine sv (v := (vB (decide (2147483647 < (m.end_.size : Int))))) (x_bin rfl rfl rfl) ?_
   refine wpList_nil (X_then (hK34_ _ _ ?_))
   clear hK34_
   refine C_cond (b := decide (2147483647 < (m.end_.size : Int))) rfl (fun c35_t => ?_) (fun c35_f => ?_)
   ·have c35_tp : 2147483647 < (m.end_.size : Int) := of_decide_eq_true c35_t
    refine C_seq (fun K36_ hK36_ => C_reg ?_)
    refine sv (v := (vB false)) (x_assign rfl) ?_
    refine wpList_nil (X_then (hK36_ _ _ ?_))
    clear hK36_
    refine C_ret (X_thenR ?_)
    refine R_any (v := (vB false)) (run_results1 rfl rfl) ⟨_, rfl, ?_⟩
    refine S_yes (j := 3) (dj := 17) (b := false) rfl rfl (congrArg vB c18_f) (T_val (v := (vB true)) (x_cast (x_not (b := false) rfl) rfl) ?_)
    refine S_list (T_pickF (v := (vB true)) (congrArg vB c18_f) rfl ?_)
    refine sv (v := (vB true)) (x_move rfl) ?_
    refine S_no (j := 8) (dj := 22) (b := true) rfl rfl rfl (by decide) ?_
    refine S_no (j := 8) (dj := 22) (b := true) rfl rfl rfl (by decide) ?_
    refine S_no (j := 8) (dj := 22) (b := true) rfl rfl rfl (by decide) ?_
    refine S_list (T_pickT (v := (vB true)) rfl rfl ?_)
    refine sv (v := (vB true)) (x_move rfl) ?_
    refine S_no (j := 13) (dj := 27) (b := true) rfl rfl rfl (by decide) ?_
    refine S_no (j := 13) (dj := 27) (b := true) rfl rfl rfl (by decide) ?_
    refine S_no (j := 13) (dj := 27) (b := true) rfl rfl rfl (by decide) ?_
    refine S_list (T_pickT (v := (vB true)) rfl rfl ?_)
    refine wpList_nil (X_then (hK8_ _ _ ?_))
    clear hK8_
    refine C_condT rfl ?_
    refine C_seq (fun K37_ hK37_ => C_reg ?_)
    refine sv (v := (vB true)) (x_assign rfl) ?_
    refine wpList_nil (X_then (hK37_ _ _ ?_))
    clear hK37_
    refine C_ret (X_thenR ?_)
    refine R_any (v := (vB true)) (run_results1 rfl rfl) ?_
    have H38_ : Holds w23_ (ro R :: F) := (Holds.pkF H24_ [1] 2 :)
    exact ⟨_, _, rfl, ⟨rfl, rfl⟩, S26_, H38_⟩
   ·have c35_fp : ¬ (2147483647 < (m.end_.size : Int)) := of_decide_eq_false c35_f
    refine C_skip (X_then (hK33_ _ _ ?_))
    clear hK33_
    refine C_seq (fun K39_ hK39_ => C_reg ?_)
    refine sv (v := (vB true)) (x_assign rfl) ?_
    refine wpList_nil (X_then (hK39_ _ _ ?_))
    clear hK39_
    refine C_ret ?_
    refine R_any (v := (vB true)) (run_results1 rfl rfl) ⟨_, rfl, ?_⟩
    refine S_yes (j := 3) (dj := 17) (b := false) rfl rfl (congrArg vB c18_f) (T_val (v := (vB false)) (x_cast (x_not (b := true) rfl) rfl) ?_)
    refine S_list (T_pickF (v := (vB false)) (congrArg vB c18_f) rfl ?_)
    refine sv (v := (vB false)) (x_move rfl) ?_
    refine S_yes (j := 8) (dj := 22) (b := false) rfl rfl rfl (T_val (v := (Value.string key)) (x_move rfl) ?_)
    refine S_yes (j := 8) (dj := 22) (b := false) rfl rfl rfl (T_val (v := (vI .i64 (key.size : Int))) (x_lenT rfl Try.underlying9) ?_)
    refine S_yes (j := 8) (dj := 22) (b := false) rfl rfl rfl (T_val (v := (vB (decide (2147483647 < (key.size : Int))))) (x_bin rfl rfl rfl) ?_)
    refine S_list (T_pickF (v := (vB (decide (2147483647 < (key.size : Int))))) rfl rfl ?_)
    refine sv (v := (vB (decide (2147483647 < (key.size : Int))))) (x_move rfl) ?_
    rcases Bool.eq_false_or_eq_true (decide (2147483647 < (key.size : Int))) with c40_t | c40_f
    ·have c40_tp : 2147483647 < (key.size : Int) := of_decide_eq_true c40_t
     refine S_no (j := 13) (dj := 27) (b := true) rfl rfl (congrArg vB c40_t) (by decide) ?_
     refine S_no (j := 13) (dj := 27) (b := true) rfl rfl (congrArg vB c40_t) (by decide) ?_
     refine S_no (j := 13) (dj := 27) (b := true) rfl rfl (congrArg vB c40_t) (by decide) ?_
     refine S_list (T_pickT (v := (vB true)) (congrArg vB c40_t) rfl ?_)
     refine wpList_nil (X_then (hK8_ _ _ ?_))
     clear hK8_
     refine C_condT rfl ?_
     refine C_seq (fun K41_ hK41_ => C_reg ?_)
     refine sv (v := (vB true)) (x_assign rfl) ?_
     refine wpList_nil (X_then (hK41_ _ _ ?_))
     clear hK41_
     refine C_ret (X_thenR ?_)
     refine R_any (v := (vB true)) (run_results1 rfl rfl) ?_
     have H42_ : Holds w23_ (ro R :: F) := (Holds.pkF H24_ [1] 2 :)
     exact ⟨_, _, rfl, ⟨rfl, rfl⟩, S26_, H42_⟩
    ·have c40_fp : ¬ (2147483647 < (key.size : Int)) := of_decide_eq_false c40_f
     refine S_yes (j := 13) (dj := 27) (b := false) rfl rfl (congrArg vB c40_f) (T_val (v := (Value.string end_)) (x_move rfl) ?_)
     refine S_yes (j := 13) (dj := 27) (b := false) rfl rfl (congrArg vB c40_f) (T_val (v := (vI .i64 (end_.size : Int))) (x_lenT rfl Try.underlying9) ?_)
     refine S_yes (j := 13) (dj := 27) (b := false) rfl rfl (congrArg vB c40_f) (T_val (v := (vB (decide (2147483647 < (end_.size : Int))))) (x_bin rfl rfl rfl) ?_)
     refine S_list (T_pickF (v := (vB (decide (2147483647 < (end_.size : Int))))) (congrArg vB c40_f) rfl ?_)
     refine wpList_nil (X_then (hK8_ _ _ ?_))
     clear hK8_
     refine C_cond (b := decide (2147483647 < (end_.size : Int))) rfl (fun c43_t => ?_) (fun c43_f => ?_)
     ·have c43_tp : 2147483647 < (end_.size : Int) := of_decide_eq_true c43_t
      refine C_seq (fun K44_ hK44_ => C_reg ?_)
      refine sv (v := (vB true)) (x_assign rfl) ?_
      refine wpList_nil (X_then (hK44_ _ _ ?_))
      clear hK44_
      refine C_ret (X_thenR ?_)
      refine R_any (v := (vB true)) (run_results1 rfl rfl) ?_
      have H45_ : Holds w23_ (ro R :: F) := (Holds.pkF H24_ [1] 2 :)
      exact ⟨_, _, rfl, ⟨rfl, rfl⟩, S26_, H45_⟩
     ·have c43_fp : ¬ (2147483647 < (end_.size : Int)) := of_decide_eq_false c43_f
      refine C_skip (X_then (hK7_ _ _ ?_))
      clear hK7_
      refine C_seq (fun K46_ hK46_ => ?_)
      refine C_seq (fun K47_ hK47_ => C_reg ?_)
      refine sv (v := v) (x_move rfl) ?_
      have H51_ := ((Holds.bring H24_ 1 rfl) :)
      refine S_list (T_call (al := [v]) (pre := []) rfl rfl cb22 (pmPerms R v l hv ((he11_ (by simpa using c18_f)))) H51_ ?_)
      rintro v48_ p55_ w52_ ⟨b49_, rfl, rfl, he50_⟩ S54_ H53_
      have S56_ := Same.trans S26_ S54_
      refine sv (v := (vB (!b49_))) (x_not rfl) ?_
      refine sv (v := (vB (!b49_))) (x_move rfl) ?_
      rcases Bool.eq_false_or_eq_true (!b49_) with c57_t | c57_f
      ·skip
       refine S_no (j := 3) (dj := 35) (b := true) rfl rfl (congrArg vB c57_t) (by decide) ?_
       refine S_no (j := 3) (dj := 35) (b := true) rfl rfl (congrArg vB c57_t) (by decide) ?_
       refine S_no (j := 3) (dj := 35) (b := true) rfl rfl (congrArg vB c57_t) (by decide) ?_
       refine S_no (j := 3) (dj := 35) (b := true) rfl rfl (congrArg vB c57_t) (by decide) ?_
       refine S_list (T_pickT (v := (vB true)) (congrArg vB c57_t) rfl ?_)
       refine sv (v := (vB true)) (x_move rfl) ?_
       refine S_no (j := 9) (dj := 41) (b := true) rfl rfl rfl (by decide) ?_
       refine S_no (j := 9) (dj := 41) (b := true) rfl rfl rfl (by decide) ?_
       refine S_no (j := 9) (dj := 41) (b := true) rfl rfl rfl (by decide) ?_
       refine S_list (T_pickT (v := (vB true)) rfl rfl ?_)
       refine sv (v := (vB true)) (x_move rfl) ?_
       refine S_no (j := 14) (dj := 46) (b := true) rfl rfl rfl (by decide) ?_
       refine S_no (j := 14) (dj := 46) (b := true) rfl rfl rfl (by decide) ?_
       refine S_no (j := 14) (dj := 46) (b := true) rfl rfl rfl (by decide) ?_
       refine S_list (T_pickT (v := (vB true)) rfl rfl ?_)
       refine sv (v := (vB true)) (x_move rfl) ?_
       refine S_no (j := 19) (dj := 51) (b := true) rfl rfl rfl (by decide) ?_
       refine S_no (j := 19) (dj := 51) (b := true) rfl rfl rfl (by decide) ?_
       refine S_no (j := 19) (dj := 51) (b := true) rfl rfl rfl (by decide) ?_
       refine S_no (j := 19) (dj := 51) (b := true) rfl rfl rfl (by decide) ?_
       refine S_list (T_pickT (v := (vB true)) rfl rfl ?_)
       refine sv (v := (vB true)) (x_move rfl) ?_
       refine S_no (j := 25) (dj := 57) (b := true) rfl rfl rfl (by decide) ?_
       refine S_no (j := 25) (dj := 57) (b := true) rfl rfl rfl (by decide) ?_
       refine S_list (T_pickT (v := (vB true)) rfl rfl ?_)
       refine sv (v := (vB true)) (x_move rfl) ?_
       refine S_no (j := 29) (dj := 61) (b := true) rfl rfl rfl (by decide) ?_
       refine S_no (j := 29) (dj := 61) (b := true) rfl rfl rfl (by decide) ?_
       refine S_list (T_pickT (v := (vB true)) rfl rfl ?_)
       refine wpList_nil (X_then (hK47_ _ _ ?_))
       clear hK47_
       refine C_condT rfl ?_
       refine C_seq (fun K58_ hK58_ => C_reg ?_)
       refine sv (v := (vB true)) (x_assign rfl) ?_
       refine wpList_nil (X_then (hK58_ _ _ ?_))
       clear hK58_
       refine C_ret (X_thenR ?_)
       refine R_any (v := (vB true)) (run_results1 rfl rfl) ?_
       have H59_ : Holds w52_ (ro R :: F) := (Holds.pkF H53_ [0] 2 :)
       exact ⟨_, _, rfl, ⟨rfl, rfl⟩, S56_, H59_⟩
      ·skip
       refine S_yes (j := 3) (dj := 35) (b := false) rfl rfl (congrArg vB c57_f) (T_val (v := (vA #[(vI .i64 m.kind), (Value.string m.key), (Value.string m.end_)])) (x_loadN (vs := [(vI .i64 m.kind), (Value.string m.key), (Value.string m.end_)]) rfl Try.underlying51 rfl z51 rfl (Rd.cells (Holds.rd H53_ 2 rfl) 0 rfl)) ?_)
       refine S_yes (j := 3) (dj := 35) (b := false) rfl rfl (congrArg vB c57_f) (T_new (obj := .cells #[(vI .i64 m.kind), (Value.string m.key), (Value.string m.end_)] 51) (f := fun b__ => .slice (some ⟨b__, 0, none⟩) 1 1) (A := fun b__ => cl b__ 51 [(vI .i64 m.kind), (Value.string m.key), (Value.string m.end_)]) (by kernel_rfl) (fun l h => h.alloc _ _) H53_ ?_)
       intro b60_ w61_ S63_ H62_
       have S64_ := Same.trans S56_ S63_
       have H65_ := ((Holds.bring H62_ 1 rfl) :)
       obtain ⟨R66_, hs67_, ⟨R68_, ha69_, hs70_⟩, H71_⟩ := Holds.gift H65_
       have hr72_ : RS R66_ 3 (vS (some ⟨b60_, 0, none⟩) 1 1) 1 ([m].flatMap PM.cells) := (RS.set_ (cl_RSn (sz := 3) ha69_ (Sub.rfl' _) (by rfl) (by omega)) rfl rfl).mono hs70_
       refine S_yes (j := 3) (dj := 35) (b := false) rfl rfl (congrArg vB c57_f) (T_call (al := [((vS (some ⟨b60_, 0, none⟩) 1 1))]) (pre := []) rfl (lcons (rfl : (vS (some ⟨b60_, 0, none⟩) 1 1) = ((vS (some ⟨b60_, 0, none⟩) 1 1))) rfl) cb22 (pmPerms R66_ (vS (some ⟨b60_, 0, none⟩) 1 1) [m] (RS.set_ hr72_ rfl (by first | rfl | omega | (simp; done) | (simp; omega))) ((by simp))) H71_ ?_)
       rintro v73_ p79_ w76_ ⟨b74_, rfl, rfl, he75_⟩ S78_ H77_
       have S80_ := Same.trans S64_ S78_
       refine S_yes (j := 3) (dj := 35) (b := false) rfl rfl (congrArg vB c57_f) (T_val (v := (vB (!b74_))) (x_not rfl) ?_)
       refine S_list (T_pickF (v := (vB (!b74_))) (congrArg vB c57_f) rfl ?_)
       refine sv (v := (vB (!b74_))) (x_move rfl) ?_
       rcases Bool.eq_false_or_eq_true (!b74_) with c81_t | c81_f
       ·skip
        refine S_no (j := 9) (dj := 41) (b := true) rfl rfl (congrArg vB c81_t) (by decide) ?_
        refine S_no (j := 9) (dj := 41) (b := true) rfl rfl (congrArg vB c81_t) (by decide) ?_
        refine S_no (j := 9) (dj := 41) (b := true) rfl rfl (congrArg vB c81_t) (by decide) ?_
        refine S_list (T_pickT (v := (vB true)) (congrArg vB c81_t) rfl ?_)
        refine sv (v := (vB true)) (x_move rfl) ?_
        refine S_no (j := 14) (dj := 46) (b := true) rfl rfl rfl (by decide) ?_
        refine S_no (j := 14) (dj := 46) (b := true) rfl rfl rfl (by decide) ?_
        refine S_no (j := 14) (dj := 46) (b := true) rfl rfl rfl (by decide) ?_
        refine S_list (T_pickT (v := (vB true)) rfl rfl ?_)
        refine sv (v := (vB true)) (x_move rfl) ?_
        refine S_no (j := 19) (dj := 51) (b := true) rfl rfl rfl (by decide) ?_
        refine S_no (j := 19) (dj := 51) (b := true) rfl rfl rfl (by decide) ?_
        refine S_no (j := 19) (dj := 51) (b := true) rfl rfl rfl (by decide) ?_
        refine S_no (j := 19) (dj := 51) (b := true) rfl rfl rfl (by decide) ?_
        refine S_list (T_pickT (v := (vB true)) rfl rfl ?_)
        refine sv (v := (vB true)) (x_move rfl) ?_
        refine S_no (j := 25) (dj := 57) (b := true) rfl rfl rfl (by decide) ?_
        refine S_no (j := 25) (dj := 57) (b := true) rfl rfl rfl (by decide) ?_
        refine S_list (T_pickT (v := (vB true)) rfl rfl ?_)
        refine sv (v := (vB true)) (x_move rfl) ?_
        refine S_no (j := 29) (dj := 61) (b := true) rfl rfl rfl (by decide) ?_
        refine S_no (j := 29) (dj := 61) (b := true) rfl rfl rfl (by decide) ?_
        refine S_list (T_pickT (v := (vB true)) rfl rfl ?_)
        refine wpList_nil (X_then (hK47_ _ _ ?_))
        clear hK47_
        refine C_condT rfl ?_
        refine C_seq (fun K82_ hK82_ => C_reg ?_)
        refine sv (v := (vB true)) (x_assign rfl) ?_
        refine wpList_nil (X_then (hK82_ _ _ ?_))
        clear hK82_
        refine C_ret (X_thenR ?_)
        refine R_any (v := (vB true)) (run_results1 rfl rfl) ?_
        have H83_ : Holds w76_ (ro R :: cl b22_ 51 [(vI .i64 m.kind), (Value.string m.key), (Value.string m.end_)] :: cl b2_ 51 [(vI .i64 m.kind), (Value.string m.key), (Value.string m.end_)] :: F) := Holds.ro_less H77_ hs67_
        have H84_ : Holds w76_ (ro R :: F) := (Holds.pkF H83_ [0] 2 :)
        exact ⟨_, _, rfl, ⟨rfl, rfl⟩, S80_, H84_⟩
       ·skip
        refine S_yes (j := 9) (dj := 41) (b := false) rfl rfl (congrArg vB c81_f) (T_val (v := (Value.string key)) (x_move rfl) ?_)
        refine S_yes (j := 9) (dj := 41) (b := false) rfl rfl (congrArg vB c81_f) (T_callW (al := [(Value.string key)]) rfl rfl cb23 (Calls.into (n := 6) (al := [(Value.string key)]) Try.func23 rfl Try.ntmps23 rfl rfl ?_))
        refine C_seq (fun K85_ hK85_ => C_reg ?_)
        refine sv (v := (vB false)) (x_assign rfl) ?_
        refine wpList_nil (X_then (hK85_ _ _ ?_))
        clear hK85_
        refine C_seq (fun K86_ hK86_ => C_reg ?_)
        refine sv (v := (Value.string key)) (x_move rfl) ?_
        refine sv (v := (vI .i64 (key.size : Int))) (x_lenT rfl Try.underlying9) ?_
        refine sv (v := (vB (decide ((key.size : Int) ≤ 64)))) (x_bin rfl rfl rfl) ?_
        refine sv (v := (vB (decide ((key.size : Int) ≤ 64)))) (x_assign rfl) ?_
        refine wpList_nil (X_then (hK86_ _ _ ?_))
        clear hK86_
        refine C_ret ?_
        refine R_any (v := (vB (decide ((key.size : Int) ≤ 64)))) (run_results1 rfl rfl) ⟨_, rfl, ?_⟩
        refine S_yes (j := 9) (dj := 41) (b := false) rfl rfl (congrArg vB c81_f) (T_val (v := (vB (decide (¬ ((key.size : Int) ≤ 64))))) (x_notP rfl) ?_)
        refine S_list (T_pickF (v := (vB (decide (¬ ((key.size : Int) ≤ 64))))) (congrArg vB c81_f) rfl ?_)
        refine sv (v := (vB (decide (¬ ((key.size : Int) ≤ 64))))) (x_move rfl) ?_
        rcases Bool.eq_false_or_eq_true (decide (¬ ((key.size : Int) ≤ 64))) with c87_t | c87_f
        ·have c87_tp : ¬ ((key.size : Int) ≤ 64) := of_decide_eq_true c87_t
         refine S_no (j := 14) (dj := 46) (b := true) rfl rfl (congrArg vB c87_t) (by decide) ?_
         refine S_no (j := 14) (dj := 46) (b := true) rfl rfl (congrArg vB c87_t) (by decide) ?_
         refine S_no (j := 14) (dj := 46) (b := true) rfl rfl (congrArg vB c87_t) (by decide) ?_
         refine S_list (T_pickT (v := (vB true)) (congrArg vB c87_t) rfl ?_)
         refine sv (v := (vB true)) (x_move rfl) ?_
         refine S_no (j := 19) (dj := 51) (b := true) rfl rfl rfl (by decide) ?_
         refine S_no (j := 19) (dj := 51) (b := true) rfl rfl rfl (by decide) ?_
         refine S_no (j := 19) (dj := 51) (b := true) rfl rfl rfl (by decide) ?_
         refine S_no (j := 19) (dj := 51) (b := true) rfl rfl rfl (by decide) ?_
         refine S_list (T_pickT (v := (vB true)) rfl rfl ?_)
         refine sv (v := (vB true)) (x_move rfl) ?_
         refine S_no (j := 25) (dj := 57) (b := true) rfl rfl rfl (by decide) ?_
         refine S_no (j := 25) (dj := 57) (b := true) rfl rfl rfl (by decide) ?_
         refine S_list (T_pickT (v := (vB true)) rfl rfl ?_)
         refine sv (v := (vB true)) (x_move rfl) ?_
         refine S_no (j := 29) (dj := 61) (b := true) rfl rfl rfl (by decide) ?_
         refine S_no (j := 29) (dj := 61) (b := true) rfl rfl rfl (by decide) ?_
         refine S_list (T_pickT (v := (vB true)) rfl rfl ?_)
         refine wpList_nil (X_then (hK47_ _ _ ?_))
         clear hK47_
         refine C_condT rfl ?_
         refine C_seq (fun K88_ hK88_ => C_reg ?_)
         refine sv (v := (vB true)) (x_assign rfl) ?_
         refine wpList_nil (X_then (hK88_ _ _ ?_))
         clear hK88_
         refine C_ret (X_thenR ?_)
         refine R_any (v := (vB true)) (run_results1 rfl rfl) ?_
         have H89_ : Holds w76_ (ro R :: cl b22_ 51 [(vI .i64 m.kind), (Value.string m.key), (Value.string m.end_)] :: cl b2_ 51 [(vI .i64 m.kind), (Value.string m.key), (Value.string m.end_)] :: F) := Holds.ro_less H77_ hs67_
         have H90_ : Holds w76_ (ro R :: F) := (Holds.pkF H89_ [0] 2 :)
         exact ⟨_, _, rfl, ⟨rfl, rfl⟩, S80_, H90_⟩
        ·have c87_fp : ¬ (¬ ((key.size : Int) ≤ 64)) := of_decide_eq_false c87_f
         refine S_yes (j := 14) (dj := 46) (b := false) rfl rfl (congrArg vB c87_f) (T_val (v := (Value.string end_)) (x_move rfl) ?_)
         refine S_yes (j := 14) (dj := 46) (b := false) rfl rfl (congrArg vB c87_f) (T_callW (al := [(Value.string end_)]) rfl rfl cb23 (Calls.into (n := 6) (al := [(Value.string end_)]) Try.func23 rfl Try.ntmps23 rfl rfl ?_))
         refine C_seq (fun K91_ hK91_ => C_reg ?_)
         refine sv (v := (vB false)) (x_assign rfl) ?_
         refine wpList_nil (X_then (hK91_ _ _ ?_))
         clear hK91_
         refine C_seq (fun K92_ hK92_ => C_reg ?_)
         refine sv (v := (Value.string end_)) (x_move rfl) ?_
         refine sv (v := (vI .i64 (end_.size : Int))) (x_lenT rfl Try.underlying9) ?_
         refine sv (v := (vB (decide ((end_.size : Int) ≤ 64)))) (x_bin rfl rfl rfl) ?_
         refine sv (v := (vB (decide ((end_.size : Int) ≤ 64)))) (x_assign rfl) ?_
         refine wpList_nil (X_then (hK92_ _ _ ?_))
         clear hK92_
         refine C_ret ?_
         refine R_any (v := (vB (decide ((end_.size : Int) ≤ 64)))) (run_results1 rfl rfl) ⟨_, rfl, ?_⟩
         refine S_yes (j := 14) (dj := 46) (b := false) rfl rfl (congrArg vB c87_f) (T_val (v := (vB (decide (¬ ((end_.size : Int) ≤ 64))))) (x_notP rfl) ?_)
         refine S_list (T_pickF (v := (vB (decide (¬ ((end_.size : Int) ≤ 64))))) (congrArg vB c87_f) rfl ?_)
         refine sv (v := (vB (decide (¬ ((end_.size : Int) ≤ 64))))) (x_move rfl) ?_
         rcases Bool.eq_false_or_eq_true (decide (¬ ((end_.size : Int) ≤ 64))) with c93_t | c93_f
         ·have c93_tp : ¬ ((end_.size : Int) ≤ 64) := of_decide_eq_true c93_t
          refine S_no (j := 19) (dj := 51) (b := true) rfl rfl (congrArg vB c93_t) (by decide) ?_
          refine S_no (j := 19) (dj := 51) (b := true) rfl rfl (congrArg vB c93_t) (by decide) ?_
          refine S_no (j := 19) (dj := 51) (b := true) rfl rfl (congrArg vB c93_t) (by decide) ?_
          refine S_no (j := 19) (dj := 51) (b := true) rfl rfl (congrArg vB c93_t) (by decide) ?_
          refine S_list (T_pickT (v := (vB true)) (congrArg vB c93_t) rfl ?_)
          refine sv (v := (vB true)) (x_move rfl) ?_
          refine S_no (j := 25) (dj := 57) (b := true) rfl rfl rfl (by decide) ?_
          refine S_no (j := 25) (dj := 57) (b := true) rfl rfl rfl (by decide) ?_
          refine S_list (T_pickT (v := (vB true)) rfl rfl ?_)
          refine sv (v := (vB true)) (x_move rfl) ?_
          refine S_no (j := 29) (dj := 61) (b := true) rfl rfl rfl (by decide) ?_
          refine S_no (j := 29) (dj := 61) (b := true) rfl rfl rfl (by decide) ?_
          refine S_list (T_pickT (v := (vB true)) rfl rfl ?_)
          refine wpList_nil (X_then (hK47_ _ _ ?_))
          clear hK47_
          refine C_condT rfl ?_
          refine C_seq (fun K94_ hK94_ => C_reg ?_)
          refine sv (v := (vB true)) (x_assign rfl) ?_
          refine wpList_nil (X_then (hK94_ _ _ ?_))
          clear hK94_
          refine C_ret (X_thenR ?_)
          refine R_any (v := (vB true)) (run_results1 rfl rfl) ?_
          have H95_ : Holds w76_ (ro R :: cl b22_ 51 [(vI .i64 m.kind), (Value.string m.key), (Value.string m.end_)] :: cl b2_ 51 [(vI .i64 m.kind), (Value.string m.key), (Value.string m.end_)] :: F) := Holds.ro_less H77_ hs67_
          have H96_ : Holds w76_ (ro R :: F) := (Holds.pkF H95_ [0] 2 :)
          exact ⟨_, _, rfl, ⟨rfl, rfl⟩, S80_, H96_⟩
         ·have c93_fp : ¬ (¬ ((end_.size : Int) ≤ 64)) := of_decide_eq_false c93_f
          refine S_yes (j := 19) (dj := 51) (b := false) rfl rfl (congrArg vB c93_f) (T_val (v := (Value.string key)) (x_move rfl) ?_)
          refine S_yes (j := 19) (dj := 51) (b := false) rfl rfl (congrArg vB c93_f) (T_val (v := (Value.string end_)) (x_move rfl) ?_)
          refine S_yes (j := 19) (dj := 51) (b := false) rfl rfl (congrArg vB c93_f) (T_call (al := [(Value.string key), (Value.string end_)]) (pre := []) rfl rfl cb24 (pmRange R66_ key end_) H77_ ?_)
          rintro v97_ p101_ w98_ ⟨rfl, rfl⟩ S100_ H99_
          have S102_ := Same.trans S80_ S100_
          refine S_yes (j := 19) (dj := 51) (b := false) rfl rfl (congrArg vB c93_f) (T_val (v := (vB (!(vrB key end_)))) (x_not rfl) ?_)
          refine S_list (T_pickF (v := (vB (!(vrB key end_)))) (congrArg vB c93_f) rfl ?_)
          refine sv (v := (vB (!(vrB key end_)))) (x_move rfl) ?_
          rcases Bool.eq_false_or_eq_true (!(vrB key end_)) with c103_t | c103_f
          ·skip
           refine S_no (j := 25) (dj := 57) (b := true) rfl rfl (congrArg vB c103_t) (by decide) ?_
           refine S_no (j := 25) (dj := 57) (b := true) rfl rfl (congrArg vB c103_t) (by decide) ?_
           refine S_list (T_pickT (v := (vB true)) (congrArg vB c103_t) rfl ?_)
           refine sv (v := (vB true)) (x_move rfl) ?_
           refine S_no (j := 29) (dj := 61) (b := true) rfl rfl rfl (by decide) ?_
           refine S_no (j := 29) (dj := 61) (b := true) rfl rfl rfl (by decide) ?_
           refine S_list (T_pickT (v := (vB true)) rfl rfl ?_)
           refine wpList_nil (X_then (hK47_ _ _ ?_))
           clear hK47_
           refine C_condT rfl ?_
           refine C_seq (fun K104_ hK104_ => C_reg ?_)
           refine sv (v := (vB true)) (x_assign rfl) ?_
           refine wpList_nil (X_then (hK104_ _ _ ?_))
           clear hK104_
           refine C_ret (X_thenR ?_)
           refine R_any (v := (vB true)) (run_results1 rfl rfl) ?_
           have H105_ : Holds w98_ (ro R :: cl b22_ 51 [(vI .i64 m.kind), (Value.string m.key), (Value.string m.end_)] :: cl b2_ 51 [(vI .i64 m.kind), (Value.string m.key), (Value.string m.end_)] :: F) := Holds.ro_less H99_ hs67_
           have H106_ : Holds w98_ (ro R :: F) := (Holds.pkF H105_ [0] 2 :)
           exact ⟨_, _, rfl, ⟨rfl, rfl⟩, S102_, H106_⟩
          ·skip
           refine S_yes (j := 25) (dj := 57) (b := false) rfl rfl (congrArg vB c103_f) (T_val (v := (vI .i64 kind)) (x_move rfl) ?_)
           refine S_yes (j := 25) (dj := 57) (b := false) rfl rfl (congrArg vB c103_f) (T_val (v := (vB (decide (kind < 0)))) (x_bin rfl rfl rfl) ?_)
           refine S_list (T_pickF (v := (vB (decide (kind < 0)))) (congrArg vB c103_f) rfl ?_)
           refine sv (v := (vB (decide (kind < 0)))) (x_move rfl) ?_
           rcases Bool.eq_false_or_eq_true (decide (kind < 0)) with c107_t | c107_f
           ·have c107_tp : kind < 0 := of_decide_eq_true c107_t
            refine S_no (j := 29) (dj := 61) (b := true) rfl rfl (congrArg vB c107_t) (by decide) ?_
            refine S_no (j := 29) (dj := 61) (b := true) rfl rfl (congrArg vB c107_t) (by decide) ?_
            refine S_list (T_pickT (v := (vB true)) (congrArg vB c107_t) rfl ?_)
            refine wpList_nil (X_then (hK47_ _ _ ?_))
            clear hK47_
            refine C_condT rfl ?_
            refine C_seq (fun K108_ hK108_ => C_reg ?_)
            refine sv (v := (vB true)) (x_assign rfl) ?_
            refine wpList_nil (X_then (hK108_ _ _ ?_))
            clear hK108_
            refine C_ret (X_thenR ?_)
            refine R_any (v := (vB true)) (run_results1 rfl rfl) ?_
            have H109_ : Holds w98_ (ro R :: cl b22_ 51 [(vI .i64 m.kind), (Value.string m.key), (Value.string m.end_)] :: cl b2_ 51 [(vI .i64 m.kind), (Value.string m.key), (Value.string m.end_)] :: F) := Holds.ro_less H99_ hs67_
            have H110_ : Holds w98_ (ro R :: F) := (Holds.pkF H109_ [0] 2 :)
            exact ⟨_, _, rfl, ⟨rfl, rfl⟩, S102_, H110_⟩
           ·have c107_fp : ¬ (kind < 0) := of_decide_eq_false c107_f
            refine S_yes (j := 29) (dj := 61) (b := false) rfl rfl (congrArg vB c107_f) (T_val (v := (vI .i64 kind)) (x_move rfl) ?_)
            refine S_yes (j := 29) (dj := 61) (b := false) rfl rfl (congrArg vB c107_f) (T_val (v := (vB (decide (1 < kind)))) (x_bin rfl rfl rfl) ?_)
            refine S_list (T_pickF (v := (vB (decide (1 < kind)))) (congrArg vB c107_f) rfl ?_)
            refine wpList_nil (X_then (hK47_ _ _ ?_))
            clear hK47_
            refine C_cond (b := decide (1 < kind)) rfl (fun c111_t => ?_) (fun c111_f => ?_)
            ·have c111_tp : 1 < kind := of_decide_eq_true c111_t
             refine C_seq (fun K112_ hK112_ => C_reg ?_)
             refine sv (v := (vB true)) (x_assign rfl) ?_
             refine wpList_nil (X_then (hK112_ _ _ ?_))
             clear hK112_
             refine C_ret (X_thenR ?_)
             refine R_any (v := (vB true)) (run_results1 rfl rfl) ?_
             have H113_ : Holds w98_ (ro R :: cl b22_ 51 [(vI .i64 m.kind), (Value.string m.key), (Value.string m.end_)] :: cl b2_ 51 [(vI .i64 m.kind), (Value.string m.key), (Value.string m.end_)] :: F) := Holds.ro_less H99_ hs67_
             have H114_ : Holds w98_ (ro R :: F) := (Holds.pkF H113_ [0] 2 :)
             exact ⟨_, _, rfl, ⟨rfl, rfl⟩, S102_, H114_⟩
            ·have c111_fp : ¬ (1 < kind) := of_decide_eq_false c111_f
             refine C_skip (X_then (hK46_ _ _ ?_))
             clear hK46_
             refine C_seq (fun K115_ hK115_ => C_reg ?_)
             refine sv (v := v) (x_move rfl) ?_
             refine sv (v := (Value.string key)) (x_move rfl) ?_
             refine sv (v := (Value.string end_)) (x_move rfl) ?_
             refine sv (v := (vI .i64 kind)) (x_move rfl) ?_
             have hg1_ := he50_ (by simpa using c57_f)
             have hg2_ := he75_ (by simpa using c81_f)
             have hlen_ := hg1_.1
             have hlok_ := hg1_.2
             have hmok_ := hg2_.2 m (List.mem_singleton.2 rfl)
             have hmk_ := hmok_.k
             have hvr_ := vrB_iff.1 (by simpa using c103_f)
             have hqk_ : PmOk (⟨kind, key, end_⟩ : PM) := ⟨⟨by show 0 ≤ kind; omega, by show kind ≤ 2; omega⟩, by show key.size ≤ 64; omega, by show end_.size ≤ 64; omega, hvr_.1, hvr_.2⟩
             have hal_ : ∀ p ∈ [m] ++ l, PmOk p := fun p hm => (List.mem_append.1 hm).elim (fun h => by rw [List.mem_singleton.1 h]; exact hmok_) (hlok_ p)
             have hbl_ : ∀ p ∈ l ++ [m], PmOk p := fun p hm => (List.mem_append.1 hm).elim (hlok_ p) (fun h => by rw [List.mem_singleton.1 h]; exact hmok_)
             refine S_list (T_call (al := [v, (Value.string key), (Value.string end_), (vI .i64 kind)]) (pre := []) rfl rfl cb26 (prPermits R66_ v l key end_ kind (RS.mono hv hs67_) (hlok_) (by first | omega | (simp; omega)) (hqk_) (by first | assumption | omega)) H99_ ?_)
             rintro v116_ p120_ w117_ ⟨rfl, rfl⟩ S119_ H118_
             have S121_ := Same.trans S102_ S119_
             refine sv (v := (vB (permits l ⟨kind, key, end_⟩ kind))) (x_assign rfl) ?_
             refine wpList_nil (X_then (hK115_ _ _ ?_))
             clear hK115_
             refine C_seq (fun K122_ hK122_ => C_reg ?_)
             refine sv (v := (vA #[(vI .i64 m.kind), (Value.string m.key), (Value.string m.end_)])) (x_loadN (vs := [(vI .i64 m.kind), (Value.string m.key), (Value.string m.end_)]) rfl Try.underlying51 rfl z51 rfl (Rd.cells (Holds.rd H118_ 2 rfl) 0 rfl)) ?_
             refine S_list (T_new (obj := .cells #[(vI .i64 m.kind), (Value.string m.key), (Value.string m.end_)] 51) (f := fun b__ => .slice (some ⟨b__, 0, none⟩) 1 1) (A := fun b__ => cl b__ 51 [(vI .i64 m.kind), (Value.string m.key), (Value.string m.end_)]) (by kernel_rfl) (fun l h => h.alloc _ _) H118_ ?_)
             intro b123_ w124_ S126_ H125_
             have S127_ := Same.trans S121_ S126_
             refine sv (v := v) (x_move rfl) ?_
             have H128_ : Holds w124_ (cl b123_ 51 ([] ++ [(vI .i64 m.kind), (Value.string m.key), (Value.string m.end_)] ++ []) :: ro R66_ :: cl b22_ 51 [(vI .i64 m.kind), (Value.string m.key), (Value.string m.end_)] :: cl b2_ 51 [(vI .i64 m.kind), (Value.string m.key), (Value.string m.end_)] :: F) := cast1 (P := fun (c__ : List Value) => Holds w124_ (cl b123_ 51 c__ :: ro R66_ :: cl b22_ 51 [(vI .i64 m.kind), (Value.string m.key), (Value.string m.end_)] :: cl b2_ 51 [(vI .i64 m.kind), (Value.string m.key), (Value.string m.end_)] :: F)) (by kernel_rfl : [(vI .i64 m.kind), (Value.string m.key), (Value.string m.end_)] = [] ++ [(vI .i64 m.kind), (Value.string m.key), (Value.string m.end_)] ++ []) H125_
             have H129_ : Holds w124_ (sl 51 3 (vS (some ⟨b123_, 0, none⟩) 1 1) 1 [(vI .i64 m.kind), (Value.string m.key), (Value.string m.end_)] :: ro R66_ :: cl b22_ 51 [(vI .i64 m.kind), (Value.string m.key), (Value.string m.end_)] :: cl b2_ 51 [(vI .i64 m.kind), (Value.string m.key), (Value.string m.end_)] :: F) := Holds.to_sl H128_ 0 [] [] (xs := [(vI .i64 m.kind), (Value.string m.key), (Value.string m.end_)]) (m := 1) (cap := 1) (sz := 3) rfl (by kernel_rfl) (by kernel_rfl) (by omega)
             refine S_list (T_append rfl rfl Try.underlying46 z51 rfl (by decide) H129_ 0 rfl (RS.src (RS.mono hv hs67_) (Holds.ro_at H129_ 1 rfl) Try.underlying46 (ones_PM _)) (by first | omega | (simp only [List.length_append, List.length_cons, List.length_nil]; omega)) ?_)
             intro v130_ w131_ S133_ H132_
             have S134_ := Same.trans S127_ S133_
             refine sv (v := (Value.string key)) (x_move rfl) ?_
             refine sv (v := (Value.string end_)) (x_move rfl) ?_
             refine sv (v := (vI .i64 kind)) (x_move rfl) ?_
             have H135_ := Holds.resl H132_ 0 rfl (by simp [PM.cells, List.flatMap_append] : [(vI .i64 m.kind), (Value.string m.key), (Value.string m.end_)] ++ (l.flatMap PM.cells) = ([m] ++ l).flatMap PM.cells) (by first | (simp; done) | (simp; omega) : 1 + (List.length l) = (List.length ([m] ++ l)))
             have H136_ := ((Holds.bring H135_ 1 rfl) :)
             obtain ⟨R137_, hs138_, ⟨R139_, ha140_, hs141_⟩, H142_⟩ := Holds.gift H136_
             have hz_R_R137_ := Sub.trans' hs67_ hs138_
             have hr143_ : RS R137_ 3 v130_ (List.length ([m] ++ l)) (([m] ++ l).flatMap PM.cells) := (sl_RS ha140_ (Sub.rfl' _)).mono hs141_
             refine S_list (T_call (al := [v130_, (Value.string key), (Value.string end_), (vI .i64 kind)]) (pre := []) rfl rfl cb26 (prPermits R137_ v130_ ([m] ++ l) key end_ kind hr143_ (hal_) (by first | omega | (simp; omega)) (hqk_) (by first | assumption | omega)) H142_ ?_)
             rintro v144_ p148_ w145_ ⟨rfl, rfl⟩ S147_ H146_
             have S149_ := Same.trans S134_ S147_
             refine sv (v := (vB (permits ([m] ++ l) ⟨kind, key, end_⟩ kind))) (x_assign rfl) ?_
             refine wpList_nil (X_then (hK122_ _ _ ?_))
             clear hK122_
             refine C_seq (fun K150_ hK150_ => ?_)
             refine A_start (S := fun w => Rd b2_ [(vI .i64 m.kind), (Value.string m.key), (Value.string m.end_)] w ∧ Sub R137_ (hp w)) (N := 11) foll rfl rfl ?_
             have H151_ := Holds.drew_ H146_
             have hq152_ := And.intro (Holds.rd H151_ 2 rfl) ((Holds.ro_at H151_ 0 rfl))
             refine A_tk 1 (v := v) rfl (by kernel_rfl) (fun w hS => x_move rfl) hq152_ ?_
             refine A_tk 3 (v := (vA #[(vI .i64 m.kind), (Value.string m.key), (Value.string m.end_)])) rfl (by kernel_rfl) (fun w hS => x_loadN (vs := [(vI .i64 m.kind), (Value.string m.key), (Value.string m.end_)]) rfl Try.underlying51 rfl z51 rfl (Rd.cells hS.1 0 rfl)) hq152_ ?_
             refine A_tk 6 (v := (Value.string key)) rfl (by kernel_rfl) (fun w hS => x_move rfl) hq152_ ?_
             refine A_tk 7 (v := (Value.string end_)) rfl (by kernel_rfl) (fun w hS => x_move rfl) hq152_ ?_
             refine A_tk 8 (v := (vI .i64 kind)) rfl (by kernel_rfl) (fun w hS => x_move rfl) hq152_ ?_
             refine A_ready (i := 0) (rs := [4]) (by kernel_rfl) ?_
             refine AllR.cons ?_ ?_
             ·skip
              refine A_op (ls' := #[true, true, false, true, false, false, true, true, true, false, false]) rfl (by kernel_rfl) (T_new (obj := .cells #[] 51) (f := fun b__ => .slice (some ⟨b__, 0, none⟩) 0 0) (A := fun b__ => cl b__ 51 []) (by kernel_rfl) (fun l h => h.alloc _ _) H151_ ?_)
              intro b153_ w154_ S156_ H155_
              have S157_ := Same.trans (Same.trans S149_ (Same.drew _)) S156_
              refine ⟨⟨Holds.rd H155_ 3 rfl, (Holds.ro_at H155_ 1 rfl)⟩, ?_⟩
              refine A_ready (i := 2) (rs := [4]) (by kernel_rfl) ?_
              refine AllR.cons ?_ ?_
              ·skip
               have H158_ : Holds w154_ (cl b153_ 51 ([] ++ [] ++ []) :: ro R137_ :: cl b22_ 51 [(vI .i64 m.kind), (Value.string m.key), (Value.string m.end_)] :: cl b2_ 51 [(vI .i64 m.kind), (Value.string m.key), (Value.string m.end_)] :: F) := cast1 (P := fun (c__ : List Value) => Holds w154_ (cl b153_ 51 c__ :: ro R137_ :: cl b22_ 51 [(vI .i64 m.kind), (Value.string m.key), (Value.string m.end_)] :: cl b2_ 51 [(vI .i64 m.kind), (Value.string m.key), (Value.string m.end_)] :: F)) (by kernel_rfl : [] = [] ++ [] ++ []) H155_
               have H159_ : Holds w154_ (sl 51 3 (vS (some ⟨b153_, 0, none⟩) 0 0) 0 [] :: ro R137_ :: cl b22_ 51 [(vI .i64 m.kind), (Value.string m.key), (Value.string m.end_)] :: cl b2_ 51 [(vI .i64 m.kind), (Value.string m.key), (Value.string m.end_)] :: F) := Holds.to_sl H158_ 0 [] [] (xs := []) (m := 0) (cap := 0) (sz := 3) rfl (by kernel_rfl) (by kernel_rfl) (by omega)
               refine A_op (ls' := #[true, true, true, true, false, false, true, true, true, false, false]) rfl (by kernel_rfl) (T_append rfl rfl Try.underlying46 z51 rfl (by decide) H159_ 0 rfl (RS.src (RS.mono hv hz_R_R137_) (Holds.ro_at H159_ 1 rfl) Try.underlying46 (ones_PM _)) (by first | omega | (simp only [List.length_append, List.length_cons, List.length_nil]; omega)) ?_)
               intro v160_ w161_ S163_ H162_
               have S164_ := Same.trans S157_ S163_
               refine ⟨⟨Holds.rd H162_ 3 rfl, (Holds.ro_at H162_ 1 rfl)⟩, ?_⟩
               refine A_ready (i := 4) (rs := []) (by kernel_rfl) ?_
               refine AllR.cons ?_ AllR.nil
               refine A_op (ls' := #[true, true, true, true, true, false, true, true, true, false, false]) rfl (by kernel_rfl) (T_new (obj := .cells #[(vI .i64 m.kind), (Value.string m.key), (Value.string m.end_)] 51) (f := fun b__ => .slice (some ⟨b__, 0, none⟩) 1 1) (A := fun b__ => cl b__ 51 [(vI .i64 m.kind), (Value.string m.key), (Value.string m.end_)]) (by kernel_rfl) (fun l h => h.alloc _ _) H162_ ?_)
               intro b165_ w166_ S168_ H167_
               have S169_ := Same.trans S164_ S168_
               refine ⟨⟨Holds.rd H167_ 4 rfl, (Holds.ro_at H167_ 2 rfl)⟩, ?_⟩
               refine A_ready (i := 5) (rs := []) (by kernel_rfl) ?_
               refine AllR.cons ?_ AllR.nil
               refine A_op (ls' := #[true, true, true, true, true, true, true, true, true, false, false]) rfl (by kernel_rfl) (T_append rfl rfl Try.underlying46 z51 rfl (by decide) H167_ 1 rfl (Holds.cl_src H167_ 0 rfl Try.underlying46 (by simp [Value.oneCell']) rfl) (by first | omega | (simp only [List.length_append, List.length_cons, List.length_nil]; omega)) ?_)
               intro v170_ w171_ S173_ H172_
               have S174_ := Same.trans S169_ S173_
               refine ⟨⟨Holds.rd H172_ 4 rfl, (Holds.ro_at H172_ 2 rfl)⟩, ?_⟩
               refine A_ready (i := 9) (rs := []) (by kernel_rfl) ?_
               refine AllR.cons ?_ AllR.nil
               have H175_ := Holds.resl H172_ 1 rfl (by simp [PM.cells, List.flatMap_append] : ([] ++ (l.flatMap PM.cells)) ++ [(vI .i64 m.kind), (Value.string m.key), (Value.string m.end_)] = (l ++ [m]).flatMap PM.cells) (by first | (simp; done) | (simp; omega) : 0 + (List.length l) + 1 = (List.length (l ++ [m])))
               have H176_ := ((Holds.bring (Holds.bring H175_ 1 rfl) 2 rfl) :)
               obtain ⟨R177_, hs178_, ⟨R179_, ha180_, hs181_⟩, H182_⟩ := Holds.gift H176_
               have hz_R_R177_ := Sub.trans' hz_R_R137_ hs178_
               have hz_R66__R177_ := Sub.trans' hs138_ hs178_
               have hr183_ : RS R177_ 3 v170_ (List.length (l ++ [m])) ((l ++ [m]).flatMap PM.cells) := (sl_RS ha180_ (Sub.rfl' _)).mono hs181_
               refine A_op (ls' := #[true, true, true, true, true, true, true, true, true, true, false]) rfl (by kernel_rfl) (T_call (al := [v170_, (Value.string key), (Value.string end_), (vI .i64 kind)]) (pre := []) rfl rfl cb26 (prPermits R177_ v170_ (l ++ [m]) key end_ kind hr183_ (hbl_) (by first | omega | (simp; omega)) (hqk_) (by first | assumption | omega)) H182_ ?_)
               rintro v184_ p188_ w185_ ⟨rfl, rfl⟩ S187_ H186_
               have S189_ := Same.trans S174_ S187_
               rw [show permits (l ++ [m]) (⟨kind, key, end_⟩ : PM) kind = permits ([m] ++ l) (⟨kind, key, end_⟩ : PM) kind from permits_ext fun p => by rw [pivls_mem, pivls_mem]; constructor <;> (rintro ⟨x, hx, h1, h2⟩; exact ⟨x, by simp at hx ⊢; first | exact hx.symm | exact hx.elim .inr .inl, h1, h2⟩)]
               refine ⟨⟨Holds.rd H186_ 3 rfl, (Sub.trans' hs178_ (Holds.ro_at H186_ 0 rfl))⟩, ?_⟩
               have hq190_ := And.intro (Holds.rd H186_ 3 rfl) ((Sub.trans' hs178_ (Holds.ro_at H186_ 0 rfl)))
               refine A_tk 10 (v := (vB (permits ([m] ++ l) ⟨kind, key, end_⟩ kind))) rfl (by kernel_rfl) (fun w hS => x_assign rfl) hq190_ ?_
               refine A_done (by kernel_rfl) ?_
               refine (X_then (hK150_ _ _ ?_))
               clear hK150_
               refine C_seq (fun K191_ hK191_ => C_reg ?_)
               refine sv (v := (vB (permits ([m] ++ l) ⟨kind, key, end_⟩ kind))) (x_move rfl) ?_
               refine sv (v := (vB (permits ([m] ++ l) ⟨kind, key, end_⟩ kind))) (x_move rfl) ?_
               refine sv (v := (vB true)) (x_cast (x_eqB rfl rfl Try.underlying4) (by simp)) ?_
               refine sv (v := (vB true)) (x_move rfl) ?_
               refine S_yes (j := 3) (dj := 91) (b := true) rfl rfl rfl (T_val (v := (vB (permits ([m] ++ l) ⟨kind, key, end_⟩ kind))) (x_move rfl) ?_)
               refine S_yes (j := 3) (dj := 91) (b := true) rfl rfl rfl (T_val (v := (vB (permits ([m] ++ l) ⟨kind, key, end_⟩ kind))) (x_move rfl) ?_)
               rcases Bool.eq_false_or_eq_true (permits ([m] ++ l) ⟨kind, key, end_⟩ kind) with c192_t | c192_f
               ·skip
                refine S_no (j := 5) (dj := 93) (b := true) rfl rfl (congrArg vB c192_t) (by decide) ?_
                refine S_no (j := 5) (dj := 93) (b := true) rfl rfl (congrArg vB c192_t) (by decide) ?_
                refine S_yes (j := 3) (dj := 91) (b := true) rfl rfl rfl (T_pickT (v := (vB true)) (congrArg vB c192_t) rfl ?_)
                refine S_list (T_pickT (v := (vB true)) rfl rfl ?_)
                refine sv (v := (vB true)) (x_move rfl) ?_
                refine S_yes (j := 10) (dj := 98) (b := true) rfl rfl rfl (T_val (v := (vA #[(vI .i64 m.kind), (Value.string m.key), (Value.string m.end_)])) (x_loadN (vs := [(vI .i64 m.kind), (Value.string m.key), (Value.string m.end_)]) rfl Try.underlying51 rfl z51 rfl (Rd.cells (Holds.rd H186_ 3 rfl) 0 rfl)) ?_)
                refine S_yes (j := 10) (dj := 98) (b := true) rfl rfl rfl (T_new (obj := .cells #[(vI .i64 m.kind), (Value.string m.key), (Value.string m.end_)] 51) (f := fun b__ => .slice (some ⟨b__, 0, none⟩) 1 1) (A := fun b__ => cl b__ 51 [(vI .i64 m.kind), (Value.string m.key), (Value.string m.end_)]) (by kernel_rfl) (fun l h => h.alloc _ _) H186_ ?_)
                intro b193_ w194_ S196_ H195_
                have S197_ := Same.trans S189_ S196_
                refine S_yes (j := 10) (dj := 98) (b := true) rfl rfl rfl (T_val (v := (vP (some ⟨b2_, 1, none⟩))) (by kernel_rfl) ?_)
                refine S_yes (j := 10) (dj := 98) (b := true) rfl rfl rfl (T_val (v := (Value.string m.key)) (x_load1 rfl Try.underlying9 rfl ((Holds.rd H195_ 4 rfl) 1 (Value.string m.key) rfl)) ?_)
                refine S_yes (j := 10) (dj := 98) (b := true) rfl rfl rfl (T_val (v := (vP (some ⟨b2_, 2, none⟩))) (by kernel_rfl) ?_)
                refine S_yes (j := 10) (dj := 98) (b := true) rfl rfl rfl (T_val (v := (Value.string m.end_)) (x_load1 rfl Try.underlying9 rfl ((Holds.rd H195_ 4 rfl) 2 (Value.string m.end_) rfl)) ?_)
                refine S_yes (j := 10) (dj := 98) (b := true) rfl rfl rfl (T_val (v := (vP (some ⟨b2_, 0, none⟩))) (by kernel_rfl) ?_)
                refine S_yes (j := 10) (dj := 98) (b := true) rfl rfl rfl (T_val (v := (vI .i64 m.kind)) (x_load1 rfl Try.underlying3 rfl ((Holds.rd H195_ 4 rfl) 0 (vI .i64 m.kind) rfl)) ?_)
                refine S_yes (j := 10) (dj := 98) (b := true) rfl rfl rfl (T_val (v := (vI .i64 (min m.kind 1))) (x_min2 rfl rfl (min_ite _ _)) ?_)
                have H198_ := ((Holds.bring H195_ 1 rfl) :)
                obtain ⟨R199_, hs200_, ⟨R201_, ha202_, hs203_⟩, H204_⟩ := Holds.gift H198_
                have hz_R_R199_ := Sub.trans' hz_R_R177_ hs200_
                have hz_R66__R199_ := Sub.trans' hz_R66__R177_ hs200_
                have hz_R137__R199_ := Sub.trans' hs178_ hs200_
                have hr205_ : RS R199_ 3 (vS (some ⟨b193_, 0, none⟩) 1 1) 1 ([m].flatMap PM.cells) := (RS.set_ (cl_RSn (sz := 3) ha202_ (Sub.rfl' _) (by rfl) (by omega)) rfl rfl).mono hs203_
                refine S_yes (j := 10) (dj := 98) (b := true) rfl rfl rfl (T_call (al := [((vS (some ⟨b193_, 0, none⟩) 1 1)), (Value.string m.key), (Value.string m.end_), (vI .i64 (min m.kind 1))]) (pre := []) rfl (lcons (rfl : (vS (some ⟨b193_, 0, none⟩) 1 1) = ((vS (some ⟨b193_, 0, none⟩) 1 1))) rfl) cb26 (prPermits R199_ (vS (some ⟨b193_, 0, none⟩) 1 1) [m] m.key m.end_ (min m.kind 1) (RS.set_ hr205_ rfl (by first | rfl | omega | (simp; done) | (simp; omega))) ((fun p hm => by rw [List.mem_singleton.1 hm]; exact hmok_)) (by simp) (⟨⟨by show 0 ≤ min m.kind 1; omega, by show min m.kind 1 ≤ 2; omega⟩, hmok_.s1, hmok_.s2, hmok_.n, hmok_.v⟩) (by omega)) H204_ ?_)
                rintro v206_ p210_ w207_ ⟨rfl, rfl⟩ S209_ H208_
                have S211_ := Same.trans S197_ S209_
                rw [show permits [m] (⟨min m.kind 1, m.key, m.end_⟩ : PM) (min m.kind 1) = true from permits_self ⟨⟨by show 0 ≤ min m.kind 1; omega, by show min m.kind 1 ≤ 2; omega⟩, hmok_.s1, hmok_.s2, hmok_.n, hmok_.v⟩ (List.mem_singleton.2 rfl) (by omega) rfl rfl]
                refine S_list (T_pickT (v := (vB true)) rfl rfl ?_)
                refine sv (v := (vB true)) (x_assign rfl) ?_
                refine wpList_nil (X_then (hK191_ _ _ ?_))
                clear hK191_
                refine C_ret ?_
                refine R_any (v := (vB true)) (run_results1 rfl rfl) ?_
                have H212_ : Holds w207_ (ro R :: cl b165_ 51 [(vI .i64 m.kind), (Value.string m.key), (Value.string m.end_)] :: cl b22_ 51 [(vI .i64 m.kind), (Value.string m.key), (Value.string m.end_)] :: cl b2_ 51 [(vI .i64 m.kind), (Value.string m.key), (Value.string m.end_)] :: F) := Holds.ro_less H208_ hz_R_R199_
                have H213_ : Holds w207_ (ro R :: F) := (Holds.pkF H212_ [0] 3 :)
                exact ⟨_, _, rfl, ⟨rfl, rfl⟩, S211_, H213_⟩
               ·skip
                refine S_yes (j := 5) (dj := 93) (b := false) rfl rfl (congrArg vB c192_f) (T_val (v := (vB (permits l ⟨kind, key, end_⟩ kind))) (x_move rfl) ?_)
                refine S_yes (j := 5) (dj := 93) (b := false) rfl rfl (congrArg vB c192_f) (T_val (v := (vB (!(permits l ⟨kind, key, end_⟩ kind)))) (x_not rfl) ?_)
                refine S_yes (j := 3) (dj := 91) (b := true) rfl rfl rfl (T_pickF (v := (vB (!(permits l ⟨kind, key, end_⟩ kind)))) (congrArg vB c192_f) rfl ?_)
                refine S_list (T_pickT (v := (vB (!(permits l ⟨kind, key, end_⟩ kind)))) rfl rfl ?_)
                refine sv (v := (vB (!(permits l ⟨kind, key, end_⟩ kind)))) (x_move rfl) ?_
                rcases Bool.eq_false_or_eq_true (!(permits l ⟨kind, key, end_⟩ kind)) with c214_t | c214_f
                ·skip
                 refine S_yes (j := 10) (dj := 98) (b := true) rfl rfl (congrArg vB c214_t) (T_val (v := (vA #[(vI .i64 m.kind), (Value.string m.key), (Value.string m.end_)])) (x_loadN (vs := [(vI .i64 m.kind), (Value.string m.key), (Value.string m.end_)]) rfl Try.underlying51 rfl z51 rfl (Rd.cells (Holds.rd H186_ 3 rfl) 0 rfl)) ?_)
                 refine S_yes (j := 10) (dj := 98) (b := true) rfl rfl (congrArg vB c214_t) (T_new (obj := .cells #[(vI .i64 m.kind), (Value.string m.key), (Value.string m.end_)] 51) (f := fun b__ => .slice (some ⟨b__, 0, none⟩) 1 1) (A := fun b__ => cl b__ 51 [(vI .i64 m.kind), (Value.string m.key), (Value.string m.end_)]) (by kernel_rfl) (fun l h => h.alloc _ _) H186_ ?_)
                 intro b215_ w216_ S218_ H217_
                 have S219_ := Same.trans S189_ S218_
                 refine S_yes (j := 10) (dj := 98) (b := true) rfl rfl (congrArg vB c214_t) (T_val (v := (vP (some ⟨b2_, 1, none⟩))) (by kernel_rfl) ?_)
                 refine S_yes (j := 10) (dj := 98) (b := true) rfl rfl (congrArg vB c214_t) (T_val (v := (Value.string m.key)) (x_load1 rfl Try.underlying9 rfl ((Holds.rd H217_ 4 rfl) 1 (Value.string m.key) rfl)) ?_)
                 refine S_yes (j := 10) (dj := 98) (b := true) rfl rfl (congrArg vB c214_t) (T_val (v := (vP (some ⟨b2_, 2, none⟩))) (by kernel_rfl) ?_)
                 refine S_yes (j := 10) (dj := 98) (b := true) rfl rfl (congrArg vB c214_t) (T_val (v := (Value.string m.end_)) (x_load1 rfl Try.underlying9 rfl ((Holds.rd H217_ 4 rfl) 2 (Value.string m.end_) rfl)) ?_)
                 refine S_yes (j := 10) (dj := 98) (b := true) rfl rfl (congrArg vB c214_t) (T_val (v := (vP (some ⟨b2_, 0, none⟩))) (by kernel_rfl) ?_)
                 refine S_yes (j := 10) (dj := 98) (b := true) rfl rfl (congrArg vB c214_t) (T_val (v := (vI .i64 m.kind)) (x_load1 rfl Try.underlying3 rfl ((Holds.rd H217_ 4 rfl) 0 (vI .i64 m.kind) rfl)) ?_)
                 refine S_yes (j := 10) (dj := 98) (b := true) rfl rfl (congrArg vB c214_t) (T_val (v := (vI .i64 (min m.kind 1))) (x_min2 rfl rfl (min_ite _ _)) ?_)
                 have H220_ := ((Holds.bring H217_ 1 rfl) :)
                 obtain ⟨R221_, hs222_, ⟨R223_, ha224_, hs225_⟩, H226_⟩ := Holds.gift H220_
                 have hz_R_R221_ := Sub.trans' hz_R_R177_ hs222_
                 have hz_R66__R221_ := Sub.trans' hz_R66__R177_ hs222_
                 have hz_R137__R221_ := Sub.trans' hs178_ hs222_
                 have hr227_ : RS R221_ 3 (vS (some ⟨b215_, 0, none⟩) 1 1) 1 ([m].flatMap PM.cells) := (RS.set_ (cl_RSn (sz := 3) ha224_ (Sub.rfl' _) (by rfl) (by omega)) rfl rfl).mono hs225_
                 refine S_yes (j := 10) (dj := 98) (b := true) rfl rfl (congrArg vB c214_t) (T_call (al := [((vS (some ⟨b215_, 0, none⟩) 1 1)), (Value.string m.key), (Value.string m.end_), (vI .i64 (min m.kind 1))]) (pre := []) rfl (lcons (rfl : (vS (some ⟨b215_, 0, none⟩) 1 1) = ((vS (some ⟨b215_, 0, none⟩) 1 1))) rfl) cb26 (prPermits R221_ (vS (some ⟨b215_, 0, none⟩) 1 1) [m] m.key m.end_ (min m.kind 1) (RS.set_ hr227_ rfl (by first | rfl | omega | (simp; done) | (simp; omega))) ((fun p hm => by rw [List.mem_singleton.1 hm]; exact hmok_)) (by simp) (⟨⟨by show 0 ≤ min m.kind 1; omega, by show min m.kind 1 ≤ 2; omega⟩, hmok_.s1, hmok_.s2, hmok_.n, hmok_.v⟩) (by omega)) H226_ ?_)
                 rintro v228_ p232_ w229_ ⟨rfl, rfl⟩ S231_ H230_
                 have S233_ := Same.trans S219_ S231_
                 rw [show permits [m] (⟨min m.kind 1, m.key, m.end_⟩ : PM) (min m.kind 1) = true from permits_self ⟨⟨by show 0 ≤ min m.kind 1; omega, by show min m.kind 1 ≤ 2; omega⟩, hmok_.s1, hmok_.s2, hmok_.n, hmok_.v⟩ (List.mem_singleton.2 rfl) (by omega) rfl rfl]
                 refine S_list (T_pickT (v := (vB true)) (congrArg vB c214_t) rfl ?_)
                 refine sv (v := (vB true)) (x_assign rfl) ?_
                 refine wpList_nil (X_then (hK191_ _ _ ?_))
                 clear hK191_
                 refine C_ret ?_
                 refine R_any (v := (vB true)) (run_results1 rfl rfl) ?_
                 have H234_ : Holds w229_ (ro R :: cl b165_ 51 [(vI .i64 m.kind), (Value.string m.key), (Value.string m.end_)] :: cl b22_ 51 [(vI .i64 m.kind), (Value.string m.key), (Value.string m.end_)] :: cl b2_ 51 [(vI .i64 m.kind), (Value.string m.key), (Value.string m.end_)] :: F) := Holds.ro_less H230_ hz_R_R221_
                 have H235_ : Holds w229_ (ro R :: F) := (Holds.pkF H234_ [0] 3 :)
                 exact ⟨_, _, rfl, ⟨rfl, rfl⟩, S233_, H235_⟩
                ·skip
                 exact absurd (permits_mono (l := l) (l' := [m] ++ l) (q := (⟨kind, key, end_⟩ : PM)) (kind := kind) (fun p hp => by rw [pivls_mem] at hp ⊢; obtain ⟨x, hx, h1, h2⟩ := hp; exact ⟨x, List.mem_append.2 (.inr hx), h1, h2⟩) (by simpa using c214_f)) (by rw [c192_f]; simp)
              refine AllR.cons ?_ AllR.nil
              refine A_op (ls' := #[true, true, false, true, true, false, true, true, true, false, false]) rfl (by kernel_rfl) (T_new (obj := .cells #[(vI .i64 m.kind), (Value.string m.key), (Value.string m.end_)] 51) (f := fun b__ => .slice (some ⟨b__, 0, none⟩) 1 1) (A := fun b__ => cl b__ 51 [(vI .i64 m.kind), (Value.string m.key), (Value.string m.end_)]) (by kernel_rfl) (fun l h => h.alloc _ _) H155_ ?_)
              intro b236_ w237_ S239_ H238_
              have S240_ := Same.trans S157_ S239_
              refine ⟨⟨Holds.rd H238_ 4 rfl, (Holds.ro_at H238_ 2 rfl)⟩, ?_⟩
              refine A_ready (i := 2) (rs := []) (by kernel_rfl) ?_
              refine AllR.cons ?_ AllR.nil
              have H241_ : Holds w237_ (cl b236_ 51 [(vI .i64 m.kind), (Value.string m.key), (Value.string m.end_)] :: cl b153_ 51 ([] ++ [] ++ []) :: ro R137_ :: cl b22_ 51 [(vI .i64 m.kind), (Value.string m.key), (Value.string m.end_)] :: cl b2_ 51 [(vI .i64 m.kind), (Value.string m.key), (Value.string m.end_)] :: F) := cast1 (P := fun (c__ : List Value) => Holds w237_ (cl b236_ 51 [(vI .i64 m.kind), (Value.string m.key), (Value.string m.end_)] :: cl b153_ 51 c__ :: ro R137_ :: cl b22_ 51 [(vI .i64 m.kind), (Value.string m.key), (Value.string m.end_)] :: cl b2_ 51 [(vI .i64 m.kind), (Value.string m.key), (Value.string m.end_)] :: F)) (by kernel_rfl : [] = [] ++ [] ++ []) H238_
              have H242_ : Holds w237_ (cl b236_ 51 [(vI .i64 m.kind), (Value.string m.key), (Value.string m.end_)] :: sl 51 3 (vS (some ⟨b153_, 0, none⟩) 0 0) 0 [] :: ro R137_ :: cl b22_ 51 [(vI .i64 m.kind), (Value.string m.key), (Value.string m.end_)] :: cl b2_ 51 [(vI .i64 m.kind), (Value.string m.key), (Value.string m.end_)] :: F) := Holds.to_sl H241_ 1 [] [] (xs := []) (m := 0) (cap := 0) (sz := 3) rfl (by kernel_rfl) (by kernel_rfl) (by omega)
              refine A_op (ls' := #[true, true, true, true, true, false, true, true, true, false, false]) rfl (by kernel_rfl) (T_append rfl rfl Try.underlying46 z51 rfl (by decide) H242_ 1 rfl (RS.src (RS.mono hv hz_R_R137_) (Holds.ro_at H242_ 2 rfl) Try.underlying46 (ones_PM _)) (by first | omega | (simp only [List.length_append, List.length_cons, List.length_nil]; omega)) ?_)
              intro v243_ w244_ S246_ H245_
              have S247_ := Same.trans S240_ S246_
              refine ⟨⟨Holds.rd H245_ 4 rfl, (Holds.ro_at H245_ 2 rfl)⟩, ?_⟩
              refine A_ready (i := 5) (rs := []) (by kernel_rfl) ?_
              refine AllR.cons ?_ AllR.nil
              refine A_op (ls' := #[true, true, true, true, true, true, true, true, true, false, false]) rfl (by kernel_rfl) (T_append rfl rfl Try.underlying46 z51 rfl (by decide) H245_ 1 rfl (Holds.cl_src H245_ 0 rfl Try.underlying46 (by simp [Value.oneCell']) rfl) (by first | omega | (simp only [List.length_append, List.length_cons, List.length_nil]; omega)) ?_)
              intro v248_ w249_ S251_ H250_
              have S252_ := Same.trans S247_ S251_
              refine ⟨⟨Holds.rd H250_ 4 rfl, (Holds.ro_at H250_ 2 rfl)⟩, ?_⟩
              refine A_ready (i := 9) (rs := []) (by kernel_rfl) ?_
              refine AllR.cons ?_ AllR.nil
              have H253_ := Holds.resl H250_ 1 rfl (by simp [PM.cells, List.flatMap_append] : ([] ++ (l.flatMap PM.cells)) ++ [(vI .i64 m.kind), (Value.string m.key), (Value.string m.end_)] = (l ++ [m]).flatMap PM.cells) (by first | (simp; done) | (simp; omega) : 0 + (List.length l) + 1 = (List.length (l ++ [m])))
              have H254_ := ((Holds.bring (Holds.bring H253_ 1 rfl) 2 rfl) :)
              obtain ⟨R255_, hs256_, ⟨R257_, ha258_, hs259_⟩, H260_⟩ := Holds.gift H254_
              have hz_R_R255_ := Sub.trans' hz_R_R137_ hs256_
              have hz_R66__R255_ := Sub.trans' hs138_ hs256_
              have hr261_ : RS R255_ 3 v248_ (List.length (l ++ [m])) ((l ++ [m]).flatMap PM.cells) := (sl_RS ha258_ (Sub.rfl' _)).mono hs259_
              refine A_op (ls' := #[true, true, true, true, true, true, true, true, true, true, false]) rfl (by kernel_rfl) (T_call (al := [v248_, (Value.string key), (Value.string end_), (vI .i64 kind)]) (pre := []) rfl rfl cb26 (prPermits R255_ v248_ (l ++ [m]) key end_ kind hr261_ (hbl_) (by first | omega | (simp; omega)) (hqk_) (by first | assumption | omega)) H260_ ?_)
              rintro v262_ p266_ w263_ ⟨rfl, rfl⟩ S265_ H264_
              have S267_ := Same.trans S252_ S265_
              rw [show permits (l ++ [m]) (⟨kind, key, end_⟩ : PM) kind = permits ([m] ++ l) (⟨kind, key, end_⟩ : PM) kind from permits_ext fun p => by rw [pivls_mem, pivls_mem]; constructor <;> (rintro ⟨x, hx, h1, h2⟩; exact ⟨x, by simp at hx ⊢; first | exact hx.symm | exact hx.elim .inr .inl, h1, h2⟩)]
              refine ⟨⟨Holds.rd H264_ 3 rfl, (Sub.trans' hs256_ (Holds.ro_at H264_ 0 rfl))⟩, ?_⟩
              have hq268_ := And.intro (Holds.rd H264_ 3 rfl) ((Sub.trans' hs256_ (Holds.ro_at H264_ 0 rfl)))
              refine A_tk 10 (v := (vB (permits ([m] ++ l) ⟨kind, key, end_⟩ kind))) rfl (by kernel_rfl) (fun w hS => x_assign rfl) hq268_ ?_
              refine A_done (by kernel_rfl) ?_
              refine (X_then (hK150_ _ _ ?_))
              clear hK150_
              refine C_seq (fun K269_ hK269_ => C_reg ?_)
              refine sv (v := (vB (permits ([m] ++ l) ⟨kind, key, end_⟩ kind))) (x_move rfl) ?_
              refine sv (v := (vB (permits ([m] ++ l) ⟨kind, key, end_⟩ kind))) (x_move rfl) ?_
              refine sv (v := (vB true)) (x_cast (x_eqB rfl rfl Try.underlying4) (by simp)) ?_
              refine sv (v := (vB true)) (x_move rfl) ?_
              refine S_yes (j := 3) (dj := 91) (b := true) rfl rfl rfl (T_val (v := (vB (permits ([m] ++ l) ⟨kind, key, end_⟩ kind))) (x_move rfl) ?_)
              refine S_yes (j := 3) (dj := 91) (b := true) rfl rfl rfl (T_val (v := (vB (permits ([m] ++ l) ⟨kind, key, end_⟩ kind))) (x_move rfl) ?_)
              rcases Bool.eq_false_or_eq_true (permits ([m] ++ l) ⟨kind, key, end_⟩ kind) with c270_t | c270_f
              ·skip
               refine S_no (j := 5) (dj := 93) (b := true) rfl rfl (congrArg vB c270_t) (by decide) ?_
               refine S_no (j := 5) (dj := 93) (b := true) rfl rfl (congrArg vB c270_t) (by decide) ?_
               refine S_yes (j := 3) (dj := 91) (b := true) rfl rfl rfl (T_pickT (v := (vB true)) (congrArg vB c270_t) rfl ?_)
               refine S_list (T_pickT (v := (vB true)) rfl rfl ?_)
               refine sv (v := (vB true)) (x_move rfl) ?_
               refine S_yes (j := 10) (dj := 98) (b := true) rfl rfl rfl (T_val (v := (vA #[(vI .i64 m.kind), (Value.string m.key), (Value.string m.end_)])) (x_loadN (vs := [(vI .i64 m.kind), (Value.string m.key), (Value.string m.end_)]) rfl Try.underlying51 rfl z51 rfl (Rd.cells (Holds.rd H264_ 3 rfl) 0 rfl)) ?_)
               refine S_yes (j := 10) (dj := 98) (b := true) rfl rfl rfl (T_new (obj := .cells #[(vI .i64 m.kind), (Value.string m.key), (Value.string m.end_)] 51) (f := fun b__ => .slice (some ⟨b__, 0, none⟩) 1 1) (A := fun b__ => cl b__ 51 [(vI .i64 m.kind), (Value.string m.key), (Value.string m.end_)]) (by kernel_rfl) (fun l h => h.alloc _ _) H264_ ?_)
               intro b271_ w272_ S274_ H273_
               have S275_ := Same.trans S267_ S274_
               refine S_yes (j := 10) (dj := 98) (b := true) rfl rfl rfl (T_val (v := (vP (some ⟨b2_, 1, none⟩))) (by kernel_rfl) ?_)
               refine S_yes (j := 10) (dj := 98) (b := true) rfl rfl rfl (T_val (v := (Value.string m.key)) (x_load1 rfl Try.underlying9 rfl ((Holds.rd H273_ 4 rfl) 1 (Value.string m.key) rfl)) ?_)
               refine S_yes (j := 10) (dj := 98) (b := true) rfl rfl rfl (T_val (v := (vP (some ⟨b2_, 2, none⟩))) (by kernel_rfl) ?_)
               refine S_yes (j := 10) (dj := 98) (b := true) rfl rfl rfl (T_val (v := (Value.string m.end_)) (x_load1 rfl Try.underlying9 rfl ((Holds.rd H273_ 4 rfl) 2 (Value.string m.end_) rfl)) ?_)
               refine S_yes (j := 10) (dj := 98) (b := true) rfl rfl rfl (T_val (v := (vP (some ⟨b2_, 0, none⟩))) (by kernel_rfl) ?_)
               refine S_yes (j := 10) (dj := 98) (b := true) rfl rfl rfl (T_val (v := (vI .i64 m.kind)) (x_load1 rfl Try.underlying3 rfl ((Holds.rd H273_ 4 rfl) 0 (vI .i64 m.kind) rfl)) ?_)
               refine S_yes (j := 10) (dj := 98) (b := true) rfl rfl rfl (T_val (v := (vI .i64 (min m.kind 1))) (x_min2 rfl rfl (min_ite _ _)) ?_)
               have H276_ := ((Holds.bring H273_ 1 rfl) :)
               obtain ⟨R277_, hs278_, ⟨R279_, ha280_, hs281_⟩, H282_⟩ := Holds.gift H276_
               have hz_R_R277_ := Sub.trans' hz_R_R255_ hs278_
               have hz_R66__R277_ := Sub.trans' hz_R66__R255_ hs278_
               have hz_R137__R277_ := Sub.trans' hs256_ hs278_
               have hr283_ : RS R277_ 3 (vS (some ⟨b271_, 0, none⟩) 1 1) 1 ([m].flatMap PM.cells) := (RS.set_ (cl_RSn (sz := 3) ha280_ (Sub.rfl' _) (by rfl) (by omega)) rfl rfl).mono hs281_
               refine S_yes (j := 10) (dj := 98) (b := true) rfl rfl rfl (T_call (al := [((vS (some ⟨b271_, 0, none⟩) 1 1)), (Value.string m.key), (Value.string m.end_), (vI .i64 (min m.kind 1))]) (pre := []) rfl (lcons (rfl : (vS (some ⟨b271_, 0, none⟩) 1 1) = ((vS (some ⟨b271_, 0, none⟩) 1 1))) rfl) cb26 (prPermits R277_ (vS (some ⟨b271_, 0, none⟩) 1 1) [m] m.key m.end_ (min m.kind 1) (RS.set_ hr283_ rfl (by first | rfl | omega | (simp; done) | (simp; omega))) ((fun p hm => by rw [List.mem_singleton.1 hm]; exact hmok_)) (by simp) (⟨⟨by show 0 ≤ min m.kind 1; omega, by show min m.kind 1 ≤ 2; omega⟩, hmok_.s1, hmok_.s2, hmok_.n, hmok_.v⟩) (by omega)) H282_ ?_)
               rintro v284_ p288_ w285_ ⟨rfl, rfl⟩ S287_ H286_
               have S289_ := Same.trans S275_ S287_
               rw [show permits [m] (⟨min m.kind 1, m.key, m.end_⟩ : PM) (min m.kind 1) = true from permits_self ⟨⟨by show 0 ≤ min m.kind 1; omega, by show min m.kind 1 ≤ 2; omega⟩, hmok_.s1, hmok_.s2, hmok_.n, hmok_.v⟩ (List.mem_singleton.2 rfl) (by omega) rfl rfl]
               refine S_list (T_pickT (v := (vB true)) rfl rfl ?_)
               refine sv (v := (vB true)) (x_assign rfl) ?_
               refine wpList_nil (X_then (hK269_ _ _ ?_))
               clear hK269_
               refine C_ret ?_
               refine R_any (v := (vB true)) (run_results1 rfl rfl) ?_
               have H290_ : Holds w285_ (ro R :: cl b236_ 51 [(vI .i64 m.kind), (Value.string m.key), (Value.string m.end_)] :: cl b22_ 51 [(vI .i64 m.kind), (Value.string m.key), (Value.string m.end_)] :: cl b2_ 51 [(vI .i64 m.kind), (Value.string m.key), (Value.string m.end_)] :: F) := Holds.ro_less H286_ hz_R_R277_
               have H291_ : Holds w285_ (ro R :: F) := (Holds.pkF H290_ [0] 3 :)
               exact ⟨_, _, rfl, ⟨rfl, rfl⟩, S289_, H291_⟩
              ·skip
               refine S_yes (j := 5) (dj := 93) (b := false) rfl rfl (congrArg vB c270_f) (T_val (v := (vB (permits l ⟨kind, key, end_⟩ kind))) (x_move rfl) ?_)
               refine S_yes (j := 5) (dj := 93) (b := false) rfl rfl (congrArg vB c270_f) (T_val (v := (vB (!(permits l ⟨kind, key, end_⟩ kind)))) (x_not rfl) ?_)
               refine S_yes (j := 3) (dj := 91) (b := true) rfl rfl rfl (T_pickF (v := (vB (!(permits l ⟨kind, key, end_⟩ kind)))) (congrArg vB c270_f) rfl ?_)
               refine S_list (T_pickT (v := (vB (!(permits l ⟨kind, key, end_⟩ kind)))) rfl rfl ?_)
               refine sv (v := (vB (!(permits l ⟨kind, key, end_⟩ kind)))) (x_move rfl) ?_
               rcases Bool.eq_false_or_eq_true (!(permits l ⟨kind, key, end_⟩ kind)) with c292_t | c292_f
               ·skip
                refine S_yes (j := 10) (dj := 98) (b := true) rfl rfl (congrArg vB c292_t) (T_val (v := (vA #[(vI .i64 m.kind), (Value.string m.key), (Value.string m.end_)])) (x_loadN (vs := [(vI .i64 m.kind), (Value.string m.key), (Value.string m.end_)]) rfl Try.underlying51 rfl z51 rfl (Rd.cells (Holds.rd H264_ 3 rfl) 0 rfl)) ?_)
                refine S_yes (j := 10) (dj := 98) (b := true) rfl rfl (congrArg vB c292_t) (T_new (obj := .cells #[(vI .i64 m.kind), (Value.string m.key), (Value.string m.end_)] 51) (f := fun b__ => .slice (some ⟨b__, 0, none⟩) 1 1) (A := fun b__ => cl b__ 51 [(vI .i64 m.kind), (Value.string m.key), (Value.string m.end_)]) (by kernel_rfl) (fun l h => h.alloc _ _) H264_ ?_)
                intro b293_ w294_ S296_ H295_
                have S297_ := Same.trans S267_ S296_
                refine S_yes (j := 10) (dj := 98) (b := true) rfl rfl (congrArg vB c292_t) (T_val (v := (vP (some ⟨b2_, 1, none⟩))) (by kernel_rfl) ?_)
                refine S_yes (j := 10) (dj := 98) (b := true) rfl rfl (congrArg vB c292_t) (T_val (v := (Value.string m.key)) (x_load1 rfl Try.underlying9 rfl ((Holds.rd H295_ 4 rfl) 1 (Value.string m.key) rfl)) ?_)
                refine S_yes (j := 10) (dj := 98) (b := true) rfl rfl (congrArg vB c292_t) (T_val (v := (vP (some ⟨b2_, 2, none⟩))) (by kernel_rfl) ?_)
                refine S_yes (j := 10) (dj := 98) (b := true) rfl rfl (congrArg vB c292_t) (T_val (v := (Value.string m.end_)) (x_load1 rfl Try.underlying9 rfl ((Holds.rd H295_ 4 rfl) 2 (Value.string m.end_) rfl)) ?_)
                refine S_yes (j := 10) (dj := 98) (b := true) rfl rfl (congrArg vB c292_t) (T_val (v := (vP (some ⟨b2_, 0, none⟩))) (by kernel_rfl) ?_)
                refine S_yes (j := 10) (dj := 98) (b := true) rfl rfl (congrArg vB c292_t) (T_val (v := (vI .i64 m.kind)) (x_load1 rfl Try.underlying3 rfl ((Holds.rd H295_ 4 rfl) 0 (vI .i64 m.kind) rfl)) ?_)
                refine S_yes (j := 10) (dj := 98) (b := true) rfl rfl (congrArg vB c292_t) (T_val (v := (vI .i64 (min m.kind 1))) (x_min2 rfl rfl (min_ite _ _)) ?_)
                have H298_ := ((Holds.bring H295_ 1 rfl) :)
                obtain ⟨R299_, hs300_, ⟨R301_, ha302_, hs303_⟩, H304_⟩ := Holds.gift H298_
                have hz_R_R299_ := Sub.trans' hz_R_R255_ hs300_
                have hz_R66__R299_ := Sub.trans' hz_R66__R255_ hs300_
                have hz_R137__R299_ := Sub.trans' hs256_ hs300_
                have hr305_ : RS R299_ 3 (vS (some ⟨b293_, 0, none⟩) 1 1) 1 ([m].flatMap PM.cells) := (RS.set_ (cl_RSn (sz := 3) ha302_ (Sub.rfl' _) (by rfl) (by omega)) rfl rfl).mono hs303_
                refine S_yes (j := 10) (dj := 98) (b := true) rfl rfl (congrArg vB c292_t) (T_call (al := [((vS (some ⟨b293_, 0, none⟩) 1 1)), (Value.string m.key), (Value.string m.end_), (vI .i64 (min m.kind 1))]) (pre := []) rfl (lcons (rfl : (vS (some ⟨b293_, 0, none⟩) 1 1) = ((vS (some ⟨b293_, 0, none⟩) 1 1))) rfl) cb26 (prPermits R299_ (vS (some ⟨b293_, 0, none⟩) 1 1) [m] m.key m.end_ (min m.kind 1) (RS.set_ hr305_ rfl (by first | rfl | omega | (simp; done) | (simp; omega))) ((fun p hm => by rw [List.mem_singleton.1 hm]; exact hmok_)) (by simp) (⟨⟨by show 0 ≤ min m.kind 1; omega, by show min m.kind 1 ≤ 2; omega⟩, hmok_.s1, hmok_.s2, hmok_.n, hmok_.v⟩) (by omega)) H304_ ?_)
                rintro v306_ p310_ w307_ ⟨rfl, rfl⟩ S309_ H308_
                have S311_ := Same.trans S297_ S309_
                rw [show permits [m] (⟨min m.kind 1, m.key, m.end_⟩ : PM) (min m.kind 1) = true from permits_self ⟨⟨by show 0 ≤ min m.kind 1; omega, by show min m.kind 1 ≤ 2; omega⟩, hmok_.s1, hmok_.s2, hmok_.n, hmok_.v⟩ (List.mem_singleton.2 rfl) (by omega) rfl rfl]
                refine S_list (T_pickT (v := (vB true)) (congrArg vB c292_t) rfl ?_)
                refine sv (v := (vB true)) (x_assign rfl) ?_
                refine wpList_nil (X_then (hK269_ _ _ ?_))
                clear hK269_
                refine C_ret ?_
                refine R_any (v := (vB true)) (run_results1 rfl rfl) ?_
                have H312_ : Holds w307_ (ro R :: cl b236_ 51 [(vI .i64 m.kind), (Value.string m.key), (Value.string m.end_)] :: cl b22_ 51 [(vI .i64 m.kind), (Value.string m.key), (Value.string m.end_)] :: cl b2_ 51 [(vI .i64 m.kind), (Value.string m.key), (Value.string m.end_)] :: F) := Holds.ro_less H308_ hz_R_R299_
                have H313_ : Holds w307_ (ro R :: F) := (Holds.pkF H312_ [0] 3 :)
                exact ⟨_, _, rfl, ⟨rfl, rfl⟩, S311_, H313_⟩
               ·skip
                exact absurd (permits_mono (l := l) (l' := [m] ++ l) (q := (⟨kind, key, end_⟩ : PM)) (kind := kind) (fun p hp => by rw [pivls_mem] at hp ⊢; obtain ⟨x, hx, h1, h2⟩ := hp; exact ⟨x, List.mem_append.2 (.inr hx), h1, h2⟩) (by simpa using c292_f)) (by rw [c270_f]; simp)
             refine AllR.cons ?_ AllR.nil
             refine A_op (ls' := #[false, true, false, true, true, false, true, true, true, false, false]) rfl (by kernel_rfl) (T_new (obj := .cells #[(vI .i64 m.kind), (Value.string m.key), (Value.string m.end_)] 51) (f := fun b__ => .slice (some ⟨b__, 0, none⟩) 1 1) (A := fun b__ => cl b__ 51 [(vI .i64 m.kind), (Value.string m.key), (Value.string m.end_)]) (by kernel_rfl) (fun l h => h.alloc _ _) H151_ ?_)
             intro b314_ w315_ S317_ H316_
             have S318_ := Same.trans (Same.trans S149_ (Same.drew _)) S317_
             refine ⟨⟨Holds.rd H316_ 3 rfl, (Holds.ro_at H316_ 1 rfl)⟩, ?_⟩
             refine A_ready (i := 0) (rs := []) (by kernel_rfl) ?_
             refine AllR.cons ?_ AllR.nil
             refine A_op (ls' := #[true, true, false, true, true, false, true, true, true, false, false]) rfl (by kernel_rfl) (T_new (obj := .cells #[] 51) (f := fun b__ => .slice (some ⟨b__, 0, none⟩) 0 0) (A := fun b__ => cl b__ 51 []) (by kernel_rfl) (fun l h => h.alloc _ _) H316_ ?_)
             intro b319_ w320_ S322_ H321_
             have S323_ := Same.trans S318_ S322_
             refine ⟨⟨Holds.rd H321_ 4 rfl, (Holds.ro_at H321_ 2 rfl)⟩, ?_⟩
             refine A_ready (i := 2) (rs := []) (by kernel_rfl) ?_
             refine AllR.cons ?_ AllR.nil
             have H324_ : Holds w320_ (cl b319_ 51 ([] ++ [] ++ []) :: cl b314_ 51 [(vI .i64 m.kind), (Value.string m.key), (Value.string m.end_)] :: ro R137_ :: cl b22_ 51 [(vI .i64 m.kind), (Value.string m.key), (Value.string m.end_)] :: cl b2_ 51 [(vI .i64 m.kind), (Value.string m.key), (Value.string m.end_)] :: F) := cast1 (P := fun (c__ : List Value) => Holds w320_ (cl b319_ 51 c__ :: cl b314_ 51 [(vI .i64 m.kind), (Value.string m.key), (Value.string m.end_)] :: ro R137_ :: cl b22_ 51 [(vI .i64 m.kind), (Value.string m.key), (Value.string m.end_)] :: cl b2_ 51 [(vI .i64 m.kind), (Value.string m.key), (Value.string m.end_)] :: F)) (by kernel_rfl : [] = [] ++ [] ++ []) H321_
             have H325_ : Holds w320_ (sl 51 3 (vS (some ⟨b319_, 0, none⟩) 0 0) 0 [] :: cl b314_ 51 [(vI .i64 m.kind), (Value.string m.key), (Value.string m.end_)] :: ro R137_ :: cl b22_ 51 [(vI .i64 m.kind), (Value.string m.key), (Value.string m.end_)] :: cl b2_ 51 [(vI .i64 m.kind), (Value.string m.key), (Value.string m.end_)] :: F) := Holds.to_sl H324_ 0 [] [] (xs := []) (m := 0) (cap := 0) (sz := 3) rfl (by kernel_rfl) (by kernel_rfl) (by omega)
             refine A_op (ls' := #[true, true, true, true, true, false, true, true, true, false, false]) rfl (by kernel_rfl) (T_append rfl rfl Try.underlying46 z51 rfl (by decide) H325_ 0 rfl (RS.src (RS.mono hv hz_R_R137_) (Holds.ro_at H325_ 2 rfl) Try.underlying46 (ones_PM _)) (by first | omega | (simp only [List.length_append, List.length_cons, List.length_nil]; omega)) ?_)
             intro v326_ w327_ S329_ H328_
             have S330_ := Same.trans S323_ S329_
             refine ⟨⟨Holds.rd H328_ 4 rfl, (Holds.ro_at H328_ 2 rfl)⟩, ?_⟩
             refine A_ready (i := 5) (rs := []) (by kernel_rfl) ?_
             refine AllR.cons ?_ AllR.nil
             refine A_op (ls' := #[true, true, true, true, true, true, true, true, true, false, false]) rfl (by kernel_rfl) (T_append rfl rfl Try.underlying46 z51 rfl (by decide) H328_ 0 rfl (Holds.cl_src H328_ 1 rfl Try.underlying46 (by simp [Value.oneCell']) rfl) (by first | omega | (simp only [List.length_append, List.length_cons, List.length_nil]; omega)) ?_)
             intro v331_ w332_ S334_ H333_
             have S335_ := Same.trans S330_ S334_
             refine ⟨⟨Holds.rd H333_ 4 rfl, (Holds.ro_at H333_ 2 rfl)⟩, ?_⟩
             refine A_ready (i := 9) (rs := []) (by kernel_rfl) ?_
             refine AllR.cons ?_ AllR.nil
             have H336_ := Holds.resl H333_ 0 rfl (by simp [PM.cells, List.flatMap_append] : ([] ++ (l.flatMap PM.cells)) ++ [(vI .i64 m.kind), (Value.string m.key), (Value.string m.end_)] = (l ++ [m]).flatMap PM.cells) (by first | (simp; done) | (simp; omega) : 0 + (List.length l) + 1 = (List.length (l ++ [m])))
             have H337_ := ((Holds.bring H336_ 2 rfl) :)
             obtain ⟨R338_, hs339_, ⟨R340_, ha341_, hs342_⟩, H343_⟩ := Holds.gift H337_
             have hz_R_R338_ := Sub.trans' hz_R_R137_ hs339_
             have hz_R66__R338_ := Sub.trans' hs138_ hs339_
             have hr344_ : RS R338_ 3 v331_ (List.length (l ++ [m])) ((l ++ [m]).flatMap PM.cells) := (sl_RS ha341_ (Sub.rfl' _)).mono hs342_
             refine A_op (ls' := #[true, true, true, true, true, true, true, true, true, true, false]) rfl (by kernel_rfl) (T_call (al := [v331_, (Value.string key), (Value.string end_), (vI .i64 kind)]) (pre := []) rfl rfl cb26 (prPermits R338_ v331_ (l ++ [m]) key end_ kind hr344_ (hbl_) (by first | omega | (simp; omega)) (hqk_) (by first | assumption | omega)) H343_ ?_)
             rintro v345_ p349_ w346_ ⟨rfl, rfl⟩ S348_ H347_
             have S350_ := Same.trans S335_ S348_
             rw [show permits (l ++ [m]) (⟨kind, key, end_⟩ : PM) kind = permits ([m] ++ l) (⟨kind, key, end_⟩ : PM) kind from permits_ext fun p => by rw [pivls_mem, pivls_mem]; constructor <;> (rintro ⟨x, hx, h1, h2⟩; exact ⟨x, by simp at hx ⊢; first | exact hx.symm | exact hx.elim .inr .inl, h1, h2⟩)]
             refine ⟨⟨Holds.rd H347_ 3 rfl, (Sub.trans' hs339_ (Holds.ro_at H347_ 0 rfl))⟩, ?_⟩
             have hq351_ := And.intro (Holds.rd H347_ 3 rfl) ((Sub.trans' hs339_ (Holds.ro_at H347_ 0 rfl)))
             refine A_tk 10 (v := (vB (permits ([m] ++ l) ⟨kind, key, end_⟩ kind))) rfl (by kernel_rfl) (fun w hS => x_assign rfl) hq351_ ?_
             refine A_done (by kernel_rfl) ?_
             refine (X_then (hK150_ _ _ ?_))
             clear hK150_
             refine C_seq (fun K352_ hK352_ => C_reg ?_)
             refine sv (v := (vB (permits ([m] ++ l) ⟨kind, key, end_⟩ kind))) (x_move rfl) ?_
             refine sv (v := (vB (permits ([m] ++ l) ⟨kind, key, end_⟩ kind))) (x_move rfl) ?_
             refine sv (v := (vB true)) (x_cast (x_eqB rfl rfl Try.underlying4) (by simp)) ?_
             refine sv (v := (vB true)) (x_move rfl) ?_
             refine S_yes (j := 3) (dj := 91) (b := true) rfl rfl rfl (T_val (v := (vB (permits ([m] ++ l) ⟨kind, key, end_⟩ kind))) (x_move rfl) ?_)
             refine S_yes (j := 3) (dj := 91) (b := true) rfl rfl rfl (T_val (v := (vB (permits ([m] ++ l) ⟨kind, key, end_⟩ kind))) (x_move rfl) ?_)
             rcases Bool.eq_false_or_eq_true (permits ([m] ++ l) ⟨kind, key, end_⟩ kind) with c353_t | c353_f
             ·skip
              refine S_no (j := 5) (dj := 93) (b := true) rfl rfl (congrArg vB c353_t) (by decide) ?_
              refine S_no (j := 5) (dj := 93) (b := true) rfl rfl (congrArg vB c353_t) (by decide) ?_
              refine S_yes (j := 3) (dj := 91) (b := true) rfl rfl rfl (T_pickT (v := (vB true)) (congrArg vB c353_t) rfl ?_)
              refine S_list (T_pickT (v := (vB true)) rfl rfl ?_)
              refine sv (v := (vB true)) (x_move rfl) ?_
              refine S_yes (j := 10) (dj := 98) (b := true) rfl rfl rfl (T_val (v := (vA #[(vI .i64 m.kind), (Value.string m.key), (Value.string m.end_)])) (x_loadN (vs := [(vI .i64 m.kind), (Value.string m.key), (Value.string m.end_)]) rfl Try.underlying51 rfl z51 rfl (Rd.cells (Holds.rd H347_ 3 rfl) 0 rfl)) ?_)
              refine S_yes (j := 10) (dj := 98) (b := true) rfl rfl rfl (T_new (obj := .cells #[(vI .i64 m.kind), (Value.string m.key), (Value.string m.end_)] 51) (f := fun b__ => .slice (some ⟨b__, 0, none⟩) 1 1) (A := fun b__ => cl b__ 51 [(vI .i64 m.kind), (Value.string m.key), (Value.string m.end_)]) (by kernel_rfl) (fun l h => h.alloc _ _) H347_ ?_)
              intro b354_ w355_ S357_ H356_
              have S358_ := Same.trans S350_ S357_
              refine S_yes (j := 10) (dj := 98) (b := true) rfl rfl rfl (T_val (v := (vP (some ⟨b2_, 1, none⟩))) (by kernel_rfl) ?_)
              refine S_yes (j := 10) (dj := 98) (b := true) rfl rfl rfl (T_val (v := (Value.string m.key)) (x_load1 rfl Try.underlying9 rfl ((Holds.rd H356_ 4 rfl) 1 (Value.string m.key) rfl)) ?_)
              refine S_yes (j := 10) (dj := 98) (b := true) rfl rfl rfl (T_val (v := (vP (some ⟨b2_, 2, none⟩))) (by kernel_rfl) ?_)
              refine S_yes (j := 10) (dj := 98) (b := true) rfl rfl rfl (T_val (v := (Value.string m.end_)) (x_load1 rfl Try.underlying9 rfl ((Holds.rd H356_ 4 rfl) 2 (Value.string m.end_) rfl)) ?_)
              refine S_yes (j := 10) (dj := 98) (b := true) rfl rfl rfl (T_val (v := (vP (some ⟨b2_, 0, none⟩))) (by kernel_rfl) ?_)
              refine S_yes (j := 10) (dj := 98) (b := true) rfl rfl rfl (T_val (v := (vI .i64 m.kind)) (x_load1 rfl Try.underlying3 rfl ((Holds.rd H356_ 4 rfl) 0 (vI .i64 m.kind) rfl)) ?_)
              refine S_yes (j := 10) (dj := 98) (b := true) rfl rfl rfl (T_val (v := (vI .i64 (min m.kind 1))) (x_min2 rfl rfl (min_ite _ _)) ?_)
              have H359_ := ((Holds.bring H356_ 1 rfl) :)
              obtain ⟨R360_, hs361_, ⟨R362_, ha363_, hs364_⟩, H365_⟩ := Holds.gift H359_
              have hz_R_R360_ := Sub.trans' hz_R_R338_ hs361_
              have hz_R66__R360_ := Sub.trans' hz_R66__R338_ hs361_
              have hz_R137__R360_ := Sub.trans' hs339_ hs361_
              have hr366_ : RS R360_ 3 (vS (some ⟨b354_, 0, none⟩) 1 1) 1 ([m].flatMap PM.cells) := (RS.set_ (cl_RSn (sz := 3) ha363_ (Sub.rfl' _) (by rfl) (by omega)) rfl rfl).mono hs364_
              refine S_yes (j := 10) (dj := 98) (b := true) rfl rfl rfl (T_call (al := [((vS (some ⟨b354_, 0, none⟩) 1 1)), (Value.string m.key), (Value.string m.end_), (vI .i64 (min m.kind 1))]) (pre := []) rfl (lcons (rfl : (vS (some ⟨b354_, 0, none⟩) 1 1) = ((vS (some ⟨b354_, 0, none⟩) 1 1))) rfl) cb26 (prPermits R360_ (vS (some ⟨b354_, 0, none⟩) 1 1) [m] m.key m.end_ (min m.kind 1) (RS.set_ hr366_ rfl (by first | rfl | omega | (simp; done) | (simp; omega))) ((fun p hm => by rw [List.mem_singleton.1 hm]; exact hmok_)) (by simp) (⟨⟨by show 0 ≤ min m.kind 1; omega, by show min m.kind 1 ≤ 2; omega⟩, hmok_.s1, hmok_.s2, hmok_.n, hmok_.v⟩) (by omega)) H365_ ?_)
              rintro v367_ p371_ w368_ ⟨rfl, rfl⟩ S370_ H369_
              have S372_ := Same.trans S358_ S370_
              rw [show permits [m] (⟨min m.kind 1, m.key, m.end_⟩ : PM) (min m.kind 1) = true from permits_self ⟨⟨by show 0 ≤ min m.kind 1; omega, by show min m.kind 1 ≤ 2; omega⟩, hmok_.s1, hmok_.s2, hmok_.n, hmok_.v⟩ (List.mem_singleton.2 rfl) (by omega) rfl rfl]
              refine S_list (T_pickT (v := (vB true)) rfl rfl ?_)
              refine sv (v := (vB true)) (x_assign rfl) ?_
              refine wpList_nil (X_then (hK352_ _ _ ?_))
              clear hK352_
              refine C_ret ?_
              refine R_any (v := (vB true)) (run_results1 rfl rfl) ?_
              have H373_ : Holds w368_ (ro R :: cl b314_ 51 [(vI .i64 m.kind), (Value.string m.key), (Value.string m.end_)] :: cl b22_ 51 [(vI .i64 m.kind), (Value.string m.key), (Value.string m.end_)] :: cl b2_ 51 [(vI .i64 m.kind), (Value.string m.key), (Value.string m.end_)] :: F) := Holds.ro_less H369_ hz_R_R360_
              have H374_ : Holds w368_ (ro R :: F) := (Holds.pkF H373_ [0] 3 :)
              exact ⟨_, _, rfl, ⟨rfl, rfl⟩, S372_, H374_⟩
             ·skip
              refine S_yes (j := 5) (dj := 93) (b := false) rfl rfl (congrArg vB c353_f) (T_val (v := (vB (permits l ⟨kind, key, end_⟩ kind))) (x_move rfl) ?_)
              refine S_yes (j := 5) (dj := 93) (b := false) rfl rfl (congrArg vB c353_f) (T_val (v := (vB (!(permits l ⟨kind, key, end_⟩ kind)))) (x_not rfl) ?_)
              refine S_yes (j := 3) (dj := 91) (b := true) rfl rfl rfl (T_pickF (v := (vB (!(permits l ⟨kind, key, end_⟩ kind)))) (congrArg vB c353_f) rfl ?_)
              refine S_list (T_pickT (v := (vB (!(permits l ⟨kind, key, end_⟩ kind)))) rfl rfl ?_)
              refine sv (v := (vB (!(permits l ⟨kind, key, end_⟩ kind)))) (x_move rfl) ?_
              rcases Bool.eq_false_or_eq_true (!(permits l ⟨kind, key, end_⟩ kind)) with c375_t | c375_f
              ·skip
               refine S_yes (j := 10) (dj := 98) (b := true) rfl rfl (congrArg vB c375_t) (T_val (v := (vA #[(vI .i64 m.kind), (Value.string m.key), (Value.string m.end_)])) (x_loadN (vs := [(vI .i64 m.kind), (Value.string m.key), (Value.string m.end_)]) rfl Try.underlying51 rfl z51 rfl (Rd.cells (Holds.rd H347_ 3 rfl) 0 rfl)) ?_)
               refine S_yes (j := 10) (dj := 98) (b := true) rfl rfl (congrArg vB c375_t) (T_new (obj := .cells #[(vI .i64 m.kind), (Value.string m.key), (Value.string m.end_)] 51) (f := fun b__ => .slice (some ⟨b__, 0, none⟩) 1 1) (A := fun b__ => cl b__ 51 [(vI .i64 m.kind), (Value.string m.key), (Value.string m.end_)]) (by kernel_rfl) (fun l h => h.alloc _ _) H347_ ?_)
               intro b376_ w377_ S379_ H378_
               have S380_ := Same.trans S350_ S379_
               refine S_yes (j := 10) (dj := 98) (b := true) rfl rfl (congrArg vB c375_t) (T_val (v := (vP (some ⟨b2_, 1, none⟩))) (by kernel_rfl) ?_)
               refine S_yes (j := 10) (dj := 98) (b := true) rfl rfl (congrArg vB c375_t) (T_val (v := (Value.string m.key)) (x_load1 rfl Try.underlying9 rfl ((Holds.rd H378_ 4 rfl) 1 (Value.string m.key) rfl)) ?_)
               refine S_yes (j := 10) (dj := 98) (b := true) rfl rfl (congrArg vB c375_t) (T_val (v := (vP (some ⟨b2_, 2, none⟩))) (by kernel_rfl) ?_)
               refine S_yes (j := 10) (dj := 98) (b := true) rfl rfl (congrArg vB c375_t) (T_val (v := (Value.string m.end_)) (x_load1 rfl Try.underlying9 rfl ((Holds.rd H378_ 4 rfl) 2 (Value.string m.end_) rfl)) ?_)
               refine S_yes (j := 10) (dj := 98) (b := true) rfl rfl (congrArg vB c375_t) (T_val (v := (vP (some ⟨b2_, 0, none⟩))) (by kernel_rfl) ?_)
               refine S_yes (j := 10) (dj := 98) (b := true) rfl rfl (congrArg vB c375_t) (T_val (v := (vI .i64 m.kind)) (x_load1 rfl Try.underlying3 rfl ((Holds.rd H378_ 4 rfl) 0 (vI .i64 m.kind) rfl)) ?_)
               refine S_yes (j := 10) (dj := 98) (b := true) rfl rfl (congrArg vB c375_t) (T_val (v := (vI .i64 (min m.kind 1))) (x_min2 rfl rfl (min_ite _ _)) ?_)
               have H381_ := ((Holds.bring H378_ 1 rfl) :)
               obtain ⟨R382_, hs383_, ⟨R384_, ha385_, hs386_⟩, H387_⟩ := Holds.gift H381_
               have hz_R_R382_ := Sub.trans' hz_R_R338_ hs383_
               have hz_R66__R382_ := Sub.trans' hz_R66__R338_ hs383_
               have hz_R137__R382_ := Sub.trans' hs339_ hs383_
               have hr388_ : RS R382_ 3 (vS (some ⟨b376_, 0, none⟩) 1 1) 1 ([m].flatMap PM.cells) := (RS.set_ (cl_RSn (sz := 3) ha385_ (Sub.rfl' _) (by rfl) (by omega)) rfl rfl).mono hs386_
               refine S_yes (j := 10) (dj := 98) (b := true) rfl rfl (congrArg vB c375_t) (T_call (al := [((vS (some ⟨b376_, 0, none⟩) 1 1)), (Value.string m.key), (Value.string m.end_), (vI .i64 (min m.kind 1))]) (pre := []) rfl (lcons (rfl : (vS (some ⟨b376_, 0, none⟩) 1 1) = ((vS (some ⟨b376_, 0, none⟩) 1 1))) rfl) cb26 (prPermits R382_ (vS (some ⟨b376_, 0, none⟩) 1 1) [m] m.key m.end_ (min m.kind 1) (RS.set_ hr388_ rfl (by first | rfl | omega | (simp; done) | (simp; omega))) ((fun p hm => by rw [List.mem_singleton.1 hm]; exact hmok_)) (by simp) (⟨⟨by show 0 ≤ min m.kind 1; omega, by show min m.kind 1 ≤ 2; omega⟩, hmok_.s1, hmok_.s2, hmok_.n, hmok_.v⟩) (by omega)) H387_ ?_)
               rintro v389_ p393_ w390_ ⟨rfl, rfl⟩ S392_ H391_
               have S394_ := Same.trans S380_ S392_
               rw [show permits [m] (⟨min m.kind 1, m.key, m.end_⟩ : PM) (min m.kind 1) = true from permits_self ⟨⟨by show 0 ≤ min m.kind 1; omega, by show min m.kind 1 ≤ 2; omega⟩, hmok_.s1, hmok_.s2, hmok_.n, hmok_.v⟩ (List.mem_singleton.2 rfl) (by omega) rfl rfl]
               refine S_list (T_pickT (v := (vB true)) (congrArg vB c375_t) rfl ?_)
               refine sv (v := (vB true)) (x_assign rfl) ?_
               refine wpList_nil (X_then (hK352_ _ _ ?_))
               clear hK352_
               refine C_ret ?_
               refine R_any (v := (vB true)) (run_results1 rfl rfl) ?_
               have H395_ : Holds w390_ (ro R :: cl b314_ 51 [(vI .i64 m.kind), (Value.string m.key), (Value.string m.end_)] :: cl b22_ 51 [(vI .i64 m.kind), (Value.string m.key), (Value.string m.end_)] :: cl b2_ 51 [(vI .i64 m.kind), (Value.string m.key), (Value.string m.end_)] :: F) := Holds.ro_less H391_ hz_R_R382_
               have H396_ : Holds w390_ (ro R :: F) := (Holds.pkF H395_ [0] 3 :)
               exact ⟨_, _, rfl, ⟨rfl, rfl⟩, S394_, H396_⟩
              ·skip
               exact absurd (permits_mono (l := l) (l' := [m] ++ l) (q := (⟨kind, key, end_⟩ : PM)) (kind := kind) (fun p hp => by rw [pivls_mem] at hp ⊢; obtain ⟨x, hx, h1, h2⟩ := hp; exact ⟨x, List.mem_append.2 (.inr hx), h1, h2⟩) (by simpa using c375_f)) (by rw [c353_f]; simp)
end Go.Proofs.Ytlnihndjepjagaa
