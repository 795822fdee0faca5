/- What a queue of leases answers. -/
import Derived.Test.YtgeggiebefonhaaQuL
set_option linter.unusedVariables false
set_option linter.unusedSimpArgs false
namespace Go.Proofs.Ytgeggiebefonhaa
open Go Go.RowKit Gw

set_option maxHeartbeats 400000 in
theorem qOps (R : HP) (v : Value) (l : List QOp) (hV : RS R 3 v l.length (l.flatMap QOp.cells)) (hl : l.length ≤ 1000) :
    Tri Try.prog 8 #[v] R [] (fun v__ post__ => ∃ (b : Bool), v__ = (Value.bool b) ∧ post__ = [] ∧ (b = true → l.length ≤ 200 ∧ (∀ x ∈ l, 1 ≤ x.kind ∧ x.kind ≤ 4 ∧ 0 ≤ x.at_ ∧ x.at_ ≤ 1152921504606846976))) := by
  refine Tri.into (n := 33) (al := [v]) Try.func8 rfl Try.ntmps8 rfl rfl fun w F H => ?_
  replace H : Holds w (ro R :: F) := H
  refine C_seq (fun K1_ hK1_ => ?_)
  refine C_reg ?_
  refine S_list (T_val (v := (Value.bool false)) (x_assign rfl) ?_)
  refine wpList_nil ?_
  refine (X_then (hK1_ _ _ ?_))
  clear hK1_
  refine C_seq (fun K2_ hK2_ => ?_)
  refine C_seq (fun K3_ hK3_ => ?_)
  refine C_reg ?_
  refine S_list (T_val (v := v) (x_move rfl) ?_)
  refine S_list (T_val (v := (Value.int .i64 (l.length : Int))) (x_lenRS rfl hV Try.underlying23) ?_)
  refine S_list (T_val (v := (Value.int .i64 0)) (x_move rfl) ?_)
  refine wpList_nil ?_
  refine (X_then (hK3_ _ _ ?_))
  clear hK3_
  refine C_block ?_
  refine C_loop (γ := Nat × Bool) (fun x a w1 => match x with | ⟨k, t2_v⟩ => ∃ h : Env, a = mkA 33 (upd (upd (upd (upd (upd h 0 v) 2 (Value.bool t2_v)) 5 v) 6 (Value.int .i64 (l.length : Int))) 7 (Value.int .i64 (k : Int))) [] ∧ Holds w1 (ro R :: F) ∧ Same w w1 ∧ (k ≤ l.length) ∧ (∀ (i : Nat) (x : QOp), i < k → l[i]? = some x → 1 ≤ x.kind ∧ x.kind ≤ 4 ∧ 0 ≤ x.at_ ∧ x.at_ ≤ 1152921504606846976)) (fun x => match x with | ⟨k, t2_v⟩ => l.length - k) (⟨0, false⟩) ⟨_, congrArg (fun e => mkA 33 e []) (ch (ch (ch (ch (ch rfl rfl) rfl) rfl) rfl) (congrArg (Value.int .i64) ((by first | rfl | omega | (simp; done) | (simp; omega)) : 0 = (0 : Int)))), H, (Same.refl w), (by first | assumption | omega | exact rfl), (fun i x h => by omega)⟩ ?_
  rintro ⟨k, t2_v⟩ _ w4_ ⟨h, rfl, H5_, S6_, hk, hall⟩
  refine C_seq (fun K7_ hK7_ => ?_)
  refine C_reg ?_
  refine S_list (T_val (v := (Value.bool (decide ((k : Int) < (l.length : Int))))) (x_bin rfl rfl rfl) ?_)
  refine wpList_nil ?_
  refine (X_then (hK7_ _ _ ?_))
  clear hK7_
  refine C_seq (fun K8_ hK8_ => ?_)
  refine C_cond (b := decide ((k : Int) < (l.length : Int))) rfl (fun c9_t => ?_) (fun c9_f => ?_)
  · have c9_tp : (k : Int) < (l.length : Int) := of_decide_eq_true c9_t
    refine C_skip (X_then (hK8_ _ _ ?_))
    clear hK8_
    refine C_seq (fun K10_ hK10_ => ?_)
    refine C_block ?_
    refine C_seq (fun K11_ hK11_ => ?_)
    refine C_reg ?_
    obtain ⟨x12_, hx13_, hm14_⟩ := elem_at l k (by omega)
    refine S_list (T_val (v := (Value.pointer (some ⟨(sb v), so v + (k * 3 + 0), none⟩))) (x_idxRS (v := v) rfl hV rfl Try.underlying23 z25 (by omega) (by omega) (by omega : _ = k) rfl) ?_)
    refine S_list (T_val (v := (Value.agg #[(Value.int .i64 x12_.kind), (Value.int .i64 x12_.iD), (Value.int .i64 x12_.at_)])) (x_loadN (vs := [(Value.int .i64 x12_.kind), (Value.int .i64 x12_.iD), (Value.int .i64 x12_.at_)]) rfl Try.underlying25 rfl z25 rfl (RC.cells (RS.rc hV) (Holds.ro_at H5_ 0 rfl) (k * 3 + 0) (fm_cells QOp.len hx13_ (i := 0) rfl))) ?_)
    refine S_list (T_alloc z25 H5_ ?_)
    intro b15_ w16_ S18_ H17_
    replace H17_ : Holds w16_ (cl b15_ 25 [(Value.int .i64 0), (Value.int .i64 0), (Value.int .i64 0)] :: ro R :: F) := H17_
    have S19_ := Same.trans S6_ S18_
    refine S_list0 (T_storeN (vs := [(Value.int .i64 x12_.kind), (Value.int .i64 x12_.iD), (Value.int .i64 x12_.at_)]) rfl rfl z25 rfl (by simp [Value.oneCell']) H17_ 0 rfl (Nat.le_of_ble_eq_true (by rfl)) ?_)
    intro w20_ S22_ H21_
    replace H21_ : Holds w20_ (cl b15_ 25 [(Value.int .i64 x12_.kind), (Value.int .i64 x12_.iD), (Value.int .i64 x12_.at_)] :: ro R :: F) := H21_
    have S23_ := Same.trans S19_ S22_
    refine wpList_nil ?_
    refine (X_then (hK11_ _ _ ?_))
    clear hK11_
    refine C_seq (fun K24_ hK24_ => ?_)
    refine C_reg ?_
    refine S_list (T_val (v := (Value.pointer (some ⟨b15_, 0, none⟩))) (by kernel_rfl) ?_)
    refine S_list (T_val (v := (Value.int .i64 x12_.kind)) (x_load1 rfl Try.underlying3 rfl ((Holds.rd H21_ 0 rfl) 0 (Value.int .i64 x12_.kind) rfl)) ?_)
    refine S_list (T_val (v := (Value.bool (decide (x12_.kind < 1)))) (x_bin rfl rfl rfl) ?_)
    refine S_list (T_val (v := (Value.bool (decide (x12_.kind < 1)))) (x_move rfl) ?_)
    rcases Bool.eq_false_or_eq_true (decide (x12_.kind < 1)) with c25_t | c25_f
    · have c25_tp : x12_.kind < 1 := of_decide_eq_true c25_t
      refine S_no (j := 3) (dj := 14) (b := true) rfl rfl (congrArg Value.bool c25_t) (by decide) ?_
      refine S_no (j := 3) (dj := 14) (b := true) rfl rfl (congrArg Value.bool c25_t) (by decide) ?_
      refine S_no (j := 3) (dj := 14) (b := true) rfl rfl (congrArg Value.bool c25_t) (by decide) ?_
      refine S_list (T_pickT (v := (Value.bool true)) (congrArg Value.bool c25_t) rfl ?_)
      refine S_list (T_val (v := (Value.bool true)) (x_move rfl) ?_)
      refine S_no (j := 8) (dj := 19) (b := true) rfl rfl rfl (by decide) ?_
      refine S_no (j := 8) (dj := 19) (b := true) rfl rfl rfl (by decide) ?_
      refine S_no (j := 8) (dj := 19) (b := true) rfl rfl rfl (by decide) ?_
      refine S_list (T_pickT (v := (Value.bool true)) rfl rfl ?_)
      refine S_list (T_val (v := (Value.bool true)) (x_move rfl) ?_)
      refine S_no (j := 13) (dj := 24) (b := true) rfl rfl rfl (by decide) ?_
      refine S_no (j := 13) (dj := 24) (b := true) rfl rfl rfl (by decide) ?_
      refine S_no (j := 13) (dj := 24) (b := true) rfl rfl rfl (by decide) ?_
      refine S_list (T_pickT (v := (Value.bool true)) rfl rfl ?_)
      refine wpList_nil ?_
      refine (X_then (hK24_ _ _ ?_))
      clear hK24_
      refine C_condT rfl ?_
      refine C_seq (fun K26_ hK26_ => ?_)
      refine C_reg ?_
      refine S_list (T_val (v := (Value.bool false)) (x_assign rfl) ?_)
      refine wpList_nil ?_
      refine (X_then (hK26_ _ _ ?_))
      clear hK26_
      refine C_ret (X_blkR (X_thenR (X_thenR (X_blkR (X_thenR ?_)))))
      refine R_any (v := (Value.bool false)) (run_results1 rfl rfl) ?_
      have H27_ : Holds w20_ (ro R :: F) := (Holds.erase (Holds.bring H21_ 1 rfl) 1)
      exact ⟨_, [], rfl, ⟨false, rfl, rfl, (fun h => by first | (cases h; done) | exact ⟨by first | omega | (simp_all; omega), fun x hx => by obtain ⟨i, hi, e⟩ := List.getElem_of_mem hx; exact hall i x (by omega) (by rw [List.getElem?_eq_getElem hi, e])⟩)⟩, S23_, H27_⟩
    · have c25_fp : ¬ (x12_.kind < 1) := of_decide_eq_false c25_f
      refine S_yes (j := 3) (dj := 14) (b := false) rfl rfl (congrArg Value.bool c25_f) (T_val (v := (Value.pointer (some ⟨b15_, 0, none⟩))) (by kernel_rfl) ?_)
      refine S_yes (j := 3) (dj := 14) (b := false) rfl rfl (congrArg Value.bool c25_f) (T_val (v := (Value.int .i64 x12_.kind)) (x_load1 rfl Try.underlying3 rfl ((Holds.rd H21_ 0 rfl) 0 (Value.int .i64 x12_.kind) rfl)) ?_)
      refine S_yes (j := 3) (dj := 14) (b := false) rfl rfl (congrArg Value.bool c25_f) (T_val (v := (Value.bool (decide (4 < x12_.kind)))) (x_bin rfl rfl rfl) ?_)
      refine S_list (T_pickF (v := (Value.bool (decide (4 < x12_.kind)))) (congrArg Value.bool c25_f) rfl ?_)
      refine S_list (T_val (v := (Value.bool (decide (4 < x12_.kind)))) (x_move rfl) ?_)
      rcases Bool.eq_false_or_eq_true (decide (4 < x12_.kind)) with c28_t | c28_f
      · have c28_tp : 4 < x12_.kind := of_decide_eq_true c28_t
        refine S_no (j := 8) (dj := 19) (b := true) rfl rfl (congrArg Value.bool c28_t) (by decide) ?_
        refine S_no (j := 8) (dj := 19) (b := true) rfl rfl (congrArg Value.bool c28_t) (by decide) ?_
        refine S_no (j := 8) (dj := 19) (b := true) rfl rfl (congrArg Value.bool c28_t) (by decide) ?_
        refine S_list (T_pickT (v := (Value.bool true)) (congrArg Value.bool c28_t) rfl ?_)
        refine S_list (T_val (v := (Value.bool true)) (x_move rfl) ?_)
        refine S_no (j := 13) (dj := 24) (b := true) rfl rfl rfl (by decide) ?_
        refine S_no (j := 13) (dj := 24) (b := true) rfl rfl rfl (by decide) ?_
        refine S_no (j := 13) (dj := 24) (b := true) rfl rfl rfl (by decide) ?_
        refine S_list (T_pickT (v := (Value.bool true)) rfl rfl ?_)
        refine wpList_nil ?_
        refine (X_then (hK24_ _ _ ?_))
        clear hK24_
        refine C_condT rfl ?_
        refine C_seq (fun K29_ hK29_ => ?_)
        refine C_reg ?_
        refine S_list (T_val (v := (Value.bool false)) (x_assign rfl) ?_)
        refine wpList_nil ?_
        refine (X_then (hK29_ _ _ ?_))
        clear hK29_
        refine C_ret (X_blkR (X_thenR (X_thenR (X_blkR (X_thenR ?_)))))
        refine R_any (v := (Value.bool false)) (run_results1 rfl rfl) ?_
        have H30_ : Holds w20_ (ro R :: F) := (Holds.erase (Holds.bring H21_ 1 rfl) 1)
        exact ⟨_, [], rfl, ⟨false, rfl, rfl, (fun h => by first | (cases h; done) | exact ⟨by first | omega | (simp_all; omega), fun x hx => by obtain ⟨i, hi, e⟩ := List.getElem_of_mem hx; exact hall i x (by omega) (by rw [List.getElem?_eq_getElem hi, e])⟩)⟩, S23_, H30_⟩
      · have c28_fp : ¬ (4 < x12_.kind) := of_decide_eq_false c28_f
        refine S_yes (j := 8) (dj := 19) (b := false) rfl rfl (congrArg Value.bool c28_f) (T_val (v := (Value.pointer (some ⟨b15_, 2, none⟩))) (by kernel_rfl) ?_)
        refine S_yes (j := 8) (dj := 19) (b := false) rfl rfl (congrArg Value.bool c28_f) (T_val (v := (Value.int .i64 x12_.at_)) (x_load1 rfl Try.underlying2 rfl ((Holds.rd H21_ 0 rfl) 2 (Value.int .i64 x12_.at_) rfl)) ?_)
        refine S_yes (j := 8) (dj := 19) (b := false) rfl rfl (congrArg Value.bool c28_f) (T_val (v := (Value.bool (decide (x12_.at_ < 0)))) (x_bin rfl rfl rfl) ?_)
        refine S_list (T_pickF (v := (Value.bool (decide (x12_.at_ < 0)))) (congrArg Value.bool c28_f) rfl ?_)
        refine S_list (T_val (v := (Value.bool (decide (x12_.at_ < 0)))) (x_move rfl) ?_)
        rcases Bool.eq_false_or_eq_true (decide (x12_.at_ < 0)) with c31_t | c31_f
        · have c31_tp : x12_.at_ < 0 := of_decide_eq_true c31_t
          refine S_no (j := 13) (dj := 24) (b := true) rfl rfl (congrArg Value.bool c31_t) (by decide) ?_
          refine S_no (j := 13) (dj := 24) (b := true) rfl rfl (congrArg Value.bool c31_t) (by decide) ?_
          refine S_no (j := 13) (dj := 24) (b := true) rfl rfl (congrArg Value.bool c31_t) (by decide) ?_
          refine S_list (T_pickT (v := (Value.bool true)) (congrArg Value.bool c31_t) rfl ?_)
          refine wpList_nil ?_
          refine (X_then (hK24_ _ _ ?_))
          clear hK24_
          refine C_condT rfl ?_
          refine C_seq (fun K32_ hK32_ => ?_)
          refine C_reg ?_
          refine S_list (T_val (v := (Value.bool false)) (x_assign rfl) ?_)
          refine wpList_nil ?_
          refine (X_then (hK32_ _ _ ?_))
          clear hK32_
          refine C_ret (X_blkR (X_thenR (X_thenR (X_blkR (X_thenR ?_)))))
          refine R_any (v := (Value.bool false)) (run_results1 rfl rfl) ?_
          have H33_ : Holds w20_ (ro R :: F) := (Holds.erase (Holds.bring H21_ 1 rfl) 1)
          exact ⟨_, [], rfl, ⟨false, rfl, rfl, (fun h => by first | (cases h; done) | exact ⟨by first | omega | (simp_all; omega), fun x hx => by obtain ⟨i, hi, e⟩ := List.getElem_of_mem hx; exact hall i x (by omega) (by rw [List.getElem?_eq_getElem hi, e])⟩)⟩, S23_, H33_⟩
        · have c31_fp : ¬ (x12_.at_ < 0) := of_decide_eq_false c31_f
          refine S_yes (j := 13) (dj := 24) (b := false) rfl rfl (congrArg Value.bool c31_f) (T_val (v := (Value.pointer (some ⟨b15_, 2, none⟩))) (by kernel_rfl) ?_)
          refine S_yes (j := 13) (dj := 24) (b := false) rfl rfl (congrArg Value.bool c31_f) (T_val (v := (Value.int .i64 x12_.at_)) (x_load1 rfl Try.underlying2 rfl ((Holds.rd H21_ 0 rfl) 2 (Value.int .i64 x12_.at_) rfl)) ?_)
          refine S_yes (j := 13) (dj := 24) (b := false) rfl rfl (congrArg Value.bool c31_f) (T_val (v := (Value.bool (decide (1152921504606846976 < x12_.at_)))) (x_bin rfl rfl rfl) ?_)
          refine S_list (T_pickF (v := (Value.bool (decide (1152921504606846976 < x12_.at_)))) (congrArg Value.bool c31_f) rfl ?_)
          refine wpList_nil ?_
          refine (X_then (hK24_ _ _ ?_))
          clear hK24_
          refine C_cond (b := decide (1152921504606846976 < x12_.at_)) rfl (fun c34_t => ?_) (fun c34_f => ?_)
          · have c34_tp : 1152921504606846976 < x12_.at_ := of_decide_eq_true c34_t
            refine C_seq (fun K35_ hK35_ => ?_)
            refine C_reg ?_
            refine S_list (T_val (v := (Value.bool false)) (x_assign rfl) ?_)
            refine wpList_nil ?_
            refine (X_then (hK35_ _ _ ?_))
            clear hK35_
            refine C_ret (X_blkR (X_thenR (X_thenR (X_blkR (X_thenR ?_)))))
            refine R_any (v := (Value.bool false)) (run_results1 rfl rfl) ?_
            have H36_ : Holds w20_ (ro R :: F) := (Holds.erase (Holds.bring H21_ 1 rfl) 1)
            exact ⟨_, [], rfl, ⟨false, rfl, rfl, (fun h => by first | (cases h; done) | exact ⟨by first | omega | (simp_all; omega), fun x hx => by obtain ⟨i, hi, e⟩ := List.getElem_of_mem hx; exact hall i x (by omega) (by rw [List.getElem?_eq_getElem hi, e])⟩)⟩, S23_, H36_⟩
          · have c34_fp : ¬ (1152921504606846976 < x12_.at_) := of_decide_eq_false c34_f
            refine C_skip (X_blkN (X_then (hK10_ _ _ ?_)))
            clear hK10_
            refine C_reg ?_
            refine S_list (T_val (v := (Value.int .i64 ((k : Int) + 1))) (x_bin rfl rfl (ib_add (IntWalk.i64_in _ (by omega)))) ?_)
            refine S_list (T_val (v := (Value.int .i64 ((k : Int) + 1))) (x_move rfl) ?_)
            refine wpList_nil ?_
            refine (X_then ?_)
            have H37_ : Holds w20_ (ro R :: F) := (Holds.erase (Holds.bring H21_ 1 rfl) 1)
            exact ⟨⟨k + 1, t2_v⟩, ⟨_, congrArg (fun e => mkA 33 e []) (ch (ch (ch (ch (ch rfl rfl) rfl) rfl) rfl) (congrArg (Value.int .i64) ((by first | rfl | omega | (simp; done) | (simp; omega)) : (k : Int) + 1 = ((k + 1 : Nat) : Int)))), H37_, S23_, (by first | assumption | omega | exact rfl), (fun i y hi hy => by
            rcases Nat.lt_or_ge i k with hlt | hge
            · exact hall i y hlt hy
            · obtain rfl : i = k := by omega
              rw [hx13_] at hy; cases hy; omega)⟩, by first | omega | (dsimp only; omega) | (simp; omega)⟩
  · have c9_fp : ¬ ((k : Int) < (l.length : Int)) := of_decide_eq_false c9_f
    refine C_exit (X_thenX (X_thenX (X_blkHit ?_)))
    refine (X_then (hK2_ _ _ ?_))
    clear hK2_
    refine C_seq (fun K38_ hK38_ => ?_)
    refine C_reg ?_
    refine S_list (T_val (v := v) (x_move rfl) ?_)
    refine S_list (T_val (v := (Value.int .i64 (l.length : Int))) (x_lenRS rfl hV Try.underlying23) ?_)
    refine S_list (T_val (v := (Value.bool (decide ((l.length : Int) ≤ 200)))) (x_bin rfl rfl rfl) ?_)
    refine S_list (T_val (v := (Value.bool (decide ((l.length : Int) ≤ 200)))) (x_assign rfl) ?_)
    refine wpList_nil ?_
    refine (X_then (hK38_ _ _ ?_))
    clear hK38_
    refine C_ret ?_
    refine R_any (v := (Value.bool (decide ((l.length : Int) ≤ 200)))) (run_results1 rfl rfl) ?_
    exact ⟨_, [], rfl, ⟨decide ((l.length : Int) ≤ 200), rfl, rfl, (fun h => by first | (cases h; done) | exact ⟨by first | omega | (simp_all; omega), fun x hx => by obtain ⟨i, hi, e⟩ := List.getElem_of_mem hx; exact hall i x (by omega) (by rw [List.getElem?_eq_getElem hi, e])⟩)⟩, S6_, H5_⟩

set_option maxHeartbeats 400000 in
theorem qPeek1 (R : HP) (nb mb : Nat) (v : Value) (q : List Nd) (m : List (Int × Value)) (x : Nd) (hq : QI q m) (hn : q.length ≤ 80000) (hx : q[0]? = some x) :
    Tri Try.prog 34 #[(Value.pointer (some ⟨nb, 0, none⟩))] R [cl nb 135 [(Value.map (some mb)), v], sl 77 1 v (List.length q) (ptrs q), fam 137 (encs q), mp (Value.int .i64) mb m] (fun v__ post__ => v__ = (Value.pointer (some ⟨x.b, 0, none⟩)) ∧ post__ = [cl nb 135 [(Value.map (some mb)), v], sl 77 1 v (List.length q) (ptrs q), fam 137 (encs q), mp (Value.int .i64) mb m]) := by
  have hl0_ := (List.getElem?_eq_some_iff.1 hx).1
  have hml_ := hq.ml
  refine Tri.into (n := 12) (al := [(Value.pointer (some ⟨nb, 0, none⟩))]) Try.func34 rfl Try.ntmps34 rfl rfl fun w F H => ?_
  replace H : Holds w (ro R :: cl nb 135 [(Value.map (some mb)), v] :: sl 77 1 v (List.length q) (ptrs q) :: fam 137 (encs q) :: mp (Value.int .i64) mb m :: F) := H
  refine C_seq (fun K1_ hK1_ => ?_)
  refine C_reg ?_
  refine S_list (T_val (v := (Value.pointer none)) (x_assign rfl) ?_)
  refine wpList_nil ?_
  refine (X_then (hK1_ _ _ ?_))
  clear hK1_
  refine C_seq (fun K2_ hK2_ => ?_)
  refine C_seq (fun K3_ hK3_ => ?_)
  refine C_reg ?_
  refine S_list (T_val (v := (Value.pointer (some ⟨nb, 0, none⟩))) (x_move rfl) ?_)
  refine S_list (T_callW (al := [(Value.pointer (some ⟨nb, 0, none⟩))]) rfl rfl cb37 (Calls.into (n := 8) (al := [(Value.pointer (some ⟨nb, 0, none⟩))]) Try.func37 rfl Try.ntmps37 rfl rfl ?_))
  refine C_seq (fun K4_ hK4_ => ?_)
  refine C_reg ?_
  refine S_list (T_val (v := (Value.int .i64 0)) (x_assign rfl) ?_)
  refine wpList_nil ?_
  refine (X_then (hK4_ _ _ ?_))
  clear hK4_
  refine C_seq (fun K5_ hK5_ => ?_)
  refine C_reg ?_
  refine S_list (T_val (v := (Value.pointer (some ⟨nb, 0, none⟩))) (x_move rfl) ?_)
  refine S_list (T_val (v := (Value.pointer (some ⟨nb, 0, none⟩))) (by kernel_rfl) ?_)
  refine S_list (T_val (v := (Value.pointer (some ⟨nb, 0, none⟩))) (by kernel_rfl) ?_)
  refine S_list (T_val (v := (Value.map (some mb))) (x_load1 rfl Try.underlying131 rfl ((Holds.rd H 1 rfl) 0 (Value.map (some mb)) rfl)) ?_)
  refine S_list (T_val (v := (Value.int .i64 (List.length m : Int))) (x_lenMp (K := (Value.int .i64)) rfl Try.underlying131 (Holds.mprd H 4 rfl)) ?_)
  refine S_list (T_val (v := (Value.int .i64 (List.length m : Int))) (x_assign rfl) ?_)
  refine wpList_nil ?_
  refine (X_then (hK5_ _ _ ?_))
  clear hK5_
  refine C_ret ?_
  refine R_any (v := (Value.int .i64 (List.length m : Int))) (run_results1 rfl rfl) ⟨_, rfl, ?_⟩
  refine S_list (T_val (v := (Value.bool (decide ((List.length m : Int) = 0)))) (x_bin rfl rfl rfl) ?_)
  refine wpList_nil ?_
  refine (X_then (hK3_ _ _ ?_))
  clear hK3_
  refine C_cond (b := decide ((List.length m : Int) = 0)) rfl (fun c6_t => ?_) (fun c6_f => ?_)
  · have c6_tp : (List.length m : Int) = 0 := of_decide_eq_true c6_t
    omega
  · have c6_fp : ¬ ((List.length m : Int) = 0) := of_decide_eq_false c6_f
    refine C_skip (X_then (hK2_ _ _ ?_))
    clear hK2_
    refine C_seq (fun K7_ hK7_ => ?_)
    refine C_reg ?_
    refine S_list (T_val (v := (Value.pointer (some ⟨nb, 0, none⟩))) (x_move rfl) ?_)
    refine S_list (T_val (v := (Value.pointer (some ⟨nb, 0, none⟩))) (by kernel_rfl) ?_)
    refine S_list (T_val (v := (Value.pointer (some ⟨nb, 1, none⟩))) (by kernel_rfl) ?_)
    refine S_list (T_val (v := v) (x_load1 rfl Try.underlying133 rfl ((Holds.rd H 1 rfl) 1 v rfl)) ?_)
    have hr8_ := Holds.sl_RSw H 2 rfl
    refine S_list (T_val (v := (Value.pointer (some ⟨(sb v), so v + 0, none⟩))) (x_idxSlR (v := v) rfl hr8_ rfl Try.underlying133 z77 (by omega) (by omega) (by omega : _ = 0) (by rw [Nat.mul_one])) ?_)
    refine S_list (T_val (v := (Value.pointer (some ⟨x.b, 0, none⟩))) (x_load1 rfl Try.underlying77 rfl ((Holds.slrd H 2 rfl) _ _ (ptrs_at hx))) ?_)
    refine S_list (T_val (v := (Value.pointer (some ⟨x.b, 0, none⟩))) (x_assign rfl) ?_)
    refine wpList_nil ?_
    refine (X_then (hK7_ _ _ ?_))
    clear hK7_
    refine C_ret ?_
    refine R_any (v := (Value.pointer (some ⟨x.b, 0, none⟩))) (run_results1 rfl rfl) ?_
    exact ⟨_, [cl nb 135 [(Value.map (some mb)), v], sl 77 1 v (List.length q) (ptrs q), fam 137 (encs q), mp (Value.int .i64) mb m], rfl, ⟨rfl, rfl⟩, (Same.refl w), H⟩

set_option maxHeartbeats 2000000 in
theorem qQueue (R : HP) (v : Value) (l : List QOp) (hV : RS R 3 v l.length (l.flatMap QOp.cells)) (hl : l.length ≤ 1000) (hok : ∀ x ∈ l, 1 ≤ x.kind ∧ x.kind ≤ 4 ∧ 0 ≤ x.at_ ∧ x.at_ ≤ 1152921504606846976) :
    Tri Try.prog 9 #[v] R [] (fun v__ post__ => ∃ (vo : Value) (an : List QAns) (D : List (Int × Int)), v__ = vo ∧ post__ = [sl 30 4 vo (List.length an) (an.flatMap QAns.cells)] ∧ (QRun l an D)) := by
  refine Tri.into (n := 87) (al := [v]) Try.func9 rfl Try.ntmps9 rfl rfl fun w F H => ?_
  replace H : Holds w (ro R :: F) := H
  refine C_seq (fun K1_ hK1_ => ?_)
  refine C_reg ?_
  refine S_list (T_val (v := (Value.slice none 0 0)) (x_assign rfl) ?_)
  refine wpList_nil ?_
  refine (X_then (hK1_ _ _ ?_))
  clear hK1_
  refine C_seq (fun K2_ hK2_ => ?_)
  refine C_reg ?_
  refine S_list (T_callW (al := []) rfl rfl cb30 (Calls.into (n := 2) (al := []) Try.func30 rfl Try.ntmps30 rfl rfl ?_))
  refine C_seq (fun K3_ hK3_ => ?_)
  refine C_reg ?_
  refine S_list (T_val (v := (Value.pointer none)) (x_assign rfl) ?_)
  refine wpList_nil ?_
  refine (X_then (hK3_ _ _ ?_))
  clear hK3_
  refine C_seq (fun K4_ hK4_ => ?_)
  refine C_reg ?_
  refine S_list (T_callW (al := []) rfl rfl cb61 (Calls.into (n := 5) (al := []) Try.func61 rfl Try.ntmps61 rfl rfl ?_))
  refine C_seq (fun K5_ hK5_ => ?_)
  refine C_reg ?_
  refine S_list (T_val (v := (Value.pointer none)) (x_assign rfl) ?_)
  refine wpList_nil ?_
  refine (X_then (hK5_ _ _ ?_))
  clear hK5_
  refine C_seq (fun K6_ hK6_ => ?_)
  refine C_reg ?_
  refine S_list (T_makeMap (Value.int .i64) H ?_)
  intro b7_ w8_ S10_ H9_
  replace H9_ : Holds w8_ (mp (Value.int .i64) b7_ [] :: ro R :: F) := H9_
  have S11_ := Same.trans (Same.refl w) S10_
  refine S_list (T_makeSlice1 (len := 0) (cap := 0) rfl rfl Try.underlying133 z77 rfl (by omega) (by omega) (by omega) (by omega) (by omega) H9_ ?_)
  intro b12_ w13_ S15_ H14_
  replace H14_ : Holds w13_ (cl b12_ 77 (List.replicate 0 (Value.pointer none)) :: mp (Value.int .i64) b7_ [] :: ro R :: F) := H14_
  have S16_ := Same.trans S11_ S15_
  refine S_list (T_val (v := (Value.agg #[(Value.map (some b7_)), (Value.slice (some ⟨b12_, 0, none⟩) 0 0)])) (by kernel_rfl) ?_)
  refine S_list (T_box (v := (Value.agg #[(Value.map (some b7_)), (Value.slice (some ⟨b12_, 0, none⟩) 0 0)])) rfl H14_ ?_)
  intro b17_ w18_ S20_ H19_
  replace H19_ : Holds w18_ (cl b17_ 135 [(Value.map (some b7_)), (Value.slice (some ⟨b12_, 0, none⟩) 0 0)] :: cl b12_ 77 (List.replicate 0 (Value.pointer none)) :: mp (Value.int .i64) b7_ [] :: ro R :: F) := H19_
  have S21_ := Same.trans S16_ S20_
  refine S_list (T_val (v := (Value.pointer (some ⟨b17_, 0, none⟩))) (x_assign rfl) ?_)
  refine wpList_nil ?_
  refine (X_then (hK6_ _ _ ?_))
  clear hK6_
  refine C_ret ?_
  refine R_any (v := (Value.pointer (some ⟨b17_, 0, none⟩))) (run_results1 rfl rfl) ⟨_, rfl, ?_⟩
  refine S_list (T_val (v := (Value.pointer (some ⟨b17_, 0, none⟩))) (x_assign rfl) ?_)
  refine wpList_nil ?_
  refine (X_then (hK4_ _ _ ?_))
  clear hK4_
  refine C_ret ?_
  refine R_any (v := (Value.pointer (some ⟨b17_, 0, none⟩))) (run_results1 rfl rfl) ⟨_, rfl, ?_⟩
  refine S_list (T_val (v := (Value.pointer (some ⟨b17_, 0, none⟩))) (x_assign rfl) ?_)
  refine wpList_nil ?_
  refine (X_then (hK2_ _ _ ?_))
  clear hK2_
  refine C_seq (fun K22_ hK22_ => ?_)
  refine C_reg ?_
  refine S_list (T_val (v := (Value.slice none 0 0)) (x_assign rfl) ?_)
  refine wpList_nil ?_
  refine (X_then (hK22_ _ _ ?_))
  clear hK22_
  refine C_seq (fun K23_ hK23_ => ?_)
  refine C_seq (fun K24_ hK24_ => ?_)
  refine C_reg ?_
  refine S_list (T_val (v := (Value.int .i64 0)) (x_assign rfl) ?_)
  refine wpList_nil ?_
  refine (X_then (hK24_ _ _ ?_))
  clear hK24_
  refine C_block ?_
  have H25_ : Holds w18_ (cl b17_ 135 [(Value.map (some b7_)), (Value.slice (some ⟨b12_, 0, none⟩) 0 0)] :: cl b12_ 77 ([] ++ [] ++ []) :: mp (Value.int .i64) b7_ [] :: ro R :: F) := cast1 (P := fun (c__ : List Value) => Holds w18_ (cl b17_ 135 [(Value.map (some b7_)), (Value.slice (some ⟨b12_, 0, none⟩) 0 0)] :: cl b12_ 77 c__ :: mp (Value.int .i64) b7_ [] :: ro R :: F)) (by kernel_rfl : List.replicate 0 (Value.pointer none) = [] ++ [] ++ []) H19_
  have H26_ : Holds w18_ (cl b17_ 135 [(Value.map (some b7_)), (Value.slice (some ⟨b12_, 0, none⟩) 0 0)] :: sl 77 1 (Value.slice (some ⟨b12_, 0, none⟩) 0 0) 0 [] :: mp (Value.int .i64) b7_ [] :: ro R :: F) := Holds.to_sl H25_ 1 [] [] (xs := []) (m := 0) (cap := 0) (sz := 1) rfl (by kernel_rfl) (by kernel_rfl) (by omega)
  have H27_ : Holds w18_ (cl b17_ 135 [(Value.map (some b7_)), (Value.slice (some ⟨b12_, 0, none⟩) 0 0)] :: sl 77 1 (Value.slice (some ⟨b12_, 0, none⟩) 0 0) (List.length ([] : List Nd)) (ptrs []) :: mp (Value.int .i64) b7_ [] :: ro R :: F) := cast2 (P := fun (c__ : List Value) (k__ : Nat) => Holds w18_ (cl b17_ 135 [(Value.map (some b7_)), (Value.slice (some ⟨b12_, 0, none⟩) 0 0)] :: sl 77 1 (Value.slice (some ⟨b12_, 0, none⟩) 0 0) k__ c__ :: mp (Value.int .i64) b7_ [] :: ro R :: F)) (rfl : [] = ptrs []) (rfl : 0 = (List.length ([] : List Nd))) H26_
  have H28_ : Holds w18_ (fam 137 (encs []) :: cl b17_ 135 [(Value.map (some b7_)), (Value.slice (some ⟨b12_, 0, none⟩) 0 0)] :: sl 77 1 (Value.slice (some ⟨b12_, 0, none⟩) 0 0) (List.length ([] : List Nd)) (ptrs []) :: mp (Value.int .i64) b7_ [] :: ro R :: F) := Holds.fam_nil H27_
  have H29_ : Holds w18_ (sl 30 4 (Value.slice none 0 0) (List.length ([] : List QAns)) (([] : List QAns).flatMap QAns.cells) :: fam 137 (encs []) :: cl b17_ 135 [(Value.map (some b7_)), (Value.slice (some ⟨b12_, 0, none⟩) 0 0)] :: sl 77 1 (Value.slice (some ⟨b12_, 0, none⟩) 0 0) (List.length ([] : List Nd)) (ptrs []) :: mp (Value.int .i64) b7_ [] :: ro R :: F) := Holds.add_nil H28_ 30 4
  have H30_ : Holds w18_ (sl 30 4 (Value.slice none 0 0) (List.length []) ([].flatMap QAns.cells) :: fam 137 (encs []) :: cl b17_ 135 [(Value.map (some b7_)), (Value.slice (some ⟨b12_, 0, none⟩) 0 0)] :: sl 77 1 (Value.slice (some ⟨b12_, 0, none⟩) 0 0) (List.length ([] : List Nd)) (ptrs []) :: mp (Value.int .i64) b7_ [] :: ro R :: F) := cast2 (P := fun (c__ : List Value) (k__ : Nat) => Holds w18_ (sl 30 4 (Value.slice none 0 0) k__ c__ :: fam 137 (encs []) :: cl b17_ 135 [(Value.map (some b7_)), (Value.slice (some ⟨b12_, 0, none⟩) 0 0)] :: sl 77 1 (Value.slice (some ⟨b12_, 0, none⟩) 0 0) (List.length ([] : List Nd)) (ptrs []) :: mp (Value.int .i64) b7_ [] :: ro R :: F)) ((by first | rfl | (simp [QOp.cells, QAns.cells]; done)) : ([] : List QAns).flatMap QAns.cells = [].flatMap QAns.cells) ((by first | rfl | omega | (simp; done) | (simp; omega)) : (List.length ([] : List QAns)) = (List.length [])) H29_
  have H31_ : Holds w18_ (sl 30 4 (Value.slice none 0 0) (List.length []) ([].flatMap QAns.cells) :: fam 137 (encs []) :: cl b17_ 135 [(Value.map (some b7_)), ((Value.slice (some ⟨b12_, 0, none⟩) 0 0))] :: sl 77 1 (Value.slice (some ⟨b12_, 0, none⟩) 0 0) (List.length ([] : List Nd)) (ptrs []) :: mp (Value.int .i64) b7_ [] :: ro R :: F) := cast1 (P := fun (c__ : List Value) => Holds w18_ (sl 30 4 (Value.slice none 0 0) (List.length []) ([].flatMap QAns.cells) :: fam 137 (encs []) :: cl b17_ 135 c__ :: sl 77 1 (Value.slice (some ⟨b12_, 0, none⟩) 0 0) (List.length ([] : List Nd)) (ptrs []) :: mp (Value.int .i64) b7_ [] :: ro R :: F)) ((lcons rfl (lcons (rfl : (Value.slice (some ⟨b12_, 0, none⟩) 0 0) = ((Value.slice (some ⟨b12_, 0, none⟩) 0 0))) rfl)) : [(Value.map (some b7_)), (Value.slice (some ⟨b12_, 0, none⟩) 0 0)] = [(Value.map (some b7_)), ((Value.slice (some ⟨b12_, 0, none⟩) 0 0))]) H30_
  have H32_ : Holds w18_ (sl 30 4 (Value.slice none 0 0) (List.length []) ([].flatMap QAns.cells) :: fam 137 (encs []) :: cl b17_ 135 [(Value.map (some b7_)), ((Value.slice (some ⟨b12_, 0, none⟩) 0 0))] :: sl 77 1 (Value.slice (some ⟨b12_, 0, none⟩) 0 0) (List.length []) (ptrs []) :: mp (Value.int .i64) b7_ [] :: ro R :: F) := cast2 (P := fun (c__ : List Value) (k__ : Nat) => Holds w18_ (sl 30 4 (Value.slice none 0 0) (List.length []) ([].flatMap QAns.cells) :: fam 137 (encs []) :: cl b17_ 135 [(Value.map (some b7_)), ((Value.slice (some ⟨b12_, 0, none⟩) 0 0))] :: sl 77 1 (Value.slice (some ⟨b12_, 0, none⟩) 0 0) k__ c__ :: mp (Value.int .i64) b7_ [] :: ro R :: F)) (rfl : ptrs [] = ptrs []) ((by first | rfl | omega | (simp; done) | (simp; omega)) : (List.length ([] : List Nd)) = (List.length [])) H31_
  refine C_loop (γ := Nat × Value × (List Nd) × (List (Int × Value)) × (List QAns) × Value) (fun x a w1 => match x with | ⟨k, v0, q, m, an, vo⟩ => ∃ h : Env, a = mkA 87 (upd (upd (upd (upd (upd h 0 v) 2 (Value.slice none 0 0)) 3 (Value.pointer (some ⟨b17_, 0, none⟩))) 4 vo) 5 (Value.int .i64 (k : Int))) [] ∧ Holds w1 (sl 30 4 vo (List.length an) (an.flatMap QAns.cells) :: fam 137 (encs q) :: cl b17_ 135 [(Value.map (some b7_)), v0] :: sl 77 1 v0 (List.length q) (ptrs q) :: mp (Value.int .i64) b7_ m :: ro R :: F) ∧ Same w w1 ∧ (k ≤ l.length) ∧ (QI q m) ∧ (QRun (List.take k l) an (dd q)) ∧ (TB (dd q)) ∧ (q.length ≤ k) ∧ (an.length = k)) (fun x => match x with | ⟨k, v0, q, m, an, vo⟩ => l.length - k) (⟨0, (Value.slice (some ⟨b12_, 0, none⟩) 0 0), [], [], [], (Value.slice none 0 0)⟩) ⟨_, congrArg (fun e => mkA 87 e []) (ch (ch (ch (ch (ch rfl rfl) rfl) rfl) (rfl : (Value.slice none 0 0) = ((Value.slice none 0 0)))) (congrArg (Value.int .i64) ((by first | rfl | omega | (simp; done) | (simp; omega)) : 0 = (0 : Int)))), H32_, S21_, (by first | assumption | omega | exact rfl), (QI.nil), (QRun.nil), (TB.nil), (Nat.le_refl 0), (rfl)⟩ ?_
  rintro ⟨k, v0, q, m, an, vo⟩ _ w33_ ⟨h, rfl, H34_, S35_, hk, hqi, hrun, htb, hlq, han⟩
  refine C_seq (fun K36_ hK36_ => ?_)
  refine C_seq (fun K37_ hK37_ => ?_)
  refine C_reg ?_
  refine S_list (T_val (v := (Value.int .i64 (k : Int))) (x_move rfl) ?_)
  refine S_list (T_val (v := v) (x_move rfl) ?_)
  refine S_list (T_val (v := (Value.int .i64 (l.length : Int))) (x_lenRS rfl hV Try.underlying23) ?_)
  refine S_list (T_val (v := (Value.bool (decide ((k : Int) < (l.length : Int))))) (x_bin rfl rfl rfl) ?_)
  refine wpList_nil ?_
  refine (X_then (hK37_ _ _ ?_))
  clear hK37_
  refine C_cond (b := decide ((k : Int) < (l.length : Int))) rfl (fun c38_t => ?_) (fun c38_f => ?_)
  · have c38_tp : (k : Int) < (l.length : Int) := of_decide_eq_true c38_t
    refine C_skip (X_then (hK36_ _ _ ?_))
    clear hK36_
    refine C_seq (fun K39_ hK39_ => ?_)
    refine C_block ?_
    refine C_seq (fun K40_ hK40_ => ?_)
    refine C_reg ?_
    refine S_list (T_val (v := v) (x_move rfl) ?_)
    refine S_list (T_val (v := (Value.int .i64 (k : Int))) (x_move rfl) ?_)
    obtain ⟨x41_, hx42_, hm43_⟩ := elem_at l k (by omega)
    have hp44_ := hok x41_ hm43_
    refine S_list (T_val (v := (Value.pointer (some ⟨(sb v), so v + (k * 3 + 0), none⟩))) (x_idxRS (v := v) rfl hV rfl Try.underlying23 z25 (by omega) (by omega) (by omega : _ = k) rfl) ?_)
    refine S_list (T_val (v := (Value.agg #[(Value.int .i64 x41_.kind), (Value.int .i64 x41_.iD), (Value.int .i64 x41_.at_)])) (x_loadN (vs := [(Value.int .i64 x41_.kind), (Value.int .i64 x41_.iD), (Value.int .i64 x41_.at_)]) rfl Try.underlying25 rfl z25 rfl (RC.cells (RS.rc hV) (Holds.ro_at H34_ 5 rfl) (k * 3 + 0) (fm_cells QOp.len hx42_ (i := 0) rfl))) ?_)
    refine S_list (T_alloc z25 H34_ ?_)
    intro b45_ w46_ S48_ H47_
    replace H47_ : Holds w46_ (cl b45_ 25 [(Value.int .i64 0), (Value.int .i64 0), (Value.int .i64 0)] :: sl 30 4 vo (List.length an) (an.flatMap QAns.cells) :: fam 137 (encs q) :: cl b17_ 135 [(Value.map (some b7_)), v0] :: sl 77 1 v0 (List.length q) (ptrs q) :: mp (Value.int .i64) b7_ m :: ro R :: F) := H47_
    have S49_ := Same.trans S35_ S48_
    refine S_list0 (T_storeN (vs := [(Value.int .i64 x41_.kind), (Value.int .i64 x41_.iD), (Value.int .i64 x41_.at_)]) rfl rfl z25 rfl (by simp [Value.oneCell']) H47_ 0 rfl (Nat.le_of_ble_eq_true (by rfl)) ?_)
    intro w50_ S52_ H51_
    replace H51_ : Holds w50_ (cl b45_ 25 [(Value.int .i64 x41_.kind), (Value.int .i64 x41_.iD), (Value.int .i64 x41_.at_)] :: sl 30 4 vo (List.length an) (an.flatMap QAns.cells) :: fam 137 (encs q) :: cl b17_ 135 [(Value.map (some b7_)), v0] :: sl 77 1 v0 (List.length q) (ptrs q) :: mp (Value.int .i64) b7_ m :: ro R :: F) := H51_
    have S53_ := Same.trans S49_ S52_
    refine wpList_nil ?_
    refine (X_then (hK40_ _ _ ?_))
    clear hK40_
    refine C_seq (fun K54_ hK54_ => ?_)
    refine C_reg ?_
    refine S_list (T_val (v := (Value.agg #[(Value.bool false), (Value.int .i64 0), (Value.int .i64 0), (Value.int .i64 0)])) (by kernel_rfl) ?_)
    refine S_list (T_alloc z30 H51_ ?_)
    intro b55_ w56_ S58_ H57_
    replace H57_ : Holds w56_ (cl b55_ 30 [(Value.bool false), (Value.int .i64 0), (Value.int .i64 0), (Value.int .i64 0)] :: cl b45_ 25 [(Value.int .i64 x41_.kind), (Value.int .i64 x41_.iD), (Value.int .i64 x41_.at_)] :: sl 30 4 vo (List.length an) (an.flatMap QAns.cells) :: fam 137 (encs q) :: cl b17_ 135 [(Value.map (some b7_)), v0] :: sl 77 1 v0 (List.length q) (ptrs q) :: mp (Value.int .i64) b7_ m :: ro R :: F) := H57_
    have S59_ := Same.trans S53_ S58_
    refine S_list0 (T_storeN (vs := [(Value.bool false), (Value.int .i64 0), (Value.int .i64 0), (Value.int .i64 0)]) rfl rfl z30 rfl (by simp [Value.oneCell']) H57_ 0 rfl (Nat.le_of_ble_eq_true (by rfl)) ?_)
    intro w60_ S62_ H61_
    replace H61_ : Holds w60_ (cl b55_ 30 [(Value.bool false), (Value.int .i64 0), (Value.int .i64 0), (Value.int .i64 0)] :: cl b45_ 25 [(Value.int .i64 x41_.kind), (Value.int .i64 x41_.iD), (Value.int .i64 x41_.at_)] :: sl 30 4 vo (List.length an) (an.flatMap QAns.cells) :: fam 137 (encs q) :: cl b17_ 135 [(Value.map (some b7_)), v0] :: sl 77 1 v0 (List.length q) (ptrs q) :: mp (Value.int .i64) b7_ m :: ro R :: F) := H61_
    have S63_ := Same.trans S59_ S62_
    refine wpList_nil ?_
    refine (X_then (hK54_ _ _ ?_))
    clear hK54_
    refine C_seq (fun K64_ hK64_ => ?_)
    refine C_block ?_
    refine C_seq (fun K65_ hK65_ => ?_)
    refine C_reg ?_
    refine S_list (T_val (v := (Value.pointer (some ⟨b45_, 0, none⟩))) (by kernel_rfl) ?_)
    refine S_list (T_val (v := (Value.int .i64 x41_.kind)) (x_load1 rfl Try.underlying3 rfl ((Holds.rd H61_ 1 rfl) 0 (Value.int .i64 x41_.kind) rfl)) ?_)
    refine S_list (T_val (v := (Value.bool (decide (x41_.kind = 1)))) (x_bin rfl rfl rfl) ?_)
    refine S_list (T_val (v := (Value.bool (decide (x41_.kind = 1)))) (x_assign rfl) ?_)
    refine wpList_nil ?_
    refine (X_then (hK65_ _ _ ?_))
    clear hK65_
    refine C_cond (b := decide (x41_.kind = 1)) rfl (fun c66_t => ?_) (fun c66_f => ?_)
    · have c66_tp : x41_.kind = 1 := of_decide_eq_true c66_t
      refine C_seq (fun K67_ hK67_ => ?_)
      refine A_start (S := fun w => Rd b45_ [(Value.int .i64 x41_.kind), (Value.int .i64 x41_.iD), (Value.int .i64 x41_.at_)] w ∧ SlRd vo (an.flatMap QAns.cells) w ∧ Sub R (hp w)) (N := 8) foll rfl rfl ?_
      have H68_ : Holds w60_.drew (cl b55_ 30 [(Value.bool false), (Value.int .i64 0), (Value.int .i64 0), (Value.int .i64 0)] :: cl b45_ 25 [(Value.int .i64 x41_.kind), (Value.int .i64 x41_.iD), (Value.int .i64 x41_.at_)] :: sl 30 4 vo (List.length an) (an.flatMap QAns.cells) :: fam 137 (encs q) :: cl b17_ 135 [(Value.map (some b7_)), v0] :: sl 77 1 v0 (List.length q) (ptrs q) :: mp (Value.int .i64) b7_ m :: ro R :: F) := H61_
      refine A_take 0 (ls' := #[true, false, false, false, false, false, false, false]) (v := (Value.pointer (some ⟨b17_, 0, none⟩))) rfl (by kernel_rfl) (by kernel_rfl) (by kernel_rfl) (by kernel_rfl) (fun _ _ _ h => h) (fun w hS => x_move rfl) ⟨Holds.rd H68_ 1 rfl, Holds.slrd H68_ 2 rfl, (Holds.ro_at H68_ 7 rfl)⟩ ?_
      refine A_take 1 (ls' := #[true, true, false, false, false, false, false, false]) (v := (Value.pointer (some ⟨b45_, 1, none⟩))) rfl (by kernel_rfl) (by kernel_rfl) (by kernel_rfl) (by kernel_rfl) (fun _ _ _ h => h) (fun w hS => by kernel_rfl) ⟨Holds.rd H68_ 1 rfl, Holds.slrd H68_ 2 rfl, (Holds.ro_at H68_ 7 rfl)⟩ ?_
      refine A_take 2 (ls' := #[true, true, true, false, false, false, false, false]) (v := (Value.int .i64 x41_.iD)) rfl (by kernel_rfl) (by kernel_rfl) (by kernel_rfl) (by kernel_rfl) (fun _ _ _ h => h) (fun w hS => x_load1 rfl Try.underlying2 rfl (hS.1 1 (Value.int .i64 x41_.iD) rfl)) ⟨Holds.rd H68_ 1 rfl, Holds.slrd H68_ 2 rfl, (Holds.ro_at H68_ 7 rfl)⟩ ?_
      refine A_take 3 (ls' := #[true, true, true, true, false, false, false, false]) (v := (Value.pointer (some ⟨b45_, 2, none⟩))) rfl (by kernel_rfl) (by kernel_rfl) (by kernel_rfl) (by kernel_rfl) (fun _ _ _ h => h) (fun w hS => by kernel_rfl) ⟨Holds.rd H68_ 1 rfl, Holds.slrd H68_ 2 rfl, (Holds.ro_at H68_ 7 rfl)⟩ ?_
      refine A_take 4 (ls' := #[true, true, true, true, true, false, false, false]) (v := (Value.int .i64 x41_.at_)) rfl (by kernel_rfl) (by kernel_rfl) (by kernel_rfl) (by kernel_rfl) (fun _ _ _ h => h) (fun w hS => x_load1 rfl Try.underlying2 rfl (hS.1 2 (Value.int .i64 x41_.at_) rfl)) ⟨Holds.rd H68_ 1 rfl, Holds.slrd H68_ 2 rfl, (Holds.ro_at H68_ 7 rfl)⟩ ?_
      refine A_ready (i := 5) (rs := []) (by kernel_rfl) ?_
      refine AllR.cons ?_ AllR.nil
      have H70_ : Holds w60_.drew (ro R :: cl b55_ 30 [(Value.bool false), (Value.int .i64 0), (Value.int .i64 0), (Value.int .i64 0)] :: cl b45_ 25 [(Value.int .i64 x41_.kind), (Value.int .i64 x41_.iD), (Value.int .i64 x41_.at_)] :: sl 30 4 vo (List.length an) (an.flatMap QAns.cells) :: fam 137 (encs q) :: cl b17_ 135 [(Value.map (some b7_)), v0] :: sl 77 1 v0 (List.length q) (ptrs q) :: mp (Value.int .i64) b7_ m :: F) := (Holds.bring H68_ 7 rfl)
      refine A_op (ls' := #[true, true, true, true, true, true, false, false]) rfl (by kernel_rfl) (T_call (al := [(Value.int .i64 x41_.at_)]) (pre := []) (F := cl b55_ 30 [(Value.bool false), (Value.int .i64 0), (Value.int .i64 0), (Value.int .i64 0)] :: cl b45_ 25 [(Value.int .i64 x41_.kind), (Value.int .i64 x41_.iD), (Value.int .i64 x41_.at_)] :: sl 30 4 vo (List.length an) (an.flatMap QAns.cells) :: fam 137 (encs q) :: cl b17_ 135 [(Value.map (some b7_)), v0] :: sl 77 1 v0 (List.length q) (ptrs q) :: mp (Value.int .i64) b7_ m :: F) rfl rfl cb33 (qAt R x41_.at_ (by first | assumption | omega) (by first | assumption | omega)) H70_ ?_)
      rintro v69_ p74_ w71_ ⟨rfl, rfl⟩ S73_ H72_
      replace H72_ : Holds w71_ (ro R :: cl b55_ 30 [(Value.bool false), (Value.int .i64 0), (Value.int .i64 0), (Value.int .i64 0)] :: cl b45_ 25 [(Value.int .i64 x41_.kind), (Value.int .i64 x41_.iD), (Value.int .i64 x41_.at_)] :: sl 30 4 vo (List.length an) (an.flatMap QAns.cells) :: fam 137 (encs q) :: cl b17_ 135 [(Value.map (some b7_)), v0] :: sl 77 1 v0 (List.length q) (ptrs q) :: mp (Value.int .i64) b7_ m :: F) := H72_
      have S75_ := Same.trans (Same.trans S63_ (Same.drew _)) S73_
      refine ⟨⟨Holds.rd H72_ 2 rfl, Holds.slrd H72_ 3 rfl, (Holds.ro_at H72_ 0 rfl)⟩, ?_⟩
      refine A_ready (i := 6) (rs := []) (by kernel_rfl) ?_
      refine AllR.cons ?_ AllR.nil
      refine A_op (ls' := #[true, true, true, true, true, true, true, false]) rfl (by kernel_rfl) (T_callW (al := [(Value.int .i64 x41_.iD), (Value.agg #[(Value.int .i64 (x41_.at_ / 1000000000)), (Value.int .i64 (x41_.at_ % 1000000000)), (Value.bool true)])]) rfl rfl cb32 (Calls.into (n := 9) (al := [(Value.int .i64 x41_.iD), (Value.agg #[(Value.int .i64 (x41_.at_ / 1000000000)), (Value.int .i64 (x41_.at_ % 1000000000)), (Value.bool true)])]) Try.func32 rfl Try.ntmps32 rfl rfl ?_))
      refine C_seq (fun K76_ hK76_ => ?_)
      refine C_reg ?_
      refine S_list (T_box (v := (Value.agg #[(Value.int .i64 (x41_.at_ / 1000000000)), (Value.int .i64 (x41_.at_ % 1000000000)), (Value.bool true)])) rfl H72_ ?_)
      intro b77_ w78_ S80_ H79_
      replace H79_ : Holds w78_ (cl b77_ 81 [(Value.int .i64 (x41_.at_ / 1000000000)), (Value.int .i64 (x41_.at_ % 1000000000)), (Value.bool true)] :: ro R :: cl b55_ 30 [(Value.bool false), (Value.int .i64 0), (Value.int .i64 0), (Value.int .i64 0)] :: cl b45_ 25 [(Value.int .i64 x41_.kind), (Value.int .i64 x41_.iD), (Value.int .i64 x41_.at_)] :: sl 30 4 vo (List.length an) (an.flatMap QAns.cells) :: fam 137 (encs q) :: cl b17_ 135 [(Value.map (some b7_)), v0] :: sl 77 1 v0 (List.length q) (ptrs q) :: mp (Value.int .i64) b7_ m :: F) := H79_
      have S81_ := Same.trans S75_ S80_
      refine S_list (T_val (v := (Value.pointer none)) (x_assign rfl) ?_)
      refine wpList_nil ?_
      refine (X_then (hK76_ _ _ ?_))
      clear hK76_
      refine C_seq (fun K82_ hK82_ => ?_)
      refine C_reg ?_
      refine S_list (T_val (v := (Value.int .i64 x41_.iD)) (x_move rfl) ?_)
      refine S_list (T_val (v := (Value.agg #[(Value.int .i64 (x41_.at_ / 1000000000)), (Value.int .i64 (x41_.at_ % 1000000000)), (Value.bool true)])) (x_loadN (vs := [(Value.int .i64 (x41_.at_ / 1000000000)), (Value.int .i64 (x41_.at_ % 1000000000)), (Value.bool true)]) rfl Try.underlying81 rfl z81 rfl (Rd.cells (Holds.rd H79_ 0 rfl) 0 rfl)) ?_)
      refine S_list (T_val (v := (Value.agg #[(Value.int .i64 x41_.iD), (Value.int .i64 (x41_.at_ / 1000000000)), (Value.int .i64 (x41_.at_ % 1000000000)), (Value.bool true), (Value.int .i64 0)])) (by kernel_rfl) ?_)
      refine S_list (T_box (v := (Value.agg #[(Value.int .i64 x41_.iD), (Value.int .i64 (x41_.at_ / 1000000000)), (Value.int .i64 (x41_.at_ % 1000000000)), (Value.bool true), (Value.int .i64 0)])) rfl H79_ ?_)
      intro b83_ w84_ S86_ H85_
      replace H85_ : Holds w84_ (cl b83_ 137 [(Value.int .i64 x41_.iD), (Value.int .i64 (x41_.at_ / 1000000000)), (Value.int .i64 (x41_.at_ % 1000000000)), (Value.bool true), (Value.int .i64 0)] :: cl b77_ 81 [(Value.int .i64 (x41_.at_ / 1000000000)), (Value.int .i64 (x41_.at_ % 1000000000)), (Value.bool true)] :: ro R :: cl b55_ 30 [(Value.bool false), (Value.int .i64 0), (Value.int .i64 0), (Value.int .i64 0)] :: cl b45_ 25 [(Value.int .i64 x41_.kind), (Value.int .i64 x41_.iD), (Value.int .i64 x41_.at_)] :: sl 30 4 vo (List.length an) (an.flatMap QAns.cells) :: fam 137 (encs q) :: cl b17_ 135 [(Value.map (some b7_)), v0] :: sl 77 1 v0 (List.length q) (ptrs q) :: mp (Value.int .i64) b7_ m :: F) := H85_
      have S87_ := Same.trans S81_ S86_
      refine S_list (T_val (v := (Value.pointer (some ⟨b83_, 0, none⟩))) (x_assign rfl) ?_)
      refine wpList_nil ?_
      refine (X_then (hK82_ _ _ ?_))
      clear hK82_
      refine C_ret ?_
      refine R_any (v := (Value.pointer (some ⟨b83_, 0, none⟩))) (run_results1 rfl rfl) ⟨_, rfl, ?_⟩
      refine ⟨⟨Holds.rd H85_ 4 rfl, Holds.slrd H85_ 5 rfl, (Holds.ro_at H85_ 2 rfl)⟩, ?_⟩
      refine A_ready (i := 7) (rs := []) (by kernel_rfl) ?_
      refine AllR.cons ?_ AllR.nil
      have H94_ : Holds w84_ (ro R :: cl b17_ 135 [(Value.map (some b7_)), v0] :: sl 77 1 v0 (List.length q) (ptrs q) :: fam 137 (encs q) :: mp (Value.int .i64) b7_ m :: cl b83_ 137 [(Value.int .i64 x41_.iD), (Value.int .i64 (x41_.at_ / 1000000000)), (Value.int .i64 (x41_.at_ % 1000000000)), (Value.bool true), (Value.int .i64 0)] :: cl b77_ 81 [(Value.int .i64 (x41_.at_ / 1000000000)), (Value.int .i64 (x41_.at_ % 1000000000)), (Value.bool true)] :: cl b55_ 30 [(Value.bool false), (Value.int .i64 0), (Value.int .i64 0), (Value.int .i64 0)] :: cl b45_ 25 [(Value.int .i64 x41_.kind), (Value.int .i64 x41_.iD), (Value.int .i64 x41_.at_)] :: sl 30 4 vo (List.length an) (an.flatMap QAns.cells) :: F) := (Holds.bring (Holds.bring (Holds.bring (Holds.bring (Holds.bring (Holds.bring H85_ 0 rfl) 9 rfl) 7 rfl) 9 rfl) 9 rfl) 6 rfl)
      refine A_op (ls' := #[true, true, true, true, true, true, true, true]) rfl (by kernel_rfl) (T_call (al := [(Value.pointer (some ⟨b17_, 0, none⟩)), (Value.pointer (some ⟨b83_, 0, none⟩))]) (pre := [cl b17_ 135 [(Value.map (some b7_)), v0], sl 77 1 v0 (List.length q) (ptrs q), fam 137 (encs q), mp (Value.int .i64) b7_ m, cl b83_ 137 [(Value.int .i64 x41_.iD), (Value.int .i64 (x41_.at_ / 1000000000)), (Value.int .i64 (x41_.at_ % 1000000000)), (Value.bool true), (Value.int .i64 0)]]) (F := cl b77_ 81 [(Value.int .i64 (x41_.at_ / 1000000000)), (Value.int .i64 (x41_.at_ % 1000000000)), (Value.bool true)] :: cl b55_ 30 [(Value.bool false), (Value.int .i64 0), (Value.int .i64 0), (Value.int .i64 0)] :: cl b45_ 25 [(Value.int .i64 x41_.kind), (Value.int .i64 x41_.iD), (Value.int .i64 x41_.at_)] :: sl 30 4 vo (List.length an) (an.flatMap QAns.cells) :: F) rfl rfl cb31 (qReg R b17_ b7_ v0 q m b83_ x41_.iD x41_.at_ 0 (by first | assumption | omega) (by first | assumption | omega)) H94_ ?_)
      rintro v88_ p98_ w95_ ⟨v89_, q90_, m91_, rfl, rfl, he92_, he93_⟩ S97_ H96_
      replace H96_ : Holds w95_ (ro R :: cl b17_ 135 [(Value.map (some b7_)), v89_] :: sl 77 1 v89_ (List.length q90_) (ptrs q90_) :: fam 137 (encs q90_) :: mp (Value.int .i64) b7_ m91_ :: cl b77_ 81 [(Value.int .i64 (x41_.at_ / 1000000000)), (Value.int .i64 (x41_.at_ % 1000000000)), (Value.bool true)] :: cl b55_ 30 [(Value.bool false), (Value.int .i64 0), (Value.int .i64 0), (Value.int .i64 0)] :: cl b45_ 25 [(Value.int .i64 x41_.kind), (Value.int .i64 x41_.iD), (Value.int .i64 x41_.at_)] :: sl 30 4 vo (List.length an) (an.flatMap QAns.cells) :: F) := H96_
      have S99_ := Same.trans S87_ S97_
      refine ⟨⟨Holds.rd H96_ 7 rfl, Holds.slrd H96_ 8 rfl, (Holds.ro_at H96_ 0 rfl)⟩, ?_⟩
      refine A_done (by kernel_rfl) ?_
      refine (X_then (hK67_ _ _ ?_))
      clear hK67_
      refine C_reg ?_
      refine S_list (T_val (v := (Value.pointer (some ⟨b55_, 0, none⟩))) (by kernel_rfl) ?_)
      refine S_list0 (T_store1 (v := (Value.bool true)) rfl rfl z4 rfl H96_ 6 rfl (Nat.le_of_ble_eq_true (by rfl)) ?_)
      intro w100_ S102_ H101_
      replace H101_ : Holds w100_ (ro R :: cl b17_ 135 [(Value.map (some b7_)), v89_] :: sl 77 1 v89_ (List.length q90_) (ptrs q90_) :: fam 137 (encs q90_) :: mp (Value.int .i64) b7_ m91_ :: cl b77_ 81 [(Value.int .i64 (x41_.at_ / 1000000000)), (Value.int .i64 (x41_.at_ % 1000000000)), (Value.bool true)] :: cl b55_ 30 [(Value.bool true), (Value.int .i64 0), (Value.int .i64 0), (Value.int .i64 0)] :: cl b45_ 25 [(Value.int .i64 x41_.kind), (Value.int .i64 x41_.iD), (Value.int .i64 x41_.at_)] :: sl 30 4 vo (List.length an) (an.flatMap QAns.cells) :: F) := H101_
      have S103_ := Same.trans S99_ S102_
      refine wpList_nil ?_
      refine (X_blkN (X_then (hK64_ _ _ ?_)))
      clear hK64_
      refine C_reg ?_
      refine S_list (T_val (v := vo) (x_move rfl) ?_)
      refine S_list (T_val (v := (Value.agg #[(Value.bool true), (Value.int .i64 0), (Value.int .i64 0), (Value.int .i64 0)])) (x_loadN (vs := [(Value.bool true), (Value.int .i64 0), (Value.int .i64 0), (Value.int .i64 0)]) rfl Try.underlying30 rfl z30 rfl (Rd.cells (Holds.rd H101_ 6 rfl) 0 rfl)) ?_)
      refine S_list (T_new (obj := .cells #[(Value.bool true), (Value.int .i64 0), (Value.int .i64 0), (Value.int .i64 0)] 30) (f := fun b__ => .slice (some ⟨b__, 0, none⟩) 1 1) (A := fun b__ => cl b__ 30 [(Value.bool true), (Value.int .i64 0), (Value.int .i64 0), (Value.int .i64 0)]) (by kernel_rfl) (fun l h => h.alloc _ _) H101_ ?_)
      intro b104_ w105_ S107_ H106_
      replace H106_ : Holds w105_ (cl b104_ 30 [(Value.bool true), (Value.int .i64 0), (Value.int .i64 0), (Value.int .i64 0)] :: ro R :: cl b17_ 135 [(Value.map (some b7_)), v89_] :: sl 77 1 v89_ (List.length q90_) (ptrs q90_) :: fam 137 (encs q90_) :: mp (Value.int .i64) b7_ m91_ :: cl b77_ 81 [(Value.int .i64 (x41_.at_ / 1000000000)), (Value.int .i64 (x41_.at_ % 1000000000)), (Value.bool true)] :: cl b55_ 30 [(Value.bool true), (Value.int .i64 0), (Value.int .i64 0), (Value.int .i64 0)] :: cl b45_ 25 [(Value.int .i64 x41_.kind), (Value.int .i64 x41_.iD), (Value.int .i64 x41_.at_)] :: sl 30 4 vo (List.length an) (an.flatMap QAns.cells) :: F) := H106_
      have S108_ := Same.trans S103_ S107_
      refine S_list (T_append rfl rfl Try.underlying27 z30 rfl (by decide) H106_ 9 rfl (Holds.cl_src H106_ 0 rfl Try.underlying27 (by simp [Value.oneCell']) rfl) (by omega) ?_)
      intro v109_ w110_ S112_ H111_
      replace H111_ : Holds w110_ (cl b104_ 30 [(Value.bool true), (Value.int .i64 0), (Value.int .i64 0), (Value.int .i64 0)] :: ro R :: cl b17_ 135 [(Value.map (some b7_)), v89_] :: sl 77 1 v89_ (List.length q90_) (ptrs q90_) :: fam 137 (encs q90_) :: mp (Value.int .i64) b7_ m91_ :: cl b77_ 81 [(Value.int .i64 (x41_.at_ / 1000000000)), (Value.int .i64 (x41_.at_ % 1000000000)), (Value.bool true)] :: cl b55_ 30 [(Value.bool true), (Value.int .i64 0), (Value.int .i64 0), (Value.int .i64 0)] :: cl b45_ 25 [(Value.int .i64 x41_.kind), (Value.int .i64 x41_.iD), (Value.int .i64 x41_.at_)] :: sl 30 4 v109_ ((List.length an) + 1) ((an.flatMap QAns.cells) ++ [(Value.bool true), (Value.int .i64 0), (Value.int .i64 0), (Value.int .i64 0)]) :: F) := H111_
      have S113_ := Same.trans S108_ S112_
      refine S_list (T_val (v := v109_) (x_assign rfl) ?_)
      refine wpList_nil ?_
      refine (X_blkN (X_then (hK39_ _ _ ?_)))
      clear hK39_
      refine C_reg ?_
      refine S_list (T_val (v := (Value.int .i64 (k : Int))) (x_move rfl) ?_)
      refine S_list (T_val (v := (Value.int .i64 ((k : Int) + 1))) (x_bin rfl rfl (ib_add (IntWalk.i64_in _ (by omega)))) ?_)
      refine S_list (T_val (v := (Value.int .i64 ((k : Int) + 1))) (x_assign rfl) ?_)
      refine wpList_nil ?_
      refine (X_then ?_)
      have H114_ : Holds w110_ (cl b104_ 30 [(Value.bool true), (Value.int .i64 0), (Value.int .i64 0), (Value.int .i64 0)] :: ro R :: cl b17_ 135 [(Value.map (some b7_)), v89_] :: sl 77 1 v89_ (List.length q90_) (ptrs q90_) :: fam 137 (encs q90_) :: mp (Value.int .i64) b7_ m91_ :: cl b77_ 81 [(Value.int .i64 (x41_.at_ / 1000000000)), (Value.int .i64 (x41_.at_ % 1000000000)), (Value.bool true)] :: cl b55_ 30 [(Value.bool true), (Value.int .i64 0), (Value.int .i64 0), (Value.int .i64 0)] :: cl b45_ 25 [(Value.int .i64 x41_.kind), (Value.int .i64 x41_.iD), (Value.int .i64 x41_.at_)] :: sl 30 4 v109_ (List.length (an ++ [(⟨true, 0, 0, 0⟩ : QAns)])) ((an ++ [(⟨true, 0, 0, 0⟩ : QAns)]).flatMap QAns.cells) :: F) := cast2 (P := fun (c__ : List Value) (k__ : Nat) => Holds w110_ (cl b104_ 30 [(Value.bool true), (Value.int .i64 0), (Value.int .i64 0), (Value.int .i64 0)] :: ro R :: cl b17_ 135 [(Value.map (some b7_)), v89_] :: sl 77 1 v89_ (List.length q90_) (ptrs q90_) :: fam 137 (encs q90_) :: mp (Value.int .i64) b7_ m91_ :: cl b77_ 81 [(Value.int .i64 (x41_.at_ / 1000000000)), (Value.int .i64 (x41_.at_ % 1000000000)), (Value.bool true)] :: cl b55_ 30 [(Value.bool true), (Value.int .i64 0), (Value.int .i64 0), (Value.int .i64 0)] :: cl b45_ 25 [(Value.int .i64 x41_.kind), (Value.int .i64 x41_.iD), (Value.int .i64 x41_.at_)] :: sl 30 4 v109_ k__ c__ :: F)) ((by first | rfl | (simp [QOp.cells, QAns.cells]; done)) : (an.flatMap QAns.cells) ++ [(Value.bool true), (Value.int .i64 0), (Value.int .i64 0), (Value.int .i64 0)] = (an ++ [(⟨true, 0, 0, 0⟩ : QAns)]).flatMap QAns.cells) ((by first | rfl | omega | (simp; done) | (simp; omega)) : (List.length an) + 1 = (List.length (an ++ [(⟨true, 0, 0, 0⟩ : QAns)]))) H111_
      have H115_ : Holds w110_ (sl 30 4 v109_ (List.length (an ++ [(⟨true, 0, 0, 0⟩ : QAns)])) ((an ++ [(⟨true, 0, 0, 0⟩ : QAns)]).flatMap QAns.cells) :: fam 137 (encs q90_) :: cl b17_ 135 [(Value.map (some b7_)), v89_] :: sl 77 1 v89_ (List.length q90_) (ptrs q90_) :: mp (Value.int .i64) b7_ m91_ :: ro R :: F) := (Holds.erase (Holds.erase (Holds.erase (Holds.erase (Holds.bring (Holds.bring (Holds.bring (Holds.bring (Holds.bring (Holds.bring H114_ 1 rfl) 5 rfl) 4 rfl) 4 rfl) 5 rfl) 9 rfl) 6) 6) 6) 6)
      exact ⟨⟨k + 1, v89_, q90_, m91_, an ++ [(⟨true, 0, 0, 0⟩ : QAns)], v109_⟩, ⟨_, congrArg (fun e => mkA 87 e []) (ch (ch (ch (ch (ch rfl rfl) rfl) rfl) rfl) (congrArg (Value.int .i64) ((by first | rfl | omega | (simp; done) | (simp; omega)) : (k : Int) + 1 = ((k + 1 : Nat) : Int)))), H115_, S113_, (by first | assumption | omega | exact rfl), (he92_), (QRun.next hrun hx42_ (⟨true, 0, 0, 0⟩ : QAns) (.inl ⟨by omega, rfl, he93_⟩)), (TB.put htb (by omega) (by omega) he93_), (le_put hlq he93_), (by simp; omega)⟩, by first | omega | (dsimp only; omega) | (simp; omega)⟩
    · have c66_fp : ¬ (x41_.kind = 1) := of_decide_eq_false c66_f
      refine C_seq (fun K116_ hK116_ => ?_)
      refine C_reg ?_
      refine S_list (T_val (v := (Value.pointer (some ⟨b45_, 0, none⟩))) (by kernel_rfl) ?_)
      refine S_list (T_val (v := (Value.int .i64 x41_.kind)) (x_load1 rfl Try.underlying3 rfl ((Holds.rd H61_ 1 rfl) 0 (Value.int .i64 x41_.kind) rfl)) ?_)
      refine S_list (T_val (v := (Value.bool (decide (x41_.kind = 2)))) (x_bin rfl rfl rfl) ?_)
      refine S_list (T_val (v := (Value.bool (decide (x41_.kind = 2)))) (x_move rfl) ?_)
      rcases Bool.eq_false_or_eq_true (decide (x41_.kind = 2)) with c117_t | c117_f
      · have c117_tp : x41_.kind = 2 := of_decide_eq_true c117_t
        refine S_yes (j := 3) (dj := 41) (b := true) rfl rfl (congrArg Value.bool c117_t) (T_val (v := (Value.pointer (some ⟨b17_, 0, none⟩))) (x_move rfl) ?_)
        have H122_ : Holds w60_ (ro R :: cl b17_ 135 [(Value.map (some b7_)), v0] :: sl 77 1 v0 (List.length q) (ptrs q) :: fam 137 (encs q) :: mp (Value.int .i64) b7_ m :: cl b55_ 30 [(Value.bool false), (Value.int .i64 0), (Value.int .i64 0), (Value.int .i64 0)] :: cl b45_ 25 [(Value.int .i64 x41_.kind), (Value.int .i64 x41_.iD), (Value.int .i64 x41_.at_)] :: sl 30 4 vo (List.length an) (an.flatMap QAns.cells) :: F) := (Holds.bring (Holds.bring (Holds.bring (Holds.bring (Holds.bring H61_ 6 rfl) 4 rfl) 6 rfl) 6 rfl) 7 rfl)
        refine S_yes (j := 3) (dj := 41) (b := true) rfl rfl (congrArg Value.bool c117_t) (T_call (al := [(Value.pointer (some ⟨b17_, 0, none⟩))]) (pre := [cl b17_ 135 [(Value.map (some b7_)), v0], sl 77 1 v0 (List.length q) (ptrs q), fam 137 (encs q), mp (Value.int .i64) b7_ m]) (F := cl b55_ 30 [(Value.bool false), (Value.int .i64 0), (Value.int .i64 0), (Value.int .i64 0)] :: cl b45_ 25 [(Value.int .i64 x41_.kind), (Value.int .i64 x41_.iD), (Value.int .i64 x41_.at_)] :: sl 30 4 vo (List.length an) (an.flatMap QAns.cells) :: F) rfl rfl cb34 (qPeek R b17_ b7_ v0 q m (by first | assumption | omega) (by first | assumption | omega)) H122_ ?_)
        rintro v118_ p126_ w123_ hq127_ S125_ H124_
        rcases hq127_ with ⟨rfl, rfl, he119_⟩ | ⟨x120_, rfl, rfl, he121_⟩
        · skip
          replace H124_ : Holds w123_ (ro R :: cl b17_ 135 [(Value.map (some b7_)), v0] :: sl 77 1 v0 (List.length q) (ptrs q) :: fam 137 (encs q) :: mp (Value.int .i64) b7_ m :: cl b55_ 30 [(Value.bool false), (Value.int .i64 0), (Value.int .i64 0), (Value.int .i64 0)] :: cl b45_ 25 [(Value.int .i64 x41_.kind), (Value.int .i64 x41_.iD), (Value.int .i64 x41_.at_)] :: sl 30 4 vo (List.length an) (an.flatMap QAns.cells) :: F) := H124_
          have S128_ := Same.trans S63_ S125_
          refine S_yes (j := 3) (dj := 41) (b := true) rfl rfl (congrArg Value.bool c117_t) (T_val (v := (Value.bool false)) (by kernel_rfl) ?_)
          refine S_list (T_pickT (v := (Value.bool false)) (congrArg Value.bool c117_t) rfl ?_)
          refine S_list (T_val (v := (Value.bool false)) (x_assign rfl) ?_)
          refine wpList_nil ?_
          refine (X_then (hK116_ _ _ ?_))
          clear hK116_
          refine C_condF rfl ?_
          refine C_seq (fun K130_ hK130_ => ?_)
          refine C_reg ?_
          refine S_list (T_val (v := (Value.pointer (some ⟨b45_, 0, none⟩))) (by kernel_rfl) ?_)
          refine S_list (T_val (v := (Value.int .i64 x41_.kind)) (x_load1 rfl Try.underlying3 rfl ((Holds.rd H124_ 6 rfl) 0 (Value.int .i64 x41_.kind) rfl)) ?_)
          refine S_list (T_val (v := (Value.bool (decide (x41_.kind = 3)))) (x_bin rfl rfl rfl) ?_)
          refine S_list (T_val (v := (Value.bool (decide (x41_.kind = 3)))) (x_move rfl) ?_)
          rcases Bool.eq_false_or_eq_true (decide (x41_.kind = 3)) with c131_t | c131_f
          · have c131_tp : x41_.kind = 3 := of_decide_eq_true c131_t
            omega
          · have c131_fp : ¬ (x41_.kind = 3) := of_decide_eq_false c131_f
            refine S_no (j := 3) (dj := 60) (b := false) rfl rfl (congrArg Value.bool c131_f) (by decide) ?_
            refine S_no (j := 3) (dj := 60) (b := false) rfl rfl (congrArg Value.bool c131_f) (by decide) ?_
            refine S_no (j := 3) (dj := 60) (b := false) rfl rfl (congrArg Value.bool c131_f) (by decide) ?_
            refine S_list (T_pickF (v := (Value.bool false)) (congrArg Value.bool c131_f) rfl ?_)
            refine S_list (T_val (v := (Value.bool false)) (x_assign rfl) ?_)
            refine wpList_nil ?_
            refine (X_then (hK130_ _ _ ?_))
            clear hK130_
            refine C_condF rfl ?_
            refine C_seq (fun K132_ hK132_ => ?_)
            refine C_reg ?_
            refine S_list (T_val (v := (Value.pointer (some ⟨b45_, 0, none⟩))) (by kernel_rfl) ?_)
            refine S_list (T_val (v := (Value.int .i64 x41_.kind)) (x_load1 rfl Try.underlying3 rfl ((Holds.rd H124_ 6 rfl) 0 (Value.int .i64 x41_.kind) rfl)) ?_)
            refine S_list (T_val (v := (Value.bool (decide (x41_.kind = 4)))) (x_bin rfl rfl rfl) ?_)
            refine S_list (T_val (v := (Value.bool (decide (x41_.kind = 4)))) (x_assign rfl) ?_)
            refine wpList_nil ?_
            refine (X_then (hK132_ _ _ ?_))
            clear hK132_
            refine C_cond (b := decide (x41_.kind = 4)) rfl (fun c133_t => ?_) (fun c133_f => ?_)
            · have c133_tp : x41_.kind = 4 := of_decide_eq_true c133_t
              omega
            · have c133_fp : ¬ (x41_.kind = 4) := of_decide_eq_false c133_f
              refine C_skip (X_blkN (X_then (hK64_ _ _ ?_)))
              clear hK64_
              refine C_reg ?_
              refine S_list (T_val (v := vo) (x_move rfl) ?_)
              refine S_list (T_val (v := (Value.agg #[(Value.bool false), (Value.int .i64 0), (Value.int .i64 0), (Value.int .i64 0)])) (x_loadN (vs := [(Value.bool false), (Value.int .i64 0), (Value.int .i64 0), (Value.int .i64 0)]) rfl Try.underlying30 rfl z30 rfl (Rd.cells (Holds.rd H124_ 5 rfl) 0 rfl)) ?_)
              refine S_list (T_new (obj := .cells #[(Value.bool false), (Value.int .i64 0), (Value.int .i64 0), (Value.int .i64 0)] 30) (f := fun b__ => .slice (some ⟨b__, 0, none⟩) 1 1) (A := fun b__ => cl b__ 30 [(Value.bool false), (Value.int .i64 0), (Value.int .i64 0), (Value.int .i64 0)]) (by kernel_rfl) (fun l h => h.alloc _ _) H124_ ?_)
              intro b134_ w135_ S137_ H136_
              replace H136_ : Holds w135_ (cl b134_ 30 [(Value.bool false), (Value.int .i64 0), (Value.int .i64 0), (Value.int .i64 0)] :: ro R :: cl b17_ 135 [(Value.map (some b7_)), v0] :: sl 77 1 v0 (List.length q) (ptrs q) :: fam 137 (encs q) :: mp (Value.int .i64) b7_ m :: cl b55_ 30 [(Value.bool false), (Value.int .i64 0), (Value.int .i64 0), (Value.int .i64 0)] :: cl b45_ 25 [(Value.int .i64 x41_.kind), (Value.int .i64 x41_.iD), (Value.int .i64 x41_.at_)] :: sl 30 4 vo (List.length an) (an.flatMap QAns.cells) :: F) := H136_
              have S138_ := Same.trans S128_ S137_
              refine S_list (T_append rfl rfl Try.underlying27 z30 rfl (by decide) H136_ 8 rfl (Holds.cl_src H136_ 0 rfl Try.underlying27 (by simp [Value.oneCell']) rfl) (by omega) ?_)
              intro v139_ w140_ S142_ H141_
              replace H141_ : Holds w140_ (cl b134_ 30 [(Value.bool false), (Value.int .i64 0), (Value.int .i64 0), (Value.int .i64 0)] :: ro R :: cl b17_ 135 [(Value.map (some b7_)), v0] :: sl 77 1 v0 (List.length q) (ptrs q) :: fam 137 (encs q) :: mp (Value.int .i64) b7_ m :: cl b55_ 30 [(Value.bool false), (Value.int .i64 0), (Value.int .i64 0), (Value.int .i64 0)] :: cl b45_ 25 [(Value.int .i64 x41_.kind), (Value.int .i64 x41_.iD), (Value.int .i64 x41_.at_)] :: sl 30 4 v139_ ((List.length an) + 1) ((an.flatMap QAns.cells) ++ [(Value.bool false), (Value.int .i64 0), (Value.int .i64 0), (Value.int .i64 0)]) :: F) := H141_
              have S143_ := Same.trans S138_ S142_
              refine S_list (T_val (v := v139_) (x_assign rfl) ?_)
              refine wpList_nil ?_
              refine (X_blkN (X_then (hK39_ _ _ ?_)))
              clear hK39_
              refine C_reg ?_
              refine S_list (T_val (v := (Value.int .i64 (k : Int))) (x_move rfl) ?_)
              refine S_list (T_val (v := (Value.int .i64 ((k : Int) + 1))) (x_bin rfl rfl (ib_add (IntWalk.i64_in _ (by omega)))) ?_)
              refine S_list (T_val (v := (Value.int .i64 ((k : Int) + 1))) (x_assign rfl) ?_)
              refine wpList_nil ?_
              refine (X_then ?_)
              have H144_ : Holds w140_ (cl b134_ 30 [(Value.bool false), (Value.int .i64 0), (Value.int .i64 0), (Value.int .i64 0)] :: ro R :: cl b17_ 135 [(Value.map (some b7_)), v0] :: sl 77 1 v0 (List.length q) (ptrs q) :: fam 137 (encs q) :: mp (Value.int .i64) b7_ m :: cl b55_ 30 [(Value.bool false), (Value.int .i64 0), (Value.int .i64 0), (Value.int .i64 0)] :: cl b45_ 25 [(Value.int .i64 x41_.kind), (Value.int .i64 x41_.iD), (Value.int .i64 x41_.at_)] :: sl 30 4 v139_ (List.length (an ++ [(⟨false, 0, 0, 0⟩ : QAns)])) ((an ++ [(⟨false, 0, 0, 0⟩ : QAns)]).flatMap QAns.cells) :: F) := cast2 (P := fun (c__ : List Value) (k__ : Nat) => Holds w140_ (cl b134_ 30 [(Value.bool false), (Value.int .i64 0), (Value.int .i64 0), (Value.int .i64 0)] :: ro R :: cl b17_ 135 [(Value.map (some b7_)), v0] :: sl 77 1 v0 (List.length q) (ptrs q) :: fam 137 (encs q) :: mp (Value.int .i64) b7_ m :: cl b55_ 30 [(Value.bool false), (Value.int .i64 0), (Value.int .i64 0), (Value.int .i64 0)] :: cl b45_ 25 [(Value.int .i64 x41_.kind), (Value.int .i64 x41_.iD), (Value.int .i64 x41_.at_)] :: sl 30 4 v139_ k__ c__ :: F)) ((by first | rfl | (simp [QOp.cells, QAns.cells]; done)) : (an.flatMap QAns.cells) ++ [(Value.bool false), (Value.int .i64 0), (Value.int .i64 0), (Value.int .i64 0)] = (an ++ [(⟨false, 0, 0, 0⟩ : QAns)]).flatMap QAns.cells) ((by first | rfl | omega | (simp; done) | (simp; omega)) : (List.length an) + 1 = (List.length (an ++ [(⟨false, 0, 0, 0⟩ : QAns)]))) H141_
              have H145_ : Holds w140_ (sl 30 4 v139_ (List.length (an ++ [(⟨false, 0, 0, 0⟩ : QAns)])) ((an ++ [(⟨false, 0, 0, 0⟩ : QAns)]).flatMap QAns.cells) :: fam 137 (encs q) :: cl b17_ 135 [(Value.map (some b7_)), v0] :: sl 77 1 v0 (List.length q) (ptrs q) :: mp (Value.int .i64) b7_ m :: ro R :: F) := (Holds.erase (Holds.erase (Holds.erase (Holds.bring (Holds.bring (Holds.bring (Holds.bring (Holds.bring (Holds.bring H144_ 1 rfl) 5 rfl) 4 rfl) 4 rfl) 5 rfl) 8 rfl) 6) 6) 6)
              exact ⟨⟨k + 1, v0, q, m, an ++ [(⟨false, 0, 0, 0⟩ : QAns)], v139_⟩, ⟨_, congrArg (fun e => mkA 87 e []) (ch (ch (ch (ch (ch rfl rfl) rfl) rfl) rfl) (congrArg (Value.int .i64) ((by first | rfl | omega | (simp; done) | (simp; omega)) : (k : Int) + 1 = ((k + 1 : Nat) : Int)))), H145_, S143_, (by first | assumption | omega | exact rfl), (hqi), (QRun.next hrun hx42_ (⟨false, 0, 0, 0⟩ : QAns) (.inr (.inl ⟨by omega, rfl, .inl ⟨by simp_all [dd], rfl⟩⟩))), (htb), (by omega), (by simp; omega)⟩, by first | omega | (dsimp only; omega) | (simp; omega)⟩
        · skip
          replace H124_ : Holds w123_ (ro R :: cl b17_ 135 [(Value.map (some b7_)), v0] :: sl 77 1 v0 (List.length q) (ptrs q) :: fam 137 (encs q) :: mp (Value.int .i64) b7_ m :: cl b55_ 30 [(Value.bool false), (Value.int .i64 0), (Value.int .i64 0), (Value.int .i64 0)] :: cl b45_ 25 [(Value.int .i64 x41_.kind), (Value.int .i64 x41_.iD), (Value.int .i64 x41_.at_)] :: sl 30 4 vo (List.length an) (an.flatMap QAns.cells) :: F) := H124_
          have S129_ := Same.trans S63_ S125_
          have hb_ := htb _ (List.mem_map_of_mem (List.mem_of_getElem? he121_))
          dsimp only at hb_
          refine S_yes (j := 3) (dj := 41) (b := true) rfl rfl (congrArg Value.bool c117_t) (T_val (v := (Value.bool true)) (by kernel_rfl) ?_)
          refine S_list (T_pickT (v := (Value.bool true)) (congrArg Value.bool c117_t) rfl ?_)
          refine S_list (T_val (v := (Value.bool true)) (x_assign rfl) ?_)
          refine wpList_nil ?_
          refine (X_then (hK116_ _ _ ?_))
          clear hK116_
          refine C_condT rfl ?_
          refine C_seq (fun K146_ hK146_ => ?_)
          refine C_reg ?_
          refine S_list (T_val (v := (Value.pointer (some ⟨b17_, 0, none⟩))) (x_move rfl) ?_)
          refine S_list (T_call (al := [(Value.pointer (some ⟨b17_, 0, none⟩))]) (pre := [cl b17_ 135 [(Value.map (some b7_)), v0], sl 77 1 v0 (List.length q) (ptrs q), fam 137 (encs q), mp (Value.int .i64) b7_ m]) (F := cl b55_ 30 [(Value.bool false), (Value.int .i64 0), (Value.int .i64 0), (Value.int .i64 0)] :: cl b45_ 25 [(Value.int .i64 x41_.kind), (Value.int .i64 x41_.iD), (Value.int .i64 x41_.at_)] :: sl 30 4 vo (List.length an) (an.flatMap QAns.cells) :: F) rfl rfl cb34 (qPeek1 R b17_ b7_ v0 q m x120_ (by first | assumption | omega) (by first | assumption | omega) (he121_)) H124_ ?_)
          rintro v147_ p151_ w148_ ⟨rfl, rfl⟩ S150_ H149_
          replace H149_ : Holds w148_ (ro R :: cl b17_ 135 [(Value.map (some b7_)), v0] :: sl 77 1 v0 (List.length q) (ptrs q) :: fam 137 (encs q) :: mp (Value.int .i64) b7_ m :: cl b55_ 30 [(Value.bool false), (Value.int .i64 0), (Value.int .i64 0), (Value.int .i64 0)] :: cl b45_ 25 [(Value.int .i64 x41_.kind), (Value.int .i64 x41_.iD), (Value.int .i64 x41_.at_)] :: sl 30 4 vo (List.length an) (an.flatMap QAns.cells) :: F) := H149_
          have S152_ := Same.trans S129_ S150_
          refine S_list (T_callW (al := [(Value.pointer (some ⟨x120_.b, 0, none⟩))]) rfl rfl cb35 (Calls.into (n := 12) (al := [(Value.pointer (some ⟨x120_.b, 0, none⟩))]) Try.func35 rfl Try.ntmps35 rfl rfl ?_))
          refine C_seq (fun K153_ hK153_ => ?_)
          refine C_reg ?_
          refine S_list (T_val (v := (Value.int .i64 0)) (x_assign rfl) ?_)
          refine S_list (T_alloc z81 H149_ ?_)
          intro b154_ w155_ S157_ H156_
          replace H156_ : Holds w155_ (cl b154_ 81 [(Value.int .i64 0), (Value.int .i64 0), (Value.bool false)] :: ro R :: cl b17_ 135 [(Value.map (some b7_)), v0] :: sl 77 1 v0 (List.length q) (ptrs q) :: fam 137 (encs q) :: mp (Value.int .i64) b7_ m :: cl b55_ 30 [(Value.bool false), (Value.int .i64 0), (Value.int .i64 0), (Value.int .i64 0)] :: cl b45_ 25 [(Value.int .i64 x41_.kind), (Value.int .i64 x41_.iD), (Value.int .i64 x41_.at_)] :: sl 30 4 vo (List.length an) (an.flatMap QAns.cells) :: F) := H156_
          have S158_ := Same.trans S152_ S157_
          refine wpList_nil ?_
          refine (X_then (hK153_ _ _ ?_))
          clear hK153_
          refine C_seq (fun K159_ hK159_ => ?_)
          refine A_start (S := fun w => SlRd v0 (ptrs q) w ∧ FamRd (encs q) w ∧ MpRd (Value.int .i64) b7_ m w ∧ SlRd vo (an.flatMap QAns.cells) w ∧ Sub R (hp w)) (N := 10) foll rfl rfl ?_
          have H160_ : Holds w155_.drew (cl b154_ 81 [(Value.int .i64 0), (Value.int .i64 0), (Value.bool false)] :: ro R :: cl b17_ 135 [(Value.map (some b7_)), v0] :: sl 77 1 v0 (List.length q) (ptrs q) :: fam 137 (encs q) :: mp (Value.int .i64) b7_ m :: cl b55_ 30 [(Value.bool false), (Value.int .i64 0), (Value.int .i64 0), (Value.int .i64 0)] :: cl b45_ 25 [(Value.int .i64 x41_.kind), (Value.int .i64 x41_.iD), (Value.int .i64 x41_.at_)] :: sl 30 4 vo (List.length an) (an.flatMap QAns.cells) :: F) := H156_
          refine A_take 0 (ls' := #[true, false, false, false, false, false, false, false, false, false]) (v := (Value.pointer (some ⟨x120_.b, 0, none⟩))) rfl (by kernel_rfl) (by kernel_rfl) (by kernel_rfl) (by kernel_rfl) (fun _ _ _ h => h) (fun w hS => x_move rfl) ⟨Holds.slrd H160_ 3 rfl, Holds.famrd H160_ 4 rfl, Holds.mprd H160_ 5 rfl, Holds.slrd H160_ 8 rfl, (Holds.ro_at H160_ 1 rfl)⟩ ?_
          refine A_take 1 (ls' := #[true, true, false, false, false, false, false, false, false, false]) (v := (Value.pointer (some ⟨x120_.b, 0, none⟩))) rfl (by kernel_rfl) (by kernel_rfl) (by kernel_rfl) (by kernel_rfl) (fun _ _ _ h => h) (fun w hS => by kernel_rfl) ⟨Holds.slrd H160_ 3 rfl, Holds.famrd H160_ 4 rfl, Holds.mprd H160_ 5 rfl, Holds.slrd H160_ 8 rfl, (Holds.ro_at H160_ 1 rfl)⟩ ?_
          refine A_take 2 (ls' := #[true, true, true, false, false, false, false, false, false, false]) (v := (Value.pointer (some ⟨x120_.b, 0, none⟩))) rfl (by kernel_rfl) (by kernel_rfl) (by kernel_rfl) (by kernel_rfl) (fun _ _ _ h => h) (fun w hS => by kernel_rfl) ⟨Holds.slrd H160_ 3 rfl, Holds.famrd H160_ 4 rfl, Holds.mprd H160_ 5 rfl, Holds.slrd H160_ 8 rfl, (Holds.ro_at H160_ 1 rfl)⟩ ?_
          refine A_take 3 (ls' := #[true, true, true, true, false, false, false, false, false, false]) (v := (Value.int .i64 x120_.id)) rfl (by kernel_rfl) (by kernel_rfl) (by kernel_rfl) (by kernel_rfl) (fun _ _ _ h => h) (fun w hS => x_load1 rfl Try.underlying79 rfl ((hS.2.1 _ _ _ (encs_at he121_)) 0 (Value.int .i64 x120_.id) rfl)) ⟨Holds.slrd H160_ 3 rfl, Holds.famrd H160_ 4 rfl, Holds.mprd H160_ 5 rfl, Holds.slrd H160_ 8 rfl, (Holds.ro_at H160_ 1 rfl)⟩ ?_
          refine A_take 4 (ls' := #[true, true, true, true, true, false, false, false, false, false]) (v := (Value.pointer (some ⟨x120_.b, 0, none⟩))) rfl (by kernel_rfl) (by kernel_rfl) (by kernel_rfl) (by kernel_rfl) (fun _ _ _ h => h) (fun w hS => x_move rfl) ⟨Holds.slrd H160_ 3 rfl, Holds.famrd H160_ 4 rfl, Holds.mprd H160_ 5 rfl, Holds.slrd H160_ 8 rfl, (Holds.ro_at H160_ 1 rfl)⟩ ?_
          refine A_take 5 (ls' := #[true, true, true, true, true, true, false, false, false, false]) (v := (Value.pointer (some ⟨x120_.b, 0, none⟩))) rfl (by kernel_rfl) (by kernel_rfl) (by kernel_rfl) (by kernel_rfl) (fun _ _ _ h => h) (fun w hS => by kernel_rfl) ⟨Holds.slrd H160_ 3 rfl, Holds.famrd H160_ 4 rfl, Holds.mprd H160_ 5 rfl, Holds.slrd H160_ 8 rfl, (Holds.ro_at H160_ 1 rfl)⟩ ?_
          refine A_take 6 (ls' := #[true, true, true, true, true, true, true, false, false, false]) (v := (Value.pointer (some ⟨x120_.b, 1, none⟩))) rfl (by kernel_rfl) (by kernel_rfl) (by kernel_rfl) (by kernel_rfl) (fun _ _ _ h => h) (fun w hS => by kernel_rfl) ⟨Holds.slrd H160_ 3 rfl, Holds.famrd H160_ 4 rfl, Holds.mprd H160_ 5 rfl, Holds.slrd H160_ 8 rfl, (Holds.ro_at H160_ 1 rfl)⟩ ?_
          refine A_take 7 (ls' := #[true, true, true, true, true, true, true, true, false, false]) (v := (Value.agg #[(Value.int .i64 (x120_.t / 1000000000)), (Value.int .i64 (x120_.t % 1000000000)), (Value.bool true)])) rfl (by kernel_rfl) (by kernel_rfl) (by kernel_rfl) (by kernel_rfl) (fun _ _ _ h => h) (fun w hS => x_loadN (vs := [(Value.int .i64 (x120_.t / 1000000000)), (Value.int .i64 (x120_.t % 1000000000)), (Value.bool true)]) rfl Try.underlying81 rfl z81 rfl (Rd.cells (hS.2.1 _ _ _ (encs_at he121_)) 1 rfl)) ⟨Holds.slrd H160_ 3 rfl, Holds.famrd H160_ 4 rfl, Holds.mprd H160_ 5 rfl, Holds.slrd H160_ 8 rfl, (Holds.ro_at H160_ 1 rfl)⟩ ?_
          refine A_take 8 (ls' := #[true, true, true, true, true, true, true, true, true, false]) (v := (Value.int .i64 x120_.id)) rfl (by kernel_rfl) (by kernel_rfl) (by kernel_rfl) (by kernel_rfl) (fun _ _ _ h => h) (fun w hS => x_assign rfl) ⟨Holds.slrd H160_ 3 rfl, Holds.famrd H160_ 4 rfl, Holds.mprd H160_ 5 rfl, Holds.slrd H160_ 8 rfl, (Holds.ro_at H160_ 1 rfl)⟩ ?_
          refine A_ready (i := 9) (rs := []) (by kernel_rfl) ?_
          refine AllR.cons ?_ AllR.nil
          refine A_op0 (ls' := #[true, true, true, true, true, true, true, true, true, true]) rfl (by kernel_rfl) (T_storeN (vs := [(Value.int .i64 (x120_.t / 1000000000)), (Value.int .i64 (x120_.t % 1000000000)), (Value.bool true)]) rfl rfl z81 rfl (by simp [Value.oneCell']) H160_ 0 rfl (Nat.le_of_ble_eq_true (by rfl)) ?_)
          intro w161_ S163_ H162_
          replace H162_ : Holds w161_ (cl b154_ 81 [(Value.int .i64 (x120_.t / 1000000000)), (Value.int .i64 (x120_.t % 1000000000)), (Value.bool true)] :: ro R :: cl b17_ 135 [(Value.map (some b7_)), v0] :: sl 77 1 v0 (List.length q) (ptrs q) :: fam 137 (encs q) :: mp (Value.int .i64) b7_ m :: cl b55_ 30 [(Value.bool false), (Value.int .i64 0), (Value.int .i64 0), (Value.int .i64 0)] :: cl b45_ 25 [(Value.int .i64 x41_.kind), (Value.int .i64 x41_.iD), (Value.int .i64 x41_.at_)] :: sl 30 4 vo (List.length an) (an.flatMap QAns.cells) :: F) := H162_
          have S164_ := Same.trans (Same.trans S158_ (Same.drew _)) S163_
          refine ⟨⟨Holds.slrd H162_ 3 rfl, Holds.famrd H162_ 4 rfl, Holds.mprd H162_ 5 rfl, Holds.slrd H162_ 8 rfl, (Holds.ro_at H162_ 1 rfl)⟩, ?_⟩
          refine A_done (by kernel_rfl) ?_
          refine (X_then (hK159_ _ _ ?_))
          clear hK159_
          refine C_ret ?_
          refine R_any (v := (Value.tuple #[(Value.int .i64 x120_.id), (Value.agg #[(Value.int .i64 (x120_.t / 1000000000)), (Value.int .i64 (x120_.t % 1000000000)), (Value.bool true)])])) (run_results2 rfl rfl ⟨_, rfl, load_resN Try.underlying81 rfl z81 rfl (vs := [(Value.int .i64 (x120_.t / 1000000000)), (Value.int .i64 (x120_.t % 1000000000)), (Value.bool true)]) (Holds.cl_cells H162_ 0 rfl 0 rfl)⟩) ⟨_, rfl, ?_⟩
          refine S_list (T_val (v := (Value.tuple #[(Value.int .i64 x120_.id), (Value.agg #[(Value.int .i64 (x120_.t / 1000000000)), (Value.int .i64 (x120_.t % 1000000000)), (Value.bool true)])])) (x_move rfl) ?_)
          refine S_list (T_val (v := (Value.int .i64 x120_.id)) (by kernel_rfl) ?_)
          refine S_list (T_val (v := (Value.agg #[(Value.int .i64 (x120_.t / 1000000000)), (Value.int .i64 (x120_.t % 1000000000)), (Value.bool true)])) (by kernel_rfl) ?_)
          refine S_list (T_alloc z81 H162_ ?_)
          intro b165_ w166_ S168_ H167_
          replace H167_ : Holds w166_ (cl b165_ 81 [(Value.int .i64 0), (Value.int .i64 0), (Value.bool false)] :: cl b154_ 81 [(Value.int .i64 (x120_.t / 1000000000)), (Value.int .i64 (x120_.t % 1000000000)), (Value.bool true)] :: ro R :: cl b17_ 135 [(Value.map (some b7_)), v0] :: sl 77 1 v0 (List.length q) (ptrs q) :: fam 137 (encs q) :: mp (Value.int .i64) b7_ m :: cl b55_ 30 [(Value.bool false), (Value.int .i64 0), (Value.int .i64 0), (Value.int .i64 0)] :: cl b45_ 25 [(Value.int .i64 x41_.kind), (Value.int .i64 x41_.iD), (Value.int .i64 x41_.at_)] :: sl 30 4 vo (List.length an) (an.flatMap QAns.cells) :: F) := H167_
          have S169_ := Same.trans S164_ S168_
          refine S_list (T_val (v := (Value.int .i64 x120_.id)) (x_assign rfl) ?_)
          refine S_list0 (T_storeN (vs := [(Value.int .i64 (x120_.t / 1000000000)), (Value.int .i64 (x120_.t % 1000000000)), (Value.bool true)]) rfl rfl z81 rfl (by simp [Value.oneCell']) H167_ 0 rfl (Nat.le_of_ble_eq_true (by rfl)) ?_)
          intro w170_ S172_ H171_
          replace H171_ : Holds w170_ (cl b165_ 81 [(Value.int .i64 (x120_.t / 1000000000)), (Value.int .i64 (x120_.t % 1000000000)), (Value.bool true)] :: cl b154_ 81 [(Value.int .i64 (x120_.t / 1000000000)), (Value.int .i64 (x120_.t % 1000000000)), (Value.bool true)] :: ro R :: cl b17_ 135 [(Value.map (some b7_)), v0] :: sl 77 1 v0 (List.length q) (ptrs q) :: fam 137 (encs q) :: mp (Value.int .i64) b7_ m :: cl b55_ 30 [(Value.bool false), (Value.int .i64 0), (Value.int .i64 0), (Value.int .i64 0)] :: cl b45_ 25 [(Value.int .i64 x41_.kind), (Value.int .i64 x41_.iD), (Value.int .i64 x41_.at_)] :: sl 30 4 vo (List.length an) (an.flatMap QAns.cells) :: F) := H171_
          have S173_ := Same.trans S169_ S172_
          refine wpList_nil ?_
          refine (X_then (hK146_ _ _ ?_))
          clear hK146_
          refine C_reg ?_
          refine S_list (T_val (v := (Value.int .i64 x120_.id)) (x_move rfl) ?_)
          refine S_list (T_val (v := (Value.agg #[(Value.int .i64 (x120_.t / 1000000000)), (Value.int .i64 (x120_.t % 1000000000)), (Value.bool true)])) (x_loadN (vs := [(Value.int .i64 (x120_.t / 1000000000)), (Value.int .i64 (x120_.t % 1000000000)), (Value.bool true)]) rfl Try.underlying81 rfl z81 rfl (Rd.cells (Holds.rd H171_ 0 rfl) 0 rfl)) ?_)
          have H175_ : Holds w170_ (ro R :: cl b165_ 81 [(Value.int .i64 (x120_.t / 1000000000)), (Value.int .i64 (x120_.t % 1000000000)), (Value.bool true)] :: cl b154_ 81 [(Value.int .i64 (x120_.t / 1000000000)), (Value.int .i64 (x120_.t % 1000000000)), (Value.bool true)] :: cl b17_ 135 [(Value.map (some b7_)), v0] :: sl 77 1 v0 (List.length q) (ptrs q) :: fam 137 (encs q) :: mp (Value.int .i64) b7_ m :: cl b55_ 30 [(Value.bool false), (Value.int .i64 0), (Value.int .i64 0), (Value.int .i64 0)] :: cl b45_ 25 [(Value.int .i64 x41_.kind), (Value.int .i64 x41_.iD), (Value.int .i64 x41_.at_)] :: sl 30 4 vo (List.length an) (an.flatMap QAns.cells) :: F) := (Holds.bring H171_ 2 rfl)
          refine S_list (T_call (al := [(Value.agg #[(Value.int .i64 (x120_.t / 1000000000)), (Value.int .i64 (x120_.t % 1000000000)), (Value.bool true)])]) (pre := []) (F := cl b165_ 81 [(Value.int .i64 (x120_.t / 1000000000)), (Value.int .i64 (x120_.t % 1000000000)), (Value.bool true)] :: cl b154_ 81 [(Value.int .i64 (x120_.t / 1000000000)), (Value.int .i64 (x120_.t % 1000000000)), (Value.bool true)] :: cl b17_ 135 [(Value.map (some b7_)), v0] :: sl 77 1 v0 (List.length q) (ptrs q) :: fam 137 (encs q) :: mp (Value.int .i64) b7_ m :: cl b55_ 30 [(Value.bool false), (Value.int .i64 0), (Value.int .i64 0), (Value.int .i64 0)] :: cl b45_ 25 [(Value.int .i64 x41_.kind), (Value.int .i64 x41_.iD), (Value.int .i64 x41_.at_)] :: sl 30 4 vo (List.length an) (an.flatMap QAns.cells) :: F) rfl rfl cb36 (qNanos R x120_.t (by first | assumption | omega) (by first | assumption | omega)) H175_ ?_)
          rintro v174_ p179_ w176_ ⟨rfl, rfl⟩ S178_ H177_
          replace H177_ : Holds w176_ (ro R :: cl b165_ 81 [(Value.int .i64 (x120_.t / 1000000000)), (Value.int .i64 (x120_.t % 1000000000)), (Value.bool true)] :: cl b154_ 81 [(Value.int .i64 (x120_.t / 1000000000)), (Value.int .i64 (x120_.t % 1000000000)), (Value.bool true)] :: cl b17_ 135 [(Value.map (some b7_)), v0] :: sl 77 1 v0 (List.length q) (ptrs q) :: fam 137 (encs q) :: mp (Value.int .i64) b7_ m :: cl b55_ 30 [(Value.bool false), (Value.int .i64 0), (Value.int .i64 0), (Value.int .i64 0)] :: cl b45_ 25 [(Value.int .i64 x41_.kind), (Value.int .i64 x41_.iD), (Value.int .i64 x41_.at_)] :: sl 30 4 vo (List.length an) (an.flatMap QAns.cells) :: F) := H177_
          have S180_ := Same.trans S173_ S178_
          refine S_list (T_val (v := (Value.agg #[(Value.bool true), (Value.int .i64 x120_.id), (Value.int .i64 x120_.t), (Value.int .i64 0)])) (by kernel_rfl) ?_)
          refine S_list0 (T_storeN (vs := [(Value.bool true), (Value.int .i64 x120_.id), (Value.int .i64 x120_.t), (Value.int .i64 0)]) rfl rfl z30 rfl (by simp [Value.oneCell']) H177_ 7 rfl (Nat.le_of_ble_eq_true (by rfl)) ?_)
          intro w181_ S183_ H182_
          replace H182_ : Holds w181_ (ro R :: cl b165_ 81 [(Value.int .i64 (x120_.t / 1000000000)), (Value.int .i64 (x120_.t % 1000000000)), (Value.bool true)] :: cl b154_ 81 [(Value.int .i64 (x120_.t / 1000000000)), (Value.int .i64 (x120_.t % 1000000000)), (Value.bool true)] :: cl b17_ 135 [(Value.map (some b7_)), v0] :: sl 77 1 v0 (List.length q) (ptrs q) :: fam 137 (encs q) :: mp (Value.int .i64) b7_ m :: cl b55_ 30 [(Value.bool true), (Value.int .i64 x120_.id), (Value.int .i64 x120_.t), (Value.int .i64 0)] :: cl b45_ 25 [(Value.int .i64 x41_.kind), (Value.int .i64 x41_.iD), (Value.int .i64 x41_.at_)] :: sl 30 4 vo (List.length an) (an.flatMap QAns.cells) :: F) := H182_
          have S184_ := Same.trans S180_ S183_
          refine wpList_nil ?_
          refine (X_blkN (X_then (hK64_ _ _ ?_)))
          clear hK64_
          refine C_reg ?_
          refine S_list (T_val (v := vo) (x_move rfl) ?_)
          refine S_list (T_val (v := (Value.agg #[(Value.bool true), (Value.int .i64 x120_.id), (Value.int .i64 x120_.t), (Value.int .i64 0)])) (x_loadN (vs := [(Value.bool true), (Value.int .i64 x120_.id), (Value.int .i64 x120_.t), (Value.int .i64 0)]) rfl Try.underlying30 rfl z30 rfl (Rd.cells (Holds.rd H182_ 7 rfl) 0 rfl)) ?_)
          refine S_list (T_new (obj := .cells #[(Value.bool true), (Value.int .i64 x120_.id), (Value.int .i64 x120_.t), (Value.int .i64 0)] 30) (f := fun b__ => .slice (some ⟨b__, 0, none⟩) 1 1) (A := fun b__ => cl b__ 30 [(Value.bool true), (Value.int .i64 x120_.id), (Value.int .i64 x120_.t), (Value.int .i64 0)]) (by kernel_rfl) (fun l h => h.alloc _ _) H182_ ?_)
          intro b185_ w186_ S188_ H187_
          replace H187_ : Holds w186_ (cl b185_ 30 [(Value.bool true), (Value.int .i64 x120_.id), (Value.int .i64 x120_.t), (Value.int .i64 0)] :: ro R :: cl b165_ 81 [(Value.int .i64 (x120_.t / 1000000000)), (Value.int .i64 (x120_.t % 1000000000)), (Value.bool true)] :: cl b154_ 81 [(Value.int .i64 (x120_.t / 1000000000)), (Value.int .i64 (x120_.t % 1000000000)), (Value.bool true)] :: cl b17_ 135 [(Value.map (some b7_)), v0] :: sl 77 1 v0 (List.length q) (ptrs q) :: fam 137 (encs q) :: mp (Value.int .i64) b7_ m :: cl b55_ 30 [(Value.bool true), (Value.int .i64 x120_.id), (Value.int .i64 x120_.t), (Value.int .i64 0)] :: cl b45_ 25 [(Value.int .i64 x41_.kind), (Value.int .i64 x41_.iD), (Value.int .i64 x41_.at_)] :: sl 30 4 vo (List.length an) (an.flatMap QAns.cells) :: F) := H187_
          have S189_ := Same.trans S184_ S188_
          refine S_list (T_append rfl rfl Try.underlying27 z30 rfl (by decide) H187_ 10 rfl (Holds.cl_src H187_ 0 rfl Try.underlying27 (by simp [Value.oneCell']) rfl) (by omega) ?_)
          intro v190_ w191_ S193_ H192_
          replace H192_ : Holds w191_ (cl b185_ 30 [(Value.bool true), (Value.int .i64 x120_.id), (Value.int .i64 x120_.t), (Value.int .i64 0)] :: ro R :: cl b165_ 81 [(Value.int .i64 (x120_.t / 1000000000)), (Value.int .i64 (x120_.t % 1000000000)), (Value.bool true)] :: cl b154_ 81 [(Value.int .i64 (x120_.t / 1000000000)), (Value.int .i64 (x120_.t % 1000000000)), (Value.bool true)] :: cl b17_ 135 [(Value.map (some b7_)), v0] :: sl 77 1 v0 (List.length q) (ptrs q) :: fam 137 (encs q) :: mp (Value.int .i64) b7_ m :: cl b55_ 30 [(Value.bool true), (Value.int .i64 x120_.id), (Value.int .i64 x120_.t), (Value.int .i64 0)] :: cl b45_ 25 [(Value.int .i64 x41_.kind), (Value.int .i64 x41_.iD), (Value.int .i64 x41_.at_)] :: sl 30 4 v190_ ((List.length an) + 1) ((an.flatMap QAns.cells) ++ [(Value.bool true), (Value.int .i64 x120_.id), (Value.int .i64 x120_.t), (Value.int .i64 0)]) :: F) := H192_
          have S194_ := Same.trans S189_ S193_
          refine S_list (T_val (v := v190_) (x_assign rfl) ?_)
          refine wpList_nil ?_
          refine (X_blkN (X_then (hK39_ _ _ ?_)))
          clear hK39_
          refine C_reg ?_
          refine S_list (T_val (v := (Value.int .i64 (k : Int))) (x_move rfl) ?_)
          refine S_list (T_val (v := (Value.int .i64 ((k : Int) + 1))) (x_bin rfl rfl (ib_add (IntWalk.i64_in _ (by omega)))) ?_)
          refine S_list (T_val (v := (Value.int .i64 ((k : Int) + 1))) (x_assign rfl) ?_)
          refine wpList_nil ?_
          refine (X_then ?_)
          have H195_ : Holds w191_ (cl b185_ 30 [(Value.bool true), (Value.int .i64 x120_.id), (Value.int .i64 x120_.t), (Value.int .i64 0)] :: ro R :: cl b165_ 81 [(Value.int .i64 (x120_.t / 1000000000)), (Value.int .i64 (x120_.t % 1000000000)), (Value.bool true)] :: cl b154_ 81 [(Value.int .i64 (x120_.t / 1000000000)), (Value.int .i64 (x120_.t % 1000000000)), (Value.bool true)] :: cl b17_ 135 [(Value.map (some b7_)), v0] :: sl 77 1 v0 (List.length q) (ptrs q) :: fam 137 (encs q) :: mp (Value.int .i64) b7_ m :: cl b55_ 30 [(Value.bool true), (Value.int .i64 x120_.id), (Value.int .i64 x120_.t), (Value.int .i64 0)] :: cl b45_ 25 [(Value.int .i64 x41_.kind), (Value.int .i64 x41_.iD), (Value.int .i64 x41_.at_)] :: sl 30 4 v190_ (List.length (an ++ [(⟨true, x120_.id, x120_.t, 0⟩ : QAns)])) ((an ++ [(⟨true, x120_.id, x120_.t, 0⟩ : QAns)]).flatMap QAns.cells) :: F) := cast2 (P := fun (c__ : List Value) (k__ : Nat) => Holds w191_ (cl b185_ 30 [(Value.bool true), (Value.int .i64 x120_.id), (Value.int .i64 x120_.t), (Value.int .i64 0)] :: ro R :: cl b165_ 81 [(Value.int .i64 (x120_.t / 1000000000)), (Value.int .i64 (x120_.t % 1000000000)), (Value.bool true)] :: cl b154_ 81 [(Value.int .i64 (x120_.t / 1000000000)), (Value.int .i64 (x120_.t % 1000000000)), (Value.bool true)] :: cl b17_ 135 [(Value.map (some b7_)), v0] :: sl 77 1 v0 (List.length q) (ptrs q) :: fam 137 (encs q) :: mp (Value.int .i64) b7_ m :: cl b55_ 30 [(Value.bool true), (Value.int .i64 x120_.id), (Value.int .i64 x120_.t), (Value.int .i64 0)] :: cl b45_ 25 [(Value.int .i64 x41_.kind), (Value.int .i64 x41_.iD), (Value.int .i64 x41_.at_)] :: sl 30 4 v190_ k__ c__ :: F)) ((by first | rfl | (simp [QOp.cells, QAns.cells]; done)) : (an.flatMap QAns.cells) ++ [(Value.bool true), (Value.int .i64 x120_.id), (Value.int .i64 x120_.t), (Value.int .i64 0)] = (an ++ [(⟨true, x120_.id, x120_.t, 0⟩ : QAns)]).flatMap QAns.cells) ((by first | rfl | omega | (simp; done) | (simp; omega)) : (List.length an) + 1 = (List.length (an ++ [(⟨true, x120_.id, x120_.t, 0⟩ : QAns)]))) H192_
          have H196_ : Holds w191_ (sl 30 4 v190_ (List.length (an ++ [(⟨true, x120_.id, x120_.t, 0⟩ : QAns)])) ((an ++ [(⟨true, x120_.id, x120_.t, 0⟩ : QAns)]).flatMap QAns.cells) :: fam 137 (encs q) :: cl b17_ 135 [(Value.map (some b7_)), v0] :: sl 77 1 v0 (List.length q) (ptrs q) :: mp (Value.int .i64) b7_ m :: ro R :: F) := (Holds.erase (Holds.erase (Holds.erase (Holds.erase (Holds.erase (Holds.bring (Holds.bring (Holds.bring (Holds.bring (Holds.bring (Holds.bring H195_ 1 rfl) 7 rfl) 6 rfl) 6 rfl) 7 rfl) 10 rfl) 6) 6) 6) 6) 6)
          exact ⟨⟨k + 1, v0, q, m, an ++ [(⟨true, x120_.id, x120_.t, 0⟩ : QAns)], v190_⟩, ⟨_, congrArg (fun e => mkA 87 e []) (ch (ch (ch (ch (ch rfl rfl) rfl) rfl) rfl) (congrArg (Value.int .i64) ((by first | rfl | omega | (simp; done) | (simp; omega)) : (k : Int) + 1 = ((k + 1 : Nat) : Int)))), H196_, S194_, (by first | assumption | omega | exact rfl), (hqi), (QRun.next hrun hx42_ (⟨true, x120_.id, x120_.t, 0⟩ : QAns) (.inr (.inl ⟨by omega, rfl, .inr ⟨(x120_.id, x120_.t), List.mem_map_of_mem (List.mem_of_getElem? he121_), least_dd hqi he121_, rfl⟩⟩))), (htb), (by omega), (by simp; omega)⟩, by first | omega | (dsimp only; omega) | (simp; omega)⟩
      · have c117_fp : ¬ (x41_.kind = 2) := of_decide_eq_false c117_f
        refine S_no (j := 3) (dj := 41) (b := false) rfl rfl (congrArg Value.bool c117_f) (by decide) ?_
        refine S_no (j := 3) (dj := 41) (b := false) rfl rfl (congrArg Value.bool c117_f) (by decide) ?_
        refine S_no (j := 3) (dj := 41) (b := false) rfl rfl (congrArg Value.bool c117_f) (by decide) ?_
        refine S_list (T_pickF (v := (Value.bool false)) (congrArg Value.bool c117_f) rfl ?_)
        refine S_list (T_val (v := (Value.bool false)) (x_assign rfl) ?_)
        refine wpList_nil ?_
        refine (X_then (hK116_ _ _ ?_))
        clear hK116_
        refine C_condF rfl ?_
        refine C_seq (fun K197_ hK197_ => ?_)
        refine C_reg ?_
        refine S_list (T_val (v := (Value.pointer (some ⟨b45_, 0, none⟩))) (by kernel_rfl) ?_)
        refine S_list (T_val (v := (Value.int .i64 x41_.kind)) (x_load1 rfl Try.underlying3 rfl ((Holds.rd H61_ 1 rfl) 0 (Value.int .i64 x41_.kind) rfl)) ?_)
        refine S_list (T_val (v := (Value.bool (decide (x41_.kind = 3)))) (x_bin rfl rfl rfl) ?_)
        refine S_list (T_val (v := (Value.bool (decide (x41_.kind = 3)))) (x_move rfl) ?_)
        rcases Bool.eq_false_or_eq_true (decide (x41_.kind = 3)) with c198_t | c198_f
        · have c198_tp : x41_.kind = 3 := of_decide_eq_true c198_t
          refine S_yes (j := 3) (dj := 60) (b := true) rfl rfl (congrArg Value.bool c198_t) (T_val (v := (Value.pointer (some ⟨b17_, 0, none⟩))) (x_move rfl) ?_)
          refine S_yes (j := 3) (dj := 60) (b := true) rfl rfl (congrArg Value.bool c198_t) (T_callW (al := [(Value.pointer (some ⟨b17_, 0, none⟩))]) rfl rfl cb37 (Calls.into (n := 8) (al := [(Value.pointer (some ⟨b17_, 0, none⟩))]) Try.func37 rfl Try.ntmps37 rfl rfl ?_))
          refine C_seq (fun K199_ hK199_ => ?_)
          refine C_reg ?_
          refine S_list (T_val (v := (Value.int .i64 0)) (x_assign rfl) ?_)
          refine wpList_nil ?_
          refine (X_then (hK199_ _ _ ?_))
          clear hK199_
          refine C_seq (fun K200_ hK200_ => ?_)
          refine C_reg ?_
          refine S_list (T_val (v := (Value.pointer (some ⟨b17_, 0, none⟩))) (x_move rfl) ?_)
          refine S_list (T_val (v := (Value.pointer (some ⟨b17_, 0, none⟩))) (by kernel_rfl) ?_)
          refine S_list (T_val (v := (Value.pointer (some ⟨b17_, 0, none⟩))) (by kernel_rfl) ?_)
          refine S_list (T_val (v := (Value.map (some b7_))) (x_load1 rfl Try.underlying131 rfl ((Holds.rd H61_ 4 rfl) 0 (Value.map (some b7_)) rfl)) ?_)
          refine S_list (T_val (v := (Value.int .i64 (List.length m : Int))) (x_lenMp (K := (Value.int .i64)) rfl Try.underlying131 (Holds.mprd H61_ 6 rfl)) ?_)
          refine S_list (T_val (v := (Value.int .i64 (List.length m : Int))) (x_assign rfl) ?_)
          refine wpList_nil ?_
          refine (X_then (hK200_ _ _ ?_))
          clear hK200_
          refine C_ret ?_
          refine R_any (v := (Value.int .i64 (List.length m : Int))) (run_results1 rfl rfl) ⟨_, rfl, ?_⟩
          refine S_yes (j := 3) (dj := 60) (b := true) rfl rfl (congrArg Value.bool c198_t) (T_val (v := (Value.bool (decide (0 < (List.length m : Int))))) (x_bin rfl rfl rfl) ?_)
          refine S_list (T_pickT (v := (Value.bool (decide (0 < (List.length m : Int))))) (congrArg Value.bool c198_t) rfl ?_)
          refine S_list (T_val (v := (Value.bool (decide (0 < (List.length m : Int))))) (x_assign rfl) ?_)
          refine wpList_nil ?_
          refine (X_then (hK197_ _ _ ?_))
          clear hK197_
          refine C_cond (b := decide (0 < (List.length m : Int))) rfl (fun c201_t => ?_) (fun c201_f => ?_)
          · have c201_tp : 0 < (List.length m : Int) := of_decide_eq_true c201_t
            refine C_seq (fun K202_ hK202_ => ?_)
            refine C_reg ?_
            refine S_list (T_val (v := (Value.pointer (some ⟨b17_, 0, none⟩))) (x_move rfl) ?_)
            obtain ⟨x203_, hx204_, -⟩ := elem_at q 0 (by have := hqi.ml; omega)
            have hb_ := htb _ (List.mem_map_of_mem (List.mem_of_getElem? hx204_))
            dsimp only at hb_
            have H211_ : Holds w60_ (ro R :: cl b17_ 135 [(Value.map (some b7_)), v0] :: sl 77 1 v0 (List.length q) (ptrs q) :: fam 137 (encs q) :: mp (Value.int .i64) b7_ m :: cl b55_ 30 [(Value.bool false), (Value.int .i64 0), (Value.int .i64 0), (Value.int .i64 0)] :: cl b45_ 25 [(Value.int .i64 x41_.kind), (Value.int .i64 x41_.iD), (Value.int .i64 x41_.at_)] :: sl 30 4 vo (List.length an) (an.flatMap QAns.cells) :: F) := (Holds.bring (Holds.bring (Holds.bring (Holds.bring (Holds.bring H61_ 6 rfl) 4 rfl) 6 rfl) 6 rfl) 7 rfl)
            refine S_list (T_call (al := [(Value.pointer (some ⟨b17_, 0, none⟩))]) (pre := [cl b17_ 135 [(Value.map (some b7_)), v0], sl 77 1 v0 (List.length q) (ptrs q), fam 137 (encs q), mp (Value.int .i64) b7_ m]) (F := cl b55_ 30 [(Value.bool false), (Value.int .i64 0), (Value.int .i64 0), (Value.int .i64 0)] :: cl b45_ 25 [(Value.int .i64 x41_.kind), (Value.int .i64 x41_.iD), (Value.int .i64 x41_.at_)] :: sl 30 4 vo (List.length an) (an.flatMap QAns.cells) :: F) rfl rfl cb38 (qUnreg R b17_ b7_ v0 q m x203_ (by first | assumption | omega) (by first | assumption | omega) (hx204_)) H211_ ?_)
            rintro v205_ p215_ w212_ ⟨v206_, q207_, m208_, rfl, rfl, he209_, he210_⟩ S214_ H213_
            replace H213_ : Holds w212_ (ro R :: cl b17_ 135 [(Value.map (some b7_)), v206_] :: sl 77 1 v206_ (List.length q207_) (ptrs q207_) :: fam 137 (encs q207_) :: mp (Value.int .i64) b7_ m208_ :: cl x203_.b 137 [(Value.int .i64 x203_.id), (Value.int .i64 (x203_.t / 1000000000)), (Value.int .i64 (x203_.t % 1000000000)), (Value.bool true), (Value.int .i64 (-1))] :: cl b55_ 30 [(Value.bool false), (Value.int .i64 0), (Value.int .i64 0), (Value.int .i64 0)] :: cl b45_ 25 [(Value.int .i64 x41_.kind), (Value.int .i64 x41_.iD), (Value.int .i64 x41_.at_)] :: sl 30 4 vo (List.length an) (an.flatMap QAns.cells) :: F) := H213_
            have S216_ := Same.trans S63_ S214_
            refine S_list (T_callW (al := [(Value.pointer (some ⟨x203_.b, 0, none⟩))]) rfl rfl cb35 (Calls.into (n := 12) (al := [(Value.pointer (some ⟨x203_.b, 0, none⟩))]) Try.func35 rfl Try.ntmps35 rfl rfl ?_))
            refine C_seq (fun K217_ hK217_ => ?_)
            refine C_reg ?_
            refine S_list (T_val (v := (Value.int .i64 0)) (x_assign rfl) ?_)
            refine S_list (T_alloc z81 H213_ ?_)
            intro b218_ w219_ S221_ H220_
            replace H220_ : Holds w219_ (cl b218_ 81 [(Value.int .i64 0), (Value.int .i64 0), (Value.bool false)] :: ro R :: cl b17_ 135 [(Value.map (some b7_)), v206_] :: sl 77 1 v206_ (List.length q207_) (ptrs q207_) :: fam 137 (encs q207_) :: mp (Value.int .i64) b7_ m208_ :: cl x203_.b 137 [(Value.int .i64 x203_.id), (Value.int .i64 (x203_.t / 1000000000)), (Value.int .i64 (x203_.t % 1000000000)), (Value.bool true), (Value.int .i64 (-1))] :: cl b55_ 30 [(Value.bool false), (Value.int .i64 0), (Value.int .i64 0), (Value.int .i64 0)] :: cl b45_ 25 [(Value.int .i64 x41_.kind), (Value.int .i64 x41_.iD), (Value.int .i64 x41_.at_)] :: sl 30 4 vo (List.length an) (an.flatMap QAns.cells) :: F) := H220_
            have S222_ := Same.trans S216_ S221_
            refine wpList_nil ?_
            refine (X_then (hK217_ _ _ ?_))
            clear hK217_
            refine C_seq (fun K223_ hK223_ => ?_)
            refine A_start (S := fun w => SlRd v206_ (ptrs q207_) w ∧ FamRd (encs q207_) w ∧ MpRd (Value.int .i64) b7_ m208_ w ∧ Rd x203_.b [(Value.int .i64 x203_.id), (Value.int .i64 (x203_.t / 1000000000)), (Value.int .i64 (x203_.t % 1000000000)), (Value.bool true), (Value.int .i64 (-1))] w ∧ SlRd vo (an.flatMap QAns.cells) w ∧ Sub R (hp w)) (N := 10) foll rfl rfl ?_
            have H224_ : Holds w219_.drew (cl b218_ 81 [(Value.int .i64 0), (Value.int .i64 0), (Value.bool false)] :: ro R :: cl b17_ 135 [(Value.map (some b7_)), v206_] :: sl 77 1 v206_ (List.length q207_) (ptrs q207_) :: fam 137 (encs q207_) :: mp (Value.int .i64) b7_ m208_ :: cl x203_.b 137 [(Value.int .i64 x203_.id), (Value.int .i64 (x203_.t / 1000000000)), (Value.int .i64 (x203_.t % 1000000000)), (Value.bool true), (Value.int .i64 (-1))] :: cl b55_ 30 [(Value.bool false), (Value.int .i64 0), (Value.int .i64 0), (Value.int .i64 0)] :: cl b45_ 25 [(Value.int .i64 x41_.kind), (Value.int .i64 x41_.iD), (Value.int .i64 x41_.at_)] :: sl 30 4 vo (List.length an) (an.flatMap QAns.cells) :: F) := H220_
            refine A_take 0 (ls' := #[true, false, false, false, false, false, false, false, false, false]) (v := (Value.pointer (some ⟨x203_.b, 0, none⟩))) rfl (by kernel_rfl) (by kernel_rfl) (by kernel_rfl) (by kernel_rfl) (fun _ _ _ h => h) (fun w hS => x_move rfl) ⟨Holds.slrd H224_ 3 rfl, Holds.famrd H224_ 4 rfl, Holds.mprd H224_ 5 rfl, Holds.rd H224_ 6 rfl, Holds.slrd H224_ 9 rfl, (Holds.ro_at H224_ 1 rfl)⟩ ?_
            refine A_take 1 (ls' := #[true, true, false, false, false, false, false, false, false, false]) (v := (Value.pointer (some ⟨x203_.b, 0, none⟩))) rfl (by kernel_rfl) (by kernel_rfl) (by kernel_rfl) (by kernel_rfl) (fun _ _ _ h => h) (fun w hS => by kernel_rfl) ⟨Holds.slrd H224_ 3 rfl, Holds.famrd H224_ 4 rfl, Holds.mprd H224_ 5 rfl, Holds.rd H224_ 6 rfl, Holds.slrd H224_ 9 rfl, (Holds.ro_at H224_ 1 rfl)⟩ ?_
            refine A_take 2 (ls' := #[true, true, true, false, false, false, false, false, false, false]) (v := (Value.pointer (some ⟨x203_.b, 0, none⟩))) rfl (by kernel_rfl) (by kernel_rfl) (by kernel_rfl) (by kernel_rfl) (fun _ _ _ h => h) (fun w hS => by kernel_rfl) ⟨Holds.slrd H224_ 3 rfl, Holds.famrd H224_ 4 rfl, Holds.mprd H224_ 5 rfl, Holds.rd H224_ 6 rfl, Holds.slrd H224_ 9 rfl, (Holds.ro_at H224_ 1 rfl)⟩ ?_
            refine A_take 3 (ls' := #[true, true, true, true, false, false, false, false, false, false]) (v := (Value.int .i64 x203_.id)) rfl (by kernel_rfl) (by kernel_rfl) (by kernel_rfl) (by kernel_rfl) (fun _ _ _ h => h) (fun w hS => x_load1 rfl Try.underlying79 rfl (hS.2.2.2.1 0 (Value.int .i64 x203_.id) rfl)) ⟨Holds.slrd H224_ 3 rfl, Holds.famrd H224_ 4 rfl, Holds.mprd H224_ 5 rfl, Holds.rd H224_ 6 rfl, Holds.slrd H224_ 9 rfl, (Holds.ro_at H224_ 1 rfl)⟩ ?_
            refine A_take 4 (ls' := #[true, true, true, true, true, false, false, false, false, false]) (v := (Value.pointer (some ⟨x203_.b, 0, none⟩))) rfl (by kernel_rfl) (by kernel_rfl) (by kernel_rfl) (by kernel_rfl) (fun _ _ _ h => h) (fun w hS => x_move rfl) ⟨Holds.slrd H224_ 3 rfl, Holds.famrd H224_ 4 rfl, Holds.mprd H224_ 5 rfl, Holds.rd H224_ 6 rfl, Holds.slrd H224_ 9 rfl, (Holds.ro_at H224_ 1 rfl)⟩ ?_
            refine A_take 5 (ls' := #[true, true, true, true, true, true, false, false, false, false]) (v := (Value.pointer (some ⟨x203_.b, 0, none⟩))) rfl (by kernel_rfl) (by kernel_rfl) (by kernel_rfl) (by kernel_rfl) (fun _ _ _ h => h) (fun w hS => by kernel_rfl) ⟨Holds.slrd H224_ 3 rfl, Holds.famrd H224_ 4 rfl, Holds.mprd H224_ 5 rfl, Holds.rd H224_ 6 rfl, Holds.slrd H224_ 9 rfl, (Holds.ro_at H224_ 1 rfl)⟩ ?_
            refine A_take 6 (ls' := #[true, true, true, true, true, true, true, false, false, false]) (v := (Value.pointer (some ⟨x203_.b, 1, none⟩))) rfl (by kernel_rfl) (by kernel_rfl) (by kernel_rfl) (by kernel_rfl) (fun _ _ _ h => h) (fun w hS => by kernel_rfl) ⟨Holds.slrd H224_ 3 rfl, Holds.famrd H224_ 4 rfl, Holds.mprd H224_ 5 rfl, Holds.rd H224_ 6 rfl, Holds.slrd H224_ 9 rfl, (Holds.ro_at H224_ 1 rfl)⟩ ?_
            refine A_take 7 (ls' := #[true, true, true, true, true, true, true, true, false, false]) (v := (Value.agg #[(Value.int .i64 (x203_.t / 1000000000)), (Value.int .i64 (x203_.t % 1000000000)), (Value.bool true)])) rfl (by kernel_rfl) (by kernel_rfl) (by kernel_rfl) (by kernel_rfl) (fun _ _ _ h => h) (fun w hS => x_loadN (vs := [(Value.int .i64 (x203_.t / 1000000000)), (Value.int .i64 (x203_.t % 1000000000)), (Value.bool true)]) rfl Try.underlying81 rfl z81 rfl (Rd.cells hS.2.2.2.1 1 rfl)) ⟨Holds.slrd H224_ 3 rfl, Holds.famrd H224_ 4 rfl, Holds.mprd H224_ 5 rfl, Holds.rd H224_ 6 rfl, Holds.slrd H224_ 9 rfl, (Holds.ro_at H224_ 1 rfl)⟩ ?_
            refine A_take 8 (ls' := #[true, true, true, true, true, true, true, true, true, false]) (v := (Value.int .i64 x203_.id)) rfl (by kernel_rfl) (by kernel_rfl) (by kernel_rfl) (by kernel_rfl) (fun _ _ _ h => h) (fun w hS => x_assign rfl) ⟨Holds.slrd H224_ 3 rfl, Holds.famrd H224_ 4 rfl, Holds.mprd H224_ 5 rfl, Holds.rd H224_ 6 rfl, Holds.slrd H224_ 9 rfl, (Holds.ro_at H224_ 1 rfl)⟩ ?_
            refine A_ready (i := 9) (rs := []) (by kernel_rfl) ?_
            refine AllR.cons ?_ AllR.nil
            refine A_op0 (ls' := #[true, true, true, true, true, true, true, true, true, true]) rfl (by kernel_rfl) (T_storeN (vs := [(Value.int .i64 (x203_.t / 1000000000)), (Value.int .i64 (x203_.t % 1000000000)), (Value.bool true)]) rfl rfl z81 rfl (by simp [Value.oneCell']) H224_ 0 rfl (Nat.le_of_ble_eq_true (by rfl)) ?_)
            intro w225_ S227_ H226_
            replace H226_ : Holds w225_ (cl b218_ 81 [(Value.int .i64 (x203_.t / 1000000000)), (Value.int .i64 (x203_.t % 1000000000)), (Value.bool true)] :: ro R :: cl b17_ 135 [(Value.map (some b7_)), v206_] :: sl 77 1 v206_ (List.length q207_) (ptrs q207_) :: fam 137 (encs q207_) :: mp (Value.int .i64) b7_ m208_ :: cl x203_.b 137 [(Value.int .i64 x203_.id), (Value.int .i64 (x203_.t / 1000000000)), (Value.int .i64 (x203_.t % 1000000000)), (Value.bool true), (Value.int .i64 (-1))] :: cl b55_ 30 [(Value.bool false), (Value.int .i64 0), (Value.int .i64 0), (Value.int .i64 0)] :: cl b45_ 25 [(Value.int .i64 x41_.kind), (Value.int .i64 x41_.iD), (Value.int .i64 x41_.at_)] :: sl 30 4 vo (List.length an) (an.flatMap QAns.cells) :: F) := H226_
            have S228_ := Same.trans (Same.trans S222_ (Same.drew _)) S227_
            refine ⟨⟨Holds.slrd H226_ 3 rfl, Holds.famrd H226_ 4 rfl, Holds.mprd H226_ 5 rfl, Holds.rd H226_ 6 rfl, Holds.slrd H226_ 9 rfl, (Holds.ro_at H226_ 1 rfl)⟩, ?_⟩
            refine A_done (by kernel_rfl) ?_
            refine (X_then (hK223_ _ _ ?_))
            clear hK223_
            refine C_ret ?_
            refine R_any (v := (Value.tuple #[(Value.int .i64 x203_.id), (Value.agg #[(Value.int .i64 (x203_.t / 1000000000)), (Value.int .i64 (x203_.t % 1000000000)), (Value.bool true)])])) (run_results2 rfl rfl ⟨_, rfl, load_resN Try.underlying81 rfl z81 rfl (vs := [(Value.int .i64 (x203_.t / 1000000000)), (Value.int .i64 (x203_.t % 1000000000)), (Value.bool true)]) (Holds.cl_cells H226_ 0 rfl 0 rfl)⟩) ⟨_, rfl, ?_⟩
            refine S_list (T_val (v := (Value.tuple #[(Value.int .i64 x203_.id), (Value.agg #[(Value.int .i64 (x203_.t / 1000000000)), (Value.int .i64 (x203_.t % 1000000000)), (Value.bool true)])])) (x_move rfl) ?_)
            refine S_list (T_val (v := (Value.int .i64 x203_.id)) (by kernel_rfl) ?_)
            refine S_list (T_val (v := (Value.agg #[(Value.int .i64 (x203_.t / 1000000000)), (Value.int .i64 (x203_.t % 1000000000)), (Value.bool true)])) (by kernel_rfl) ?_)
            refine S_list (T_alloc z81 H226_ ?_)
            intro b229_ w230_ S232_ H231_
            replace H231_ : Holds w230_ (cl b229_ 81 [(Value.int .i64 0), (Value.int .i64 0), (Value.bool false)] :: cl b218_ 81 [(Value.int .i64 (x203_.t / 1000000000)), (Value.int .i64 (x203_.t % 1000000000)), (Value.bool true)] :: ro R :: cl b17_ 135 [(Value.map (some b7_)), v206_] :: sl 77 1 v206_ (List.length q207_) (ptrs q207_) :: fam 137 (encs q207_) :: mp (Value.int .i64) b7_ m208_ :: cl x203_.b 137 [(Value.int .i64 x203_.id), (Value.int .i64 (x203_.t / 1000000000)), (Value.int .i64 (x203_.t % 1000000000)), (Value.bool true), (Value.int .i64 (-1))] :: cl b55_ 30 [(Value.bool false), (Value.int .i64 0), (Value.int .i64 0), (Value.int .i64 0)] :: cl b45_ 25 [(Value.int .i64 x41_.kind), (Value.int .i64 x41_.iD), (Value.int .i64 x41_.at_)] :: sl 30 4 vo (List.length an) (an.flatMap QAns.cells) :: F) := H231_
            have S233_ := Same.trans S228_ S232_
            refine S_list (T_val (v := (Value.int .i64 x203_.id)) (x_assign rfl) ?_)
            refine S_list0 (T_storeN (vs := [(Value.int .i64 (x203_.t / 1000000000)), (Value.int .i64 (x203_.t % 1000000000)), (Value.bool true)]) rfl rfl z81 rfl (by simp [Value.oneCell']) H231_ 0 rfl (Nat.le_of_ble_eq_true (by rfl)) ?_)
            intro w234_ S236_ H235_
            replace H235_ : Holds w234_ (cl b229_ 81 [(Value.int .i64 (x203_.t / 1000000000)), (Value.int .i64 (x203_.t % 1000000000)), (Value.bool true)] :: cl b218_ 81 [(Value.int .i64 (x203_.t / 1000000000)), (Value.int .i64 (x203_.t % 1000000000)), (Value.bool true)] :: ro R :: cl b17_ 135 [(Value.map (some b7_)), v206_] :: sl 77 1 v206_ (List.length q207_) (ptrs q207_) :: fam 137 (encs q207_) :: mp (Value.int .i64) b7_ m208_ :: cl x203_.b 137 [(Value.int .i64 x203_.id), (Value.int .i64 (x203_.t / 1000000000)), (Value.int .i64 (x203_.t % 1000000000)), (Value.bool true), (Value.int .i64 (-1))] :: cl b55_ 30 [(Value.bool false), (Value.int .i64 0), (Value.int .i64 0), (Value.int .i64 0)] :: cl b45_ 25 [(Value.int .i64 x41_.kind), (Value.int .i64 x41_.iD), (Value.int .i64 x41_.at_)] :: sl 30 4 vo (List.length an) (an.flatMap QAns.cells) :: F) := H235_
            have S237_ := Same.trans S233_ S236_
            refine wpList_nil ?_
            refine (X_then (hK202_ _ _ ?_))
            clear hK202_
            refine C_reg ?_
            refine S_list (T_val (v := (Value.int .i64 x203_.id)) (x_move rfl) ?_)
            refine S_list (T_val (v := (Value.agg #[(Value.int .i64 (x203_.t / 1000000000)), (Value.int .i64 (x203_.t % 1000000000)), (Value.bool true)])) (x_loadN (vs := [(Value.int .i64 (x203_.t / 1000000000)), (Value.int .i64 (x203_.t % 1000000000)), (Value.bool true)]) rfl Try.underlying81 rfl z81 rfl (Rd.cells (Holds.rd H235_ 0 rfl) 0 rfl)) ?_)
            have H239_ : Holds w234_ (ro R :: cl b229_ 81 [(Value.int .i64 (x203_.t / 1000000000)), (Value.int .i64 (x203_.t % 1000000000)), (Value.bool true)] :: cl b218_ 81 [(Value.int .i64 (x203_.t / 1000000000)), (Value.int .i64 (x203_.t % 1000000000)), (Value.bool true)] :: cl b17_ 135 [(Value.map (some b7_)), v206_] :: sl 77 1 v206_ (List.length q207_) (ptrs q207_) :: fam 137 (encs q207_) :: mp (Value.int .i64) b7_ m208_ :: cl x203_.b 137 [(Value.int .i64 x203_.id), (Value.int .i64 (x203_.t / 1000000000)), (Value.int .i64 (x203_.t % 1000000000)), (Value.bool true), (Value.int .i64 (-1))] :: cl b55_ 30 [(Value.bool false), (Value.int .i64 0), (Value.int .i64 0), (Value.int .i64 0)] :: cl b45_ 25 [(Value.int .i64 x41_.kind), (Value.int .i64 x41_.iD), (Value.int .i64 x41_.at_)] :: sl 30 4 vo (List.length an) (an.flatMap QAns.cells) :: F) := (Holds.bring H235_ 2 rfl)
            refine S_list (T_call (al := [(Value.agg #[(Value.int .i64 (x203_.t / 1000000000)), (Value.int .i64 (x203_.t % 1000000000)), (Value.bool true)])]) (pre := []) (F := cl b229_ 81 [(Value.int .i64 (x203_.t / 1000000000)), (Value.int .i64 (x203_.t % 1000000000)), (Value.bool true)] :: cl b218_ 81 [(Value.int .i64 (x203_.t / 1000000000)), (Value.int .i64 (x203_.t % 1000000000)), (Value.bool true)] :: cl b17_ 135 [(Value.map (some b7_)), v206_] :: sl 77 1 v206_ (List.length q207_) (ptrs q207_) :: fam 137 (encs q207_) :: mp (Value.int .i64) b7_ m208_ :: cl x203_.b 137 [(Value.int .i64 x203_.id), (Value.int .i64 (x203_.t / 1000000000)), (Value.int .i64 (x203_.t % 1000000000)), (Value.bool true), (Value.int .i64 (-1))] :: cl b55_ 30 [(Value.bool false), (Value.int .i64 0), (Value.int .i64 0), (Value.int .i64 0)] :: cl b45_ 25 [(Value.int .i64 x41_.kind), (Value.int .i64 x41_.iD), (Value.int .i64 x41_.at_)] :: sl 30 4 vo (List.length an) (an.flatMap QAns.cells) :: F) rfl rfl cb36 (qNanos R x203_.t (by first | assumption | omega) (by first | assumption | omega)) H239_ ?_)
            rintro v238_ p243_ w240_ ⟨rfl, rfl⟩ S242_ H241_
            replace H241_ : Holds w240_ (ro R :: cl b229_ 81 [(Value.int .i64 (x203_.t / 1000000000)), (Value.int .i64 (x203_.t % 1000000000)), (Value.bool true)] :: cl b218_ 81 [(Value.int .i64 (x203_.t / 1000000000)), (Value.int .i64 (x203_.t % 1000000000)), (Value.bool true)] :: cl b17_ 135 [(Value.map (some b7_)), v206_] :: sl 77 1 v206_ (List.length q207_) (ptrs q207_) :: fam 137 (encs q207_) :: mp (Value.int .i64) b7_ m208_ :: cl x203_.b 137 [(Value.int .i64 x203_.id), (Value.int .i64 (x203_.t / 1000000000)), (Value.int .i64 (x203_.t % 1000000000)), (Value.bool true), (Value.int .i64 (-1))] :: cl b55_ 30 [(Value.bool false), (Value.int .i64 0), (Value.int .i64 0), (Value.int .i64 0)] :: cl b45_ 25 [(Value.int .i64 x41_.kind), (Value.int .i64 x41_.iD), (Value.int .i64 x41_.at_)] :: sl 30 4 vo (List.length an) (an.flatMap QAns.cells) :: F) := H241_
            have S244_ := Same.trans S237_ S242_
            refine S_list (T_val (v := (Value.agg #[(Value.bool true), (Value.int .i64 x203_.id), (Value.int .i64 x203_.t), (Value.int .i64 0)])) (by kernel_rfl) ?_)
            refine S_list0 (T_storeN (vs := [(Value.bool true), (Value.int .i64 x203_.id), (Value.int .i64 x203_.t), (Value.int .i64 0)]) rfl rfl z30 rfl (by simp [Value.oneCell']) H241_ 8 rfl (Nat.le_of_ble_eq_true (by rfl)) ?_)
            intro w245_ S247_ H246_
            replace H246_ : Holds w245_ (ro R :: cl b229_ 81 [(Value.int .i64 (x203_.t / 1000000000)), (Value.int .i64 (x203_.t % 1000000000)), (Value.bool true)] :: cl b218_ 81 [(Value.int .i64 (x203_.t / 1000000000)), (Value.int .i64 (x203_.t % 1000000000)), (Value.bool true)] :: cl b17_ 135 [(Value.map (some b7_)), v206_] :: sl 77 1 v206_ (List.length q207_) (ptrs q207_) :: fam 137 (encs q207_) :: mp (Value.int .i64) b7_ m208_ :: cl x203_.b 137 [(Value.int .i64 x203_.id), (Value.int .i64 (x203_.t / 1000000000)), (Value.int .i64 (x203_.t % 1000000000)), (Value.bool true), (Value.int .i64 (-1))] :: cl b55_ 30 [(Value.bool true), (Value.int .i64 x203_.id), (Value.int .i64 x203_.t), (Value.int .i64 0)] :: cl b45_ 25 [(Value.int .i64 x41_.kind), (Value.int .i64 x41_.iD), (Value.int .i64 x41_.at_)] :: sl 30 4 vo (List.length an) (an.flatMap QAns.cells) :: F) := H246_
            have S248_ := Same.trans S244_ S247_
            refine wpList_nil ?_
            refine (X_blkN (X_then (hK64_ _ _ ?_)))
            clear hK64_
            refine C_reg ?_
            refine S_list (T_val (v := vo) (x_move rfl) ?_)
            refine S_list (T_val (v := (Value.agg #[(Value.bool true), (Value.int .i64 x203_.id), (Value.int .i64 x203_.t), (Value.int .i64 0)])) (x_loadN (vs := [(Value.bool true), (Value.int .i64 x203_.id), (Value.int .i64 x203_.t), (Value.int .i64 0)]) rfl Try.underlying30 rfl z30 rfl (Rd.cells (Holds.rd H246_ 8 rfl) 0 rfl)) ?_)
            refine S_list (T_new (obj := .cells #[(Value.bool true), (Value.int .i64 x203_.id), (Value.int .i64 x203_.t), (Value.int .i64 0)] 30) (f := fun b__ => .slice (some ⟨b__, 0, none⟩) 1 1) (A := fun b__ => cl b__ 30 [(Value.bool true), (Value.int .i64 x203_.id), (Value.int .i64 x203_.t), (Value.int .i64 0)]) (by kernel_rfl) (fun l h => h.alloc _ _) H246_ ?_)
            intro b249_ w250_ S252_ H251_
            replace H251_ : Holds w250_ (cl b249_ 30 [(Value.bool true), (Value.int .i64 x203_.id), (Value.int .i64 x203_.t), (Value.int .i64 0)] :: ro R :: cl b229_ 81 [(Value.int .i64 (x203_.t / 1000000000)), (Value.int .i64 (x203_.t % 1000000000)), (Value.bool true)] :: cl b218_ 81 [(Value.int .i64 (x203_.t / 1000000000)), (Value.int .i64 (x203_.t % 1000000000)), (Value.bool true)] :: cl b17_ 135 [(Value.map (some b7_)), v206_] :: sl 77 1 v206_ (List.length q207_) (ptrs q207_) :: fam 137 (encs q207_) :: mp (Value.int .i64) b7_ m208_ :: cl x203_.b 137 [(Value.int .i64 x203_.id), (Value.int .i64 (x203_.t / 1000000000)), (Value.int .i64 (x203_.t % 1000000000)), (Value.bool true), (Value.int .i64 (-1))] :: cl b55_ 30 [(Value.bool true), (Value.int .i64 x203_.id), (Value.int .i64 x203_.t), (Value.int .i64 0)] :: cl b45_ 25 [(Value.int .i64 x41_.kind), (Value.int .i64 x41_.iD), (Value.int .i64 x41_.at_)] :: sl 30 4 vo (List.length an) (an.flatMap QAns.cells) :: F) := H251_
            have S253_ := Same.trans S248_ S252_
            refine S_list (T_append rfl rfl Try.underlying27 z30 rfl (by decide) H251_ 11 rfl (Holds.cl_src H251_ 0 rfl Try.underlying27 (by simp [Value.oneCell']) rfl) (by omega) ?_)
            intro v254_ w255_ S257_ H256_
            replace H256_ : Holds w255_ (cl b249_ 30 [(Value.bool true), (Value.int .i64 x203_.id), (Value.int .i64 x203_.t), (Value.int .i64 0)] :: ro R :: cl b229_ 81 [(Value.int .i64 (x203_.t / 1000000000)), (Value.int .i64 (x203_.t % 1000000000)), (Value.bool true)] :: cl b218_ 81 [(Value.int .i64 (x203_.t / 1000000000)), (Value.int .i64 (x203_.t % 1000000000)), (Value.bool true)] :: cl b17_ 135 [(Value.map (some b7_)), v206_] :: sl 77 1 v206_ (List.length q207_) (ptrs q207_) :: fam 137 (encs q207_) :: mp (Value.int .i64) b7_ m208_ :: cl x203_.b 137 [(Value.int .i64 x203_.id), (Value.int .i64 (x203_.t / 1000000000)), (Value.int .i64 (x203_.t % 1000000000)), (Value.bool true), (Value.int .i64 (-1))] :: cl b55_ 30 [(Value.bool true), (Value.int .i64 x203_.id), (Value.int .i64 x203_.t), (Value.int .i64 0)] :: cl b45_ 25 [(Value.int .i64 x41_.kind), (Value.int .i64 x41_.iD), (Value.int .i64 x41_.at_)] :: sl 30 4 v254_ ((List.length an) + 1) ((an.flatMap QAns.cells) ++ [(Value.bool true), (Value.int .i64 x203_.id), (Value.int .i64 x203_.t), (Value.int .i64 0)]) :: F) := H256_
            have S258_ := Same.trans S253_ S257_
            refine S_list (T_val (v := v254_) (x_assign rfl) ?_)
            refine wpList_nil ?_
            refine (X_blkN (X_then (hK39_ _ _ ?_)))
            clear hK39_
            refine C_reg ?_
            refine S_list (T_val (v := (Value.int .i64 (k : Int))) (x_move rfl) ?_)
            refine S_list (T_val (v := (Value.int .i64 ((k : Int) + 1))) (x_bin rfl rfl (ib_add (IntWalk.i64_in _ (by omega)))) ?_)
            refine S_list (T_val (v := (Value.int .i64 ((k : Int) + 1))) (x_assign rfl) ?_)
            refine wpList_nil ?_
            refine (X_then ?_)
            have H259_ : Holds w255_ (cl b249_ 30 [(Value.bool true), (Value.int .i64 x203_.id), (Value.int .i64 x203_.t), (Value.int .i64 0)] :: ro R :: cl b229_ 81 [(Value.int .i64 (x203_.t / 1000000000)), (Value.int .i64 (x203_.t % 1000000000)), (Value.bool true)] :: cl b218_ 81 [(Value.int .i64 (x203_.t / 1000000000)), (Value.int .i64 (x203_.t % 1000000000)), (Value.bool true)] :: cl b17_ 135 [(Value.map (some b7_)), v206_] :: sl 77 1 v206_ (List.length q207_) (ptrs q207_) :: fam 137 (encs q207_) :: mp (Value.int .i64) b7_ m208_ :: cl x203_.b 137 [(Value.int .i64 x203_.id), (Value.int .i64 (x203_.t / 1000000000)), (Value.int .i64 (x203_.t % 1000000000)), (Value.bool true), (Value.int .i64 (-1))] :: cl b55_ 30 [(Value.bool true), (Value.int .i64 x203_.id), (Value.int .i64 x203_.t), (Value.int .i64 0)] :: cl b45_ 25 [(Value.int .i64 x41_.kind), (Value.int .i64 x41_.iD), (Value.int .i64 x41_.at_)] :: sl 30 4 v254_ (List.length (an ++ [(⟨true, x203_.id, x203_.t, 0⟩ : QAns)])) ((an ++ [(⟨true, x203_.id, x203_.t, 0⟩ : QAns)]).flatMap QAns.cells) :: F) := cast2 (P := fun (c__ : List Value) (k__ : Nat) => Holds w255_ (cl b249_ 30 [(Value.bool true), (Value.int .i64 x203_.id), (Value.int .i64 x203_.t), (Value.int .i64 0)] :: ro R :: cl b229_ 81 [(Value.int .i64 (x203_.t / 1000000000)), (Value.int .i64 (x203_.t % 1000000000)), (Value.bool true)] :: cl b218_ 81 [(Value.int .i64 (x203_.t / 1000000000)), (Value.int .i64 (x203_.t % 1000000000)), (Value.bool true)] :: cl b17_ 135 [(Value.map (some b7_)), v206_] :: sl 77 1 v206_ (List.length q207_) (ptrs q207_) :: fam 137 (encs q207_) :: mp (Value.int .i64) b7_ m208_ :: cl x203_.b 137 [(Value.int .i64 x203_.id), (Value.int .i64 (x203_.t / 1000000000)), (Value.int .i64 (x203_.t % 1000000000)), (Value.bool true), (Value.int .i64 (-1))] :: cl b55_ 30 [(Value.bool true), (Value.int .i64 x203_.id), (Value.int .i64 x203_.t), (Value.int .i64 0)] :: cl b45_ 25 [(Value.int .i64 x41_.kind), (Value.int .i64 x41_.iD), (Value.int .i64 x41_.at_)] :: sl 30 4 v254_ k__ c__ :: F)) ((by first | rfl | (simp [QOp.cells, QAns.cells]; done)) : (an.flatMap QAns.cells) ++ [(Value.bool true), (Value.int .i64 x203_.id), (Value.int .i64 x203_.t), (Value.int .i64 0)] = (an ++ [(⟨true, x203_.id, x203_.t, 0⟩ : QAns)]).flatMap QAns.cells) ((by first | rfl | omega | (simp; done) | (simp; omega)) : (List.length an) + 1 = (List.length (an ++ [(⟨true, x203_.id, x203_.t, 0⟩ : QAns)]))) H256_
            have H260_ : Holds w255_ (sl 30 4 v254_ (List.length (an ++ [(⟨true, x203_.id, x203_.t, 0⟩ : QAns)])) ((an ++ [(⟨true, x203_.id, x203_.t, 0⟩ : QAns)]).flatMap QAns.cells) :: fam 137 (encs q207_) :: cl b17_ 135 [(Value.map (some b7_)), v206_] :: sl 77 1 v206_ (List.length q207_) (ptrs q207_) :: mp (Value.int .i64) b7_ m208_ :: ro R :: F) := (Holds.erase (Holds.erase (Holds.erase (Holds.erase (Holds.erase (Holds.erase (Holds.bring (Holds.bring (Holds.bring (Holds.bring (Holds.bring (Holds.bring H259_ 1 rfl) 7 rfl) 6 rfl) 6 rfl) 7 rfl) 11 rfl) 6) 6) 6) 6) 6) 6)
            exact ⟨⟨k + 1, v206_, q207_, m208_, an ++ [(⟨true, x203_.id, x203_.t, 0⟩ : QAns)], v254_⟩, ⟨_, congrArg (fun e => mkA 87 e []) (ch (ch (ch (ch (ch rfl rfl) rfl) rfl) rfl) (congrArg (Value.int .i64) ((by first | rfl | omega | (simp; done) | (simp; omega)) : (k : Int) + 1 = ((k + 1 : Nat) : Int)))), H260_, S258_, (by first | assumption | omega | exact rfl), (he209_), (QRun.next hrun hx42_ (⟨true, x203_.id, x203_.t, 0⟩ : QAns) (.inr (.inr (.inl ⟨by omega, .inr ⟨(x203_.id, x203_.t), he210_, least_dd hqi hx204_, rfl⟩⟩)))), (TB.pop htb he210_), (le_pop hlq he210_), (by simp; omega)⟩, by first | omega | (dsimp only; omega) | (simp; omega)⟩
          · have c201_fp : ¬ (0 < (List.length m : Int)) := of_decide_eq_false c201_f
            refine C_seq (fun K261_ hK261_ => ?_)
            refine C_reg ?_
            refine S_list (T_val (v := (Value.pointer (some ⟨b45_, 0, none⟩))) (by kernel_rfl) ?_)
            refine S_list (T_val (v := (Value.int .i64 x41_.kind)) (x_load1 rfl Try.underlying3 rfl ((Holds.rd H61_ 1 rfl) 0 (Value.int .i64 x41_.kind) rfl)) ?_)
            refine S_list (T_val (v := (Value.bool (decide (x41_.kind = 4)))) (x_bin rfl rfl rfl) ?_)
            refine S_list (T_val (v := (Value.bool (decide (x41_.kind = 4)))) (x_assign rfl) ?_)
            refine wpList_nil ?_
            refine (X_then (hK261_ _ _ ?_))
            clear hK261_
            refine C_cond (b := decide (x41_.kind = 4)) rfl (fun c262_t => ?_) (fun c262_f => ?_)
            · have c262_tp : x41_.kind = 4 := of_decide_eq_true c262_t
              omega
            · have c262_fp : ¬ (x41_.kind = 4) := of_decide_eq_false c262_f
              refine C_skip (X_blkN (X_then (hK64_ _ _ ?_)))
              clear hK64_
              refine C_reg ?_
              refine S_list (T_val (v := vo) (x_move rfl) ?_)
              refine S_list (T_val (v := (Value.agg #[(Value.bool false), (Value.int .i64 0), (Value.int .i64 0), (Value.int .i64 0)])) (x_loadN (vs := [(Value.bool false), (Value.int .i64 0), (Value.int .i64 0), (Value.int .i64 0)]) rfl Try.underlying30 rfl z30 rfl (Rd.cells (Holds.rd H61_ 0 rfl) 0 rfl)) ?_)
              refine S_list (T_new (obj := .cells #[(Value.bool false), (Value.int .i64 0), (Value.int .i64 0), (Value.int .i64 0)] 30) (f := fun b__ => .slice (some ⟨b__, 0, none⟩) 1 1) (A := fun b__ => cl b__ 30 [(Value.bool false), (Value.int .i64 0), (Value.int .i64 0), (Value.int .i64 0)]) (by kernel_rfl) (fun l h => h.alloc _ _) H61_ ?_)
              intro b263_ w264_ S266_ H265_
              replace H265_ : Holds w264_ (cl b263_ 30 [(Value.bool false), (Value.int .i64 0), (Value.int .i64 0), (Value.int .i64 0)] :: cl b55_ 30 [(Value.bool false), (Value.int .i64 0), (Value.int .i64 0), (Value.int .i64 0)] :: cl b45_ 25 [(Value.int .i64 x41_.kind), (Value.int .i64 x41_.iD), (Value.int .i64 x41_.at_)] :: sl 30 4 vo (List.length an) (an.flatMap QAns.cells) :: fam 137 (encs q) :: cl b17_ 135 [(Value.map (some b7_)), v0] :: sl 77 1 v0 (List.length q) (ptrs q) :: mp (Value.int .i64) b7_ m :: ro R :: F) := H265_
              have S267_ := Same.trans S63_ S266_
              refine S_list (T_append rfl rfl Try.underlying27 z30 rfl (by decide) H265_ 3 rfl (Holds.cl_src H265_ 0 rfl Try.underlying27 (by simp [Value.oneCell']) rfl) (by omega) ?_)
              intro v268_ w269_ S271_ H270_
              replace H270_ : Holds w269_ (cl b263_ 30 [(Value.bool false), (Value.int .i64 0), (Value.int .i64 0), (Value.int .i64 0)] :: cl b55_ 30 [(Value.bool false), (Value.int .i64 0), (Value.int .i64 0), (Value.int .i64 0)] :: cl b45_ 25 [(Value.int .i64 x41_.kind), (Value.int .i64 x41_.iD), (Value.int .i64 x41_.at_)] :: sl 30 4 v268_ ((List.length an) + 1) ((an.flatMap QAns.cells) ++ [(Value.bool false), (Value.int .i64 0), (Value.int .i64 0), (Value.int .i64 0)]) :: fam 137 (encs q) :: cl b17_ 135 [(Value.map (some b7_)), v0] :: sl 77 1 v0 (List.length q) (ptrs q) :: mp (Value.int .i64) b7_ m :: ro R :: F) := H270_
              have S272_ := Same.trans S267_ S271_
              refine S_list (T_val (v := v268_) (x_assign rfl) ?_)
              refine wpList_nil ?_
              refine (X_blkN (X_then (hK39_ _ _ ?_)))
              clear hK39_
              refine C_reg ?_
              refine S_list (T_val (v := (Value.int .i64 (k : Int))) (x_move rfl) ?_)
              refine S_list (T_val (v := (Value.int .i64 ((k : Int) + 1))) (x_bin rfl rfl (ib_add (IntWalk.i64_in _ (by omega)))) ?_)
              refine S_list (T_val (v := (Value.int .i64 ((k : Int) + 1))) (x_assign rfl) ?_)
              refine wpList_nil ?_
              refine (X_then ?_)
              have H273_ : Holds w269_ (cl b263_ 30 [(Value.bool false), (Value.int .i64 0), (Value.int .i64 0), (Value.int .i64 0)] :: cl b55_ 30 [(Value.bool false), (Value.int .i64 0), (Value.int .i64 0), (Value.int .i64 0)] :: cl b45_ 25 [(Value.int .i64 x41_.kind), (Value.int .i64 x41_.iD), (Value.int .i64 x41_.at_)] :: sl 30 4 v268_ (List.length (an ++ [(⟨false, 0, 0, 0⟩ : QAns)])) ((an ++ [(⟨false, 0, 0, 0⟩ : QAns)]).flatMap QAns.cells) :: fam 137 (encs q) :: cl b17_ 135 [(Value.map (some b7_)), v0] :: sl 77 1 v0 (List.length q) (ptrs q) :: mp (Value.int .i64) b7_ m :: ro R :: F) := cast2 (P := fun (c__ : List Value) (k__ : Nat) => Holds w269_ (cl b263_ 30 [(Value.bool false), (Value.int .i64 0), (Value.int .i64 0), (Value.int .i64 0)] :: cl b55_ 30 [(Value.bool false), (Value.int .i64 0), (Value.int .i64 0), (Value.int .i64 0)] :: cl b45_ 25 [(Value.int .i64 x41_.kind), (Value.int .i64 x41_.iD), (Value.int .i64 x41_.at_)] :: sl 30 4 v268_ k__ c__ :: fam 137 (encs q) :: cl b17_ 135 [(Value.map (some b7_)), v0] :: sl 77 1 v0 (List.length q) (ptrs q) :: mp (Value.int .i64) b7_ m :: ro R :: F)) ((by first | rfl | (simp [QOp.cells, QAns.cells]; done)) : (an.flatMap QAns.cells) ++ [(Value.bool false), (Value.int .i64 0), (Value.int .i64 0), (Value.int .i64 0)] = (an ++ [(⟨false, 0, 0, 0⟩ : QAns)]).flatMap QAns.cells) ((by first | rfl | omega | (simp; done) | (simp; omega)) : (List.length an) + 1 = (List.length (an ++ [(⟨false, 0, 0, 0⟩ : QAns)]))) H270_
              have H274_ : Holds w269_ (sl 30 4 v268_ (List.length (an ++ [(⟨false, 0, 0, 0⟩ : QAns)])) ((an ++ [(⟨false, 0, 0, 0⟩ : QAns)]).flatMap QAns.cells) :: fam 137 (encs q) :: cl b17_ 135 [(Value.map (some b7_)), v0] :: sl 77 1 v0 (List.length q) (ptrs q) :: mp (Value.int .i64) b7_ m :: ro R :: F) := (Holds.erase (Holds.erase (Holds.erase (Holds.bring (Holds.bring (Holds.bring (Holds.bring (Holds.bring (Holds.bring H273_ 8 rfl) 8 rfl) 8 rfl) 8 rfl) 8 rfl) 8 rfl) 6) 6) 6)
              exact ⟨⟨k + 1, v0, q, m, an ++ [(⟨false, 0, 0, 0⟩ : QAns)], v268_⟩, ⟨_, congrArg (fun e => mkA 87 e []) (ch (ch (ch (ch (ch rfl rfl) rfl) rfl) rfl) (congrArg (Value.int .i64) ((by first | rfl | omega | (simp; done) | (simp; omega)) : (k : Int) + 1 = ((k + 1 : Nat) : Int)))), H274_, S272_, (by first | assumption | omega | exact rfl), (hqi), (QRun.next hrun hx42_ (⟨false, 0, 0, 0⟩ : QAns) (.inr (.inr (.inl ⟨by omega, .inl ⟨dd_nil hqi (by omega), dd_nil hqi (by omega), rfl⟩⟩)))), (htb), (by omega), (by simp; omega)⟩, by first | omega | (dsimp only; omega) | (simp; omega)⟩
        · have c198_fp : ¬ (x41_.kind = 3) := of_decide_eq_false c198_f
          refine S_no (j := 3) (dj := 60) (b := false) rfl rfl (congrArg Value.bool c198_f) (by decide) ?_
          refine S_no (j := 3) (dj := 60) (b := false) rfl rfl (congrArg Value.bool c198_f) (by decide) ?_
          refine S_no (j := 3) (dj := 60) (b := false) rfl rfl (congrArg Value.bool c198_f) (by decide) ?_
          refine S_list (T_pickF (v := (Value.bool false)) (congrArg Value.bool c198_f) rfl ?_)
          refine S_list (T_val (v := (Value.bool false)) (x_assign rfl) ?_)
          refine wpList_nil ?_
          refine (X_then (hK197_ _ _ ?_))
          clear hK197_
          refine C_condF rfl ?_
          refine C_seq (fun K275_ hK275_ => ?_)
          refine C_reg ?_
          refine S_list (T_val (v := (Value.pointer (some ⟨b45_, 0, none⟩))) (by kernel_rfl) ?_)
          refine S_list (T_val (v := (Value.int .i64 x41_.kind)) (x_load1 rfl Try.underlying3 rfl ((Holds.rd H61_ 1 rfl) 0 (Value.int .i64 x41_.kind) rfl)) ?_)
          refine S_list (T_val (v := (Value.bool (decide (x41_.kind = 4)))) (x_bin rfl rfl rfl) ?_)
          refine S_list (T_val (v := (Value.bool (decide (x41_.kind = 4)))) (x_assign rfl) ?_)
          refine wpList_nil ?_
          refine (X_then (hK275_ _ _ ?_))
          clear hK275_
          refine C_cond (b := decide (x41_.kind = 4)) rfl (fun c276_t => ?_) (fun c276_f => ?_)
          · have c276_tp : x41_.kind = 4 := of_decide_eq_true c276_t
            refine C_reg ?_
            refine S_list (T_val (v := (Value.pointer (some ⟨b17_, 0, none⟩))) (x_move rfl) ?_)
            refine S_list (T_callW (al := [(Value.pointer (some ⟨b17_, 0, none⟩))]) rfl rfl cb37 (Calls.into (n := 8) (al := [(Value.pointer (some ⟨b17_, 0, none⟩))]) Try.func37 rfl Try.ntmps37 rfl rfl ?_))
            refine C_seq (fun K277_ hK277_ => ?_)
            refine C_reg ?_
            refine S_list (T_val (v := (Value.int .i64 0)) (x_assign rfl) ?_)
            refine wpList_nil ?_
            refine (X_then (hK277_ _ _ ?_))
            clear hK277_
            refine C_seq (fun K278_ hK278_ => ?_)
            refine C_reg ?_
            refine S_list (T_val (v := (Value.pointer (some ⟨b17_, 0, none⟩))) (x_move rfl) ?_)
            refine S_list (T_val (v := (Value.pointer (some ⟨b17_, 0, none⟩))) (by kernel_rfl) ?_)
            refine S_list (T_val (v := (Value.pointer (some ⟨b17_, 0, none⟩))) (by kernel_rfl) ?_)
            refine S_list (T_val (v := (Value.map (some b7_))) (x_load1 rfl Try.underlying131 rfl ((Holds.rd H61_ 4 rfl) 0 (Value.map (some b7_)) rfl)) ?_)
            refine S_list (T_val (v := (Value.int .i64 (List.length m : Int))) (x_lenMp (K := (Value.int .i64)) rfl Try.underlying131 (Holds.mprd H61_ 6 rfl)) ?_)
            refine S_list (T_val (v := (Value.int .i64 (List.length m : Int))) (x_assign rfl) ?_)
            refine wpList_nil ?_
            refine (X_then (hK278_ _ _ ?_))
            clear hK278_
            refine C_ret ?_
            refine R_any (v := (Value.int .i64 (List.length m : Int))) (run_results1 rfl rfl) ⟨_, rfl, ?_⟩
            refine S_list (T_val (v := (Value.agg #[(Value.bool true), (Value.int .i64 0), (Value.int .i64 0), (Value.int .i64 (List.length m : Int))])) (by kernel_rfl) ?_)
            refine S_list0 (T_storeN (vs := [(Value.bool true), (Value.int .i64 0), (Value.int .i64 0), (Value.int .i64 (List.length m : Int))]) rfl rfl z30 rfl (by simp [Value.oneCell']) H61_ 0 rfl (Nat.le_of_ble_eq_true (by rfl)) ?_)
            intro w279_ S281_ H280_
            replace H280_ : Holds w279_ (cl b55_ 30 [(Value.bool true), (Value.int .i64 0), (Value.int .i64 0), (Value.int .i64 (List.length m : Int))] :: cl b45_ 25 [(Value.int .i64 x41_.kind), (Value.int .i64 x41_.iD), (Value.int .i64 x41_.at_)] :: sl 30 4 vo (List.length an) (an.flatMap QAns.cells) :: fam 137 (encs q) :: cl b17_ 135 [(Value.map (some b7_)), v0] :: sl 77 1 v0 (List.length q) (ptrs q) :: mp (Value.int .i64) b7_ m :: ro R :: F) := H280_
            have S282_ := Same.trans S63_ S281_
            refine wpList_nil ?_
            refine (X_blkN (X_then (hK64_ _ _ ?_)))
            clear hK64_
            refine C_reg ?_
            refine S_list (T_val (v := vo) (x_move rfl) ?_)
            refine S_list (T_val (v := (Value.agg #[(Value.bool true), (Value.int .i64 0), (Value.int .i64 0), (Value.int .i64 (List.length m : Int))])) (x_loadN (vs := [(Value.bool true), (Value.int .i64 0), (Value.int .i64 0), (Value.int .i64 (List.length m : Int))]) rfl Try.underlying30 rfl z30 rfl (Rd.cells (Holds.rd H280_ 0 rfl) 0 rfl)) ?_)
            refine S_list (T_new (obj := .cells #[(Value.bool true), (Value.int .i64 0), (Value.int .i64 0), (Value.int .i64 (List.length m : Int))] 30) (f := fun b__ => .slice (some ⟨b__, 0, none⟩) 1 1) (A := fun b__ => cl b__ 30 [(Value.bool true), (Value.int .i64 0), (Value.int .i64 0), (Value.int .i64 (List.length m : Int))]) (by kernel_rfl) (fun l h => h.alloc _ _) H280_ ?_)
            intro b283_ w284_ S286_ H285_
            replace H285_ : Holds w284_ (cl b283_ 30 [(Value.bool true), (Value.int .i64 0), (Value.int .i64 0), (Value.int .i64 (List.length m : Int))] :: cl b55_ 30 [(Value.bool true), (Value.int .i64 0), (Value.int .i64 0), (Value.int .i64 (List.length m : Int))] :: cl b45_ 25 [(Value.int .i64 x41_.kind), (Value.int .i64 x41_.iD), (Value.int .i64 x41_.at_)] :: sl 30 4 vo (List.length an) (an.flatMap QAns.cells) :: fam 137 (encs q) :: cl b17_ 135 [(Value.map (some b7_)), v0] :: sl 77 1 v0 (List.length q) (ptrs q) :: mp (Value.int .i64) b7_ m :: ro R :: F) := H285_
            have S287_ := Same.trans S282_ S286_
            refine S_list (T_append rfl rfl Try.underlying27 z30 rfl (by decide) H285_ 3 rfl (Holds.cl_src H285_ 0 rfl Try.underlying27 (by simp [Value.oneCell']) rfl) (by omega) ?_)
            intro v288_ w289_ S291_ H290_
            replace H290_ : Holds w289_ (cl b283_ 30 [(Value.bool true), (Value.int .i64 0), (Value.int .i64 0), (Value.int .i64 (List.length m : Int))] :: cl b55_ 30 [(Value.bool true), (Value.int .i64 0), (Value.int .i64 0), (Value.int .i64 (List.length m : Int))] :: cl b45_ 25 [(Value.int .i64 x41_.kind), (Value.int .i64 x41_.iD), (Value.int .i64 x41_.at_)] :: sl 30 4 v288_ ((List.length an) + 1) ((an.flatMap QAns.cells) ++ [(Value.bool true), (Value.int .i64 0), (Value.int .i64 0), (Value.int .i64 (List.length m : Int))]) :: fam 137 (encs q) :: cl b17_ 135 [(Value.map (some b7_)), v0] :: sl 77 1 v0 (List.length q) (ptrs q) :: mp (Value.int .i64) b7_ m :: ro R :: F) := H290_
            have S292_ := Same.trans S287_ S291_
            refine S_list (T_val (v := v288_) (x_assign rfl) ?_)
            refine wpList_nil ?_
            refine (X_blkN (X_then (hK39_ _ _ ?_)))
            clear hK39_
            refine C_reg ?_
            refine S_list (T_val (v := (Value.int .i64 (k : Int))) (x_move rfl) ?_)
            refine S_list (T_val (v := (Value.int .i64 ((k : Int) + 1))) (x_bin rfl rfl (ib_add (IntWalk.i64_in _ (by omega)))) ?_)
            refine S_list (T_val (v := (Value.int .i64 ((k : Int) + 1))) (x_assign rfl) ?_)
            refine wpList_nil ?_
            refine (X_then ?_)
            have H293_ : Holds w289_ (cl b283_ 30 [(Value.bool true), (Value.int .i64 0), (Value.int .i64 0), (Value.int .i64 (List.length m : Int))] :: cl b55_ 30 [(Value.bool true), (Value.int .i64 0), (Value.int .i64 0), (Value.int .i64 (List.length m : Int))] :: cl b45_ 25 [(Value.int .i64 x41_.kind), (Value.int .i64 x41_.iD), (Value.int .i64 x41_.at_)] :: sl 30 4 v288_ (List.length (an ++ [(⟨true, 0, 0, (List.length m : Int)⟩ : QAns)])) ((an ++ [(⟨true, 0, 0, (List.length m : Int)⟩ : QAns)]).flatMap QAns.cells) :: fam 137 (encs q) :: cl b17_ 135 [(Value.map (some b7_)), v0] :: sl 77 1 v0 (List.length q) (ptrs q) :: mp (Value.int .i64) b7_ m :: ro R :: F) := cast2 (P := fun (c__ : List Value) (k__ : Nat) => Holds w289_ (cl b283_ 30 [(Value.bool true), (Value.int .i64 0), (Value.int .i64 0), (Value.int .i64 (List.length m : Int))] :: cl b55_ 30 [(Value.bool true), (Value.int .i64 0), (Value.int .i64 0), (Value.int .i64 (List.length m : Int))] :: cl b45_ 25 [(Value.int .i64 x41_.kind), (Value.int .i64 x41_.iD), (Value.int .i64 x41_.at_)] :: sl 30 4 v288_ k__ c__ :: fam 137 (encs q) :: cl b17_ 135 [(Value.map (some b7_)), v0] :: sl 77 1 v0 (List.length q) (ptrs q) :: mp (Value.int .i64) b7_ m :: ro R :: F)) ((by first | rfl | (simp [QOp.cells, QAns.cells]; done)) : (an.flatMap QAns.cells) ++ [(Value.bool true), (Value.int .i64 0), (Value.int .i64 0), (Value.int .i64 (List.length m : Int))] = (an ++ [(⟨true, 0, 0, (List.length m : Int)⟩ : QAns)]).flatMap QAns.cells) ((by first | rfl | omega | (simp; done) | (simp; omega)) : (List.length an) + 1 = (List.length (an ++ [(⟨true, 0, 0, (List.length m : Int)⟩ : QAns)]))) H290_
            have H294_ : Holds w289_ (sl 30 4 v288_ (List.length (an ++ [(⟨true, 0, 0, (List.length m : Int)⟩ : QAns)])) ((an ++ [(⟨true, 0, 0, (List.length m : Int)⟩ : QAns)]).flatMap QAns.cells) :: fam 137 (encs q) :: cl b17_ 135 [(Value.map (some b7_)), v0] :: sl 77 1 v0 (List.length q) (ptrs q) :: mp (Value.int .i64) b7_ m :: ro R :: F) := (Holds.erase (Holds.erase (Holds.erase (Holds.bring (Holds.bring (Holds.bring (Holds.bring (Holds.bring (Holds.bring H293_ 8 rfl) 8 rfl) 8 rfl) 8 rfl) 8 rfl) 8 rfl) 6) 6) 6)
            exact ⟨⟨k + 1, v0, q, m, an ++ [(⟨true, 0, 0, (List.length m : Int)⟩ : QAns)], v288_⟩, ⟨_, congrArg (fun e => mkA 87 e []) (ch (ch (ch (ch (ch rfl rfl) rfl) rfl) rfl) (congrArg (Value.int .i64) ((by first | rfl | omega | (simp; done) | (simp; omega)) : (k : Int) + 1 = ((k + 1 : Nat) : Int)))), H294_, S292_, (by first | assumption | omega | exact rfl), (hqi), (QRun.next hrun hx42_ (⟨true, 0, 0, (List.length m : Int)⟩ : QAns) (.inr (.inr (.inr ⟨by omega, rfl, by rw [dd_len, ← hqi.ml]⟩)))), (htb), (by omega), (by simp; omega)⟩, by first | omega | (dsimp only; omega) | (simp; omega)⟩
          · have c276_fp : ¬ (x41_.kind = 4) := of_decide_eq_false c276_f
            omega
  · have c38_fp : ¬ ((k : Int) < (l.length : Int)) := of_decide_eq_false c38_f
    refine C_exit (X_thenX (X_thenX (X_blkHit ?_)))
    refine (X_then (hK23_ _ _ ?_))
    clear hK23_
    refine C_seq (fun K295_ hK295_ => ?_)
    refine C_reg ?_
    refine S_list (T_val (v := vo) (x_move rfl) ?_)
    refine S_list (T_val (v := vo) (x_assign rfl) ?_)
    refine wpList_nil ?_
    refine (X_then (hK295_ _ _ ?_))
    clear hK295_
    refine C_ret ?_
    refine R_any (v := vo) (run_results1 rfl rfl) ?_
    have H296_ : Holds w33_ (ro R :: sl 30 4 vo (List.length an) (an.flatMap QAns.cells) :: F) := (Holds.erase (Holds.erase (Holds.erase (Holds.erase (Holds.bring (Holds.bring H34_ 0 rfl) 5 rfl) 2) 2) 2) 2)
    exact ⟨_, [sl 30 4 vo (List.length an) (an.flatMap QAns.cells)], rfl, ⟨vo, an, dd q, rfl, rfl, (by rw [show k = l.length by omega, List.take_length] at hrun; exact hrun)⟩, S35_, H296_⟩
end Go.Proofs.Ytgeggiebefonhaa
