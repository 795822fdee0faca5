/- What is done with a writer of pages: sizes and guards. -/
import Derived.Test.YtfdnfnjmphjdnaaPgF0
set_option linter.unusedVariables false
set_option linter.unusedSimpArgs false
namespace Go.Proofs.Ytfdnfnjmphjdnaa
open Go Go.RowKit Gw

set_option maxHeartbeats 400000 in
theorem pFits30 (R : HP) (o : OpS) :
    Tri Try.prog 53 #[(Value.agg #[(Value.string o.text), (Value.bool o.flush)])] R [] (fun v post => (∃ b : Bool, v = .bool b ∧ (b = true → o.text.size ≤ 2147483647)) ∧ post = []) := by
  refine Tri.into (n := 7) (al := [(Value.agg #[(Value.string o.text), (Value.bool o.flush)])]) Try.func53 rfl Try.ntmps53 rfl rfl fun w F H => ?_
  replace H : Holds w (ro R :: F) := H
  refine C_seq (fun K1_ hK1_ => ?_)
  refine C_reg ?_
  refine S_list (T_box (v := (Value.agg #[(Value.string o.text), (Value.bool o.flush)])) rfl H ?_)
  intro b2_ w3_ S5_ H4_
  replace H4_ : Holds w3_ (cl b2_ 59 [(Value.string o.text), (Value.bool o.flush)] :: ro R :: F) := H4_
  have S6_ := Same.trans (Same.refl w) S5_
  refine S_list (T_val (v := (Value.bool false)) (x_assign rfl) ?_)
  refine wpList_nil ?_
  refine (X_then (hK1_ _ _ ?_))
  clear hK1_
  refine C_seq (fun K7_ hK7_ => ?_)
  refine C_seq (fun K8_ hK8_ => ?_)
  refine C_reg ?_
  refine S_list (T_val (v := (Value.pointer (some ⟨b2_, 0, none⟩))) (by kernel_rfl) ?_)
  refine S_list (T_val (v := (Value.string o.text)) (x_load1 rfl Try.underlying9 rfl ((Holds.rd H4_ 0 rfl) 0 (Value.string o.text) rfl)) ?_)
  refine S_list (T_val (v := (Value.int .i64 (o.text.size : Int))) (x_lenT rfl Try.underlying9) ?_)
  refine S_list (T_val (v := (Value.bool (decide (2147483647 < (o.text.size : Int))))) (x_bin rfl rfl rfl) ?_)
  refine wpList_nil ?_
  refine (X_then (hK8_ _ _ ?_))
  clear hK8_
  refine C_cond (b := decide (2147483647 < (o.text.size : Int))) rfl (fun c9_t => ?_) (fun c9_f => ?_)
  · have c9_tp : 2147483647 < (o.text.size : Int) := of_decide_eq_true c9_t
    refine C_seq (fun K10_ hK10_ => ?_)
    refine C_reg ?_
    refine S_list (T_val (v := (Value.bool false)) (x_assign rfl) ?_)
    refine wpList_nil ?_
    refine (X_then (hK10_ _ _ ?_))
    clear hK10_
    refine C_ret (X_thenR ?_)
    refine R_any (v := (Value.bool false)) (run_results1 rfl rfl) ?_
    have H11_ : Holds w3_ (ro R :: F) := (Holds.erase (Holds.bring H4_ 1 rfl) 1)
    exact ⟨_, [], rfl, ⟨⟨_, rfl, fun h => by first | (cases h; done) | omega⟩, rfl⟩, S6_, H11_⟩
  · have c9_fp : ¬ (2147483647 < (o.text.size : Int)) := of_decide_eq_false c9_f
    refine C_skip (X_then (hK7_ _ _ ?_))
    clear hK7_
    refine C_seq (fun K12_ hK12_ => ?_)
    refine C_reg ?_
    refine S_list (T_val (v := (Value.bool true)) (x_assign rfl) ?_)
    refine wpList_nil ?_
    refine (X_then (hK12_ _ _ ?_))
    clear hK12_
    refine C_ret ?_
    refine R_any (v := (Value.bool true)) (run_results1 rfl rfl) ?_
    have H13_ : Holds w3_ (ro R :: F) := (Holds.erase (Holds.bring H4_ 1 rfl) 1)
    exact ⟨_, [], rfl, ⟨⟨_, rfl, fun h => by first | (cases h; done) | omega⟩, rfl⟩, S6_, H13_⟩

set_option maxHeartbeats 400000 in
theorem pFits29 (R : HP) (v : Value) (l : List OpS) (hV : RS R 2 v l.length (l.flatMap OpS.cells)) :
    Tri Try.prog 26 #[v] R [] (fun v post => (∃ b : Bool, v = .bool b ∧ (b = true → ∀ (i : Nat) (x : OpS), l[i]? = some x → x.text.size ≤ 2147483647)) ∧ post = []) := by
  refine Tri.into (n := 18) (al := [v]) Try.func26 rfl Try.ntmps26 rfl rfl fun w F H => ?_
  replace H : Holds w (ro R :: F) := H
  refine C_seq (fun K1_ hK1_ => ?_)
  refine C_reg ?_
  refine S_list (T_val (v := (Value.bool false)) (x_assign rfl) ?_)
  refine wpList_nil ?_
  refine (X_then (hK1_ _ _ ?_))
  clear hK1_
  refine C_seq (fun K2_ hK2_ => ?_)
  refine C_seq (fun K3_ hK3_ => ?_)
  refine C_reg ?_
  refine S_list (T_val (v := v) (x_move rfl) ?_)
  refine S_list (T_val (v := (Value.int .i64 (l.length : Int))) (x_lenRS rfl hV Try.underlying50) ?_)
  refine S_list (T_val (v := (Value.bool (decide (2147483647 < (l.length : Int))))) (x_bin rfl rfl rfl) ?_)
  refine wpList_nil ?_
  refine (X_then (hK3_ _ _ ?_))
  clear hK3_
  refine C_cond (b := decide (2147483647 < (l.length : Int))) rfl (fun c4_t => ?_) (fun c4_f => ?_)
  · have c4_tp : 2147483647 < (l.length : Int) := of_decide_eq_true c4_t
    refine C_seq (fun K5_ hK5_ => ?_)
    refine C_reg ?_
    refine S_list (T_val (v := (Value.bool false)) (x_assign rfl) ?_)
    refine wpList_nil ?_
    refine (X_then (hK5_ _ _ ?_))
    clear hK5_
    refine C_ret (X_thenR ?_)
    refine R_any (v := (Value.bool false)) (run_results1 rfl rfl) ?_
    exact ⟨_, [], rfl, ⟨⟨_, rfl, fun h => by first | (cases h; done) | exact fun i x hx => htx i x (by have := (List.getElem?_eq_some_iff.1 hx).1; omega) hx⟩, rfl⟩, (Same.refl w), H⟩
  · have c4_fp : ¬ (2147483647 < (l.length : Int)) := of_decide_eq_false c4_f
    refine C_skip (X_then (hK2_ _ _ ?_))
    clear hK2_
    refine C_seq (fun K6_ hK6_ => ?_)
    refine C_seq (fun K7_ hK7_ => ?_)
    refine C_reg ?_
    refine S_list (T_val (v := v) (x_move rfl) ?_)
    refine S_list (T_val (v := (Value.int .i64 (l.length : Int))) (x_lenRS rfl hV Try.underlying50) ?_)
    refine S_list (T_val (v := (Value.int .i64 0)) (x_move rfl) ?_)
    refine wpList_nil ?_
    refine (X_then (hK7_ _ _ ?_))
    clear hK7_
    refine C_block ?_
    refine C_loop (γ := Nat) (fun k a w1 => ∃ h : Env, a = mkA 18 (upd (upd (upd h 10 (Value.int .i64 (k : Int))) 8 v) 9 (Value.int .i64 (l.length : Int))) [] ∧ Holds w1 (ro R :: F) ∧ Same w w1 ∧ (k ≤ l.length) ∧ (∀ (i : Nat) (x : OpS), i < k → l[i]? = some x → x.text.size ≤ 2147483647)) (fun k => l.length - k) (0) ⟨_, congrArg (fun e => mkA 18 e []) (ch (ch (ch rfl (by first | rfl | exact congrArg (Value.int _) (by omega))) (by first | rfl | exact congrArg (Value.int _) (by omega))) (by first | rfl | exact congrArg (Value.int _) (by omega))), H, (Same.refl w), by omega, fun i x h => by omega⟩ ?_
    rintro k _ w8_ ⟨h, rfl, H9_, S10_, hk, htx⟩
    refine C_seq (fun K11_ hK11_ => ?_)
    refine C_reg ?_
    refine S_list (T_val (v := (Value.bool (decide ((k : Int) < (l.length : Int))))) (x_bin rfl rfl rfl) ?_)
    refine wpList_nil ?_
    refine (X_then (hK11_ _ _ ?_))
    clear hK11_
    refine C_seq (fun K12_ hK12_ => ?_)
    refine C_cond (b := decide ((k : Int) < (l.length : Int))) rfl (fun c13_t => ?_) (fun c13_f => ?_)
    · have c13_tp : (k : Int) < (l.length : Int) := of_decide_eq_true c13_t
      refine C_skip (X_then (hK12_ _ _ ?_))
      clear hK12_
      refine C_seq (fun K14_ hK14_ => ?_)
      refine C_block ?_
      refine C_seq (fun K15_ hK15_ => ?_)
      refine C_reg ?_
      obtain ⟨x16_, hx17_, hm18_⟩ := elem_at l k (by omega)
      refine S_list (T_val (v := (Value.pointer (some ⟨(sb v), so v + (k * 2 + 0), none⟩))) (x_idxRS (v := v) rfl hV rfl Try.underlying50 z59 (by omega) (by omega) (by omega : _ = k) rfl) ?_)
      refine S_list (T_val (v := (Value.agg #[(Value.string x16_.text), (Value.bool x16_.flush)])) (x_loadN (vs := [(Value.string x16_.text), (Value.bool x16_.flush)]) rfl Try.underlying59 rfl z59 rfl (RC.cells (RS.rc hV) (Holds.ro_at H9_ 0 rfl) (k * 2 + 0) (fm_cells OpS.len hx17_ (i := 0) rfl))) ?_)
      refine S_list (T_alloc z59 H9_ ?_)
      intro b19_ w20_ S22_ H21_
      replace H21_ : Holds w20_ (cl b19_ 59 [(Value.string ByteArray.empty), (Value.bool false)] :: ro R :: F) := H21_
      have S23_ := Same.trans S10_ S22_
      refine S_list0 (T_storeN (vs := [(Value.string x16_.text), (Value.bool x16_.flush)]) rfl rfl z59 rfl (by simp [Value.oneCell']) H21_ 0 rfl (Nat.le_of_ble_eq_true (by rfl)) ?_)
      intro w24_ S26_ H25_
      replace H25_ : Holds w24_ (cl b19_ 59 [(Value.string x16_.text), (Value.bool x16_.flush)] :: ro R :: F) := H25_
      have S27_ := Same.trans S23_ S26_
      refine wpList_nil ?_
      refine (X_then (hK15_ _ _ ?_))
      clear hK15_
      refine C_seq (fun K28_ hK28_ => ?_)
      refine C_reg ?_
      refine S_list (T_val (v := (Value.agg #[(Value.string x16_.text), (Value.bool x16_.flush)])) (x_loadN (vs := [(Value.string x16_.text), (Value.bool x16_.flush)]) rfl Try.underlying59 rfl z59 rfl (Rd.cells (Holds.rd H25_ 0 rfl) 0 rfl)) ?_)
      have H31_ : Holds w24_ (ro R :: cl b19_ 59 [(Value.string x16_.text), (Value.bool x16_.flush)] :: F) := (Holds.bring H25_ 1 rfl)
      refine S_list (T_call (al := [(Value.agg #[(Value.string x16_.text), (Value.bool x16_.flush)])]) (pre := []) (F := cl b19_ 59 [(Value.string x16_.text), (Value.bool x16_.flush)] :: F) rfl rfl cb53 (pFits30 R x16_) H31_ ?_)
      rintro v35_ p36_ w32_ ⟨⟨q29_, rfl, hb30_⟩, rfl⟩ S34_ H33_
      replace H33_ : Holds w32_ (ro R :: cl b19_ 59 [(Value.string x16_.text), (Value.bool x16_.flush)] :: F) := H33_
      have S37_ := Same.trans S27_ S34_
      refine S_list (T_val (v := (Value.bool (!q29_))) (x_not rfl) ?_)
      refine wpList_nil ?_
      refine (X_then (hK28_ _ _ ?_))
      clear hK28_
      refine C_cond (b := !q29_) rfl (fun c38_t => ?_) (fun c38_f => ?_)
      · skip
        refine C_seq (fun K39_ hK39_ => ?_)
        refine C_reg ?_
        refine S_list (T_val (v := (Value.bool false)) (x_assign rfl) ?_)
        refine wpList_nil ?_
        refine (X_then (hK39_ _ _ ?_))
        clear hK39_
        refine C_ret (X_blkR (X_thenR (X_thenR (X_blkR (X_thenR ?_)))))
        refine R_any (v := (Value.bool false)) (run_results1 rfl rfl) ?_
        have H40_ : Holds w32_ (ro R :: F) := (Holds.erase (Holds.bring H33_ 0 rfl) 1)
        exact ⟨_, [], rfl, ⟨⟨_, rfl, fun h => by first | (cases h; done) | exact fun i x hx => htx i x (by have := (List.getElem?_eq_some_iff.1 hx).1; omega) hx⟩, rfl⟩, S37_, H40_⟩
      · skip
        refine C_skip (X_blkN (X_then (hK14_ _ _ ?_)))
        clear hK14_
        refine C_reg ?_
        refine S_list (T_val (v := (Value.int .i64 ((k : Int) + 1))) (x_bin rfl rfl (ib_add (IntWalk.i64_in _ (by omega)))) ?_)
        refine S_list (T_val (v := (Value.int .i64 ((k : Int) + 1))) (x_move rfl) ?_)
        refine wpList_nil ?_
        refine (X_then ?_)
        have H41_ : Holds w32_ (ro R :: F) := (Holds.erase (Holds.bring H33_ 0 rfl) 1)
        exact ⟨k + 1, ⟨_, congrArg (fun e => mkA 18 e []) (ch (ch (ch rfl (by first | rfl | exact congrArg (Value.int _) (by omega))) (by first | rfl | exact congrArg (Value.int _) (by omega))) (by first | rfl | exact congrArg (Value.int _) (by omega))), H41_, S37_, by omega, fun i y hi hy => by
          rcases Nat.lt_or_ge i k with hlt | hge
          · exact htx i y hlt hy
          · obtain rfl : i = k := by omega
            rw [hx17_] at hy; cases hy; exact hb30_ (by simp_all)⟩, by first | omega | (simp; omega)⟩
    · have c13_fp : ¬ ((k : Int) < (l.length : Int)) := of_decide_eq_false c13_f
      refine C_exit (X_thenX (X_thenX (X_blkHit ?_)))
      refine (X_then (hK6_ _ _ ?_))
      clear hK6_
      refine C_seq (fun K42_ hK42_ => ?_)
      refine C_reg ?_
      refine S_list (T_val (v := (Value.bool true)) (x_assign rfl) ?_)
      refine wpList_nil ?_
      refine (X_then (hK42_ _ _ ?_))
      clear hK42_
      refine C_ret ?_
      refine R_any (v := (Value.bool true)) (run_results1 rfl rfl) ?_
      exact ⟨_, [], rfl, ⟨⟨_, rfl, fun h => by first | (cases h; done) | exact fun i x hx => htx i x (by have := (List.getElem?_eq_some_iff.1 hx).1; omega) hx⟩, rfl⟩, S10_, H9_⟩

set_option maxHeartbeats 400000 in
theorem pGood (R : HP) (wm page off : Int) (v : Value) (l : List OpS) (hV : RS R 2 v l.length (l.flatMap OpS.cells)) (hsz : ∀ (i : Nat) (x : OpS), l[i]? = some x → x.text.size ≤ 1152921504606846976) :
    Tri Try.prog 27 #[(Value.int .i64 wm), (Value.int .i64 page), (Value.int .i64 off), v] R [] (fun w post => ∃ b : Bool, w = .bool b ∧ (b = true → 1 ≤ page ∧ page ≤ 65536 ∧ page ≤ wm ∧ wm ≤ 1048576 ∧ 0 ≤ off ∧ off ≤ 1073741824 ∧ l.length ≤ 300 ∧ ∀ (i : Nat) (x : OpS), l[i]? = some x → x.text.size ≤ 1048576) ∧ post = []) := by
  refine Tri.into (n := 54) (al := [(Value.int .i64 wm), (Value.int .i64 page), (Value.int .i64 off), v]) Try.func27 rfl Try.ntmps27 rfl rfl fun w F H => ?_
  replace H : Holds w (ro R :: F) := H
  refine C_seq (fun K1_ hK1_ => ?_)
  refine C_reg ?_
  refine S_list (T_val (v := (Value.bool false)) (x_assign rfl) ?_)
  refine wpList_nil ?_
  refine (X_then (hK1_ _ _ ?_))
  clear hK1_
  refine C_seq (fun K2_ hK2_ => ?_)
  refine C_seq (fun K3_ hK3_ => ?_)
  refine C_reg ?_
  refine S_list (T_val (v := (Value.int .i64 page)) (x_move rfl) ?_)
  refine S_list (T_val (v := (Value.bool (decide (page < 1)))) (x_bin rfl rfl rfl) ?_)
  refine S_list (T_val (v := (Value.bool (decide (page < 1)))) (x_move rfl) ?_)
  rcases Bool.eq_false_or_eq_true (decide (page < 1)) with c4_t | c4_f
  · have c4_tp : page < 1 := of_decide_eq_true c4_t
    refine S_no (j := 2) (dj := 14) (b := true) rfl rfl (congrArg Value.bool c4_t) (by decide) ?_
    refine S_no (j := 2) (dj := 14) (b := true) rfl rfl (congrArg Value.bool c4_t) (by decide) ?_
    refine S_list (T_pickT (v := (Value.bool true)) (congrArg Value.bool c4_t) rfl ?_)
    refine S_list (T_val (v := (Value.bool true)) (x_move rfl) ?_)
    refine S_no (j := 6) (dj := 18) (b := true) rfl rfl rfl (by decide) ?_
    refine S_no (j := 6) (dj := 18) (b := true) rfl rfl rfl (by decide) ?_
    refine S_no (j := 6) (dj := 18) (b := true) rfl rfl rfl (by decide) ?_
    refine S_list (T_pickT (v := (Value.bool true)) rfl rfl ?_)
    refine S_list (T_val (v := (Value.bool true)) (x_move rfl) ?_)
    refine S_no (j := 11) (dj := 23) (b := true) rfl rfl rfl (by decide) ?_
    refine S_no (j := 11) (dj := 23) (b := true) rfl rfl rfl (by decide) ?_
    refine S_list (T_pickT (v := (Value.bool true)) rfl rfl ?_)
    refine S_list (T_val (v := (Value.bool true)) (x_move rfl) ?_)
    refine S_no (j := 15) (dj := 27) (b := true) rfl rfl rfl (by decide) ?_
    refine S_no (j := 15) (dj := 27) (b := true) rfl rfl rfl (by decide) ?_
    refine S_list (T_pickT (v := (Value.bool true)) rfl rfl ?_)
    refine S_list (T_val (v := (Value.bool true)) (x_move rfl) ?_)
    refine S_no (j := 19) (dj := 31) (b := true) rfl rfl rfl (by decide) ?_
    refine S_no (j := 19) (dj := 31) (b := true) rfl rfl rfl (by decide) ?_
    refine S_list (T_pickT (v := (Value.bool true)) rfl rfl ?_)
    refine S_list (T_val (v := (Value.bool true)) (x_move rfl) ?_)
    refine S_no (j := 23) (dj := 35) (b := true) rfl rfl rfl (by decide) ?_
    refine S_no (j := 23) (dj := 35) (b := true) rfl rfl rfl (by decide) ?_
    refine S_no (j := 23) (dj := 35) (b := true) rfl rfl rfl (by decide) ?_
    refine S_list (T_pickT (v := (Value.bool true)) rfl rfl ?_)
    refine wpList_nil ?_
    refine (X_then (hK3_ _ _ ?_))
    clear hK3_
    refine C_condT rfl ?_
    refine C_seq (fun K5_ hK5_ => ?_)
    refine C_reg ?_
    refine S_list (T_val (v := (Value.bool false)) (x_assign rfl) ?_)
    refine wpList_nil ?_
    refine (X_then (hK5_ _ _ ?_))
    clear hK5_
    refine C_ret (X_thenR ?_)
    refine R_any (v := (Value.bool false)) (run_results1 rfl rfl) ?_
    exact ⟨_, [], rfl, ⟨_, rfl, (fun h => by cases h), rfl⟩, (Same.refl w), H⟩
  · have c4_fp : ¬ (page < 1) := of_decide_eq_false c4_f
    refine S_yes (j := 2) (dj := 14) (b := false) rfl rfl (congrArg Value.bool c4_f) (T_val (v := (Value.int .i64 page)) (x_move rfl) ?_)
    refine S_yes (j := 2) (dj := 14) (b := false) rfl rfl (congrArg Value.bool c4_f) (T_val (v := (Value.bool (decide (65536 < page)))) (x_bin rfl rfl rfl) ?_)
    refine S_list (T_pickF (v := (Value.bool (decide (65536 < page)))) (congrArg Value.bool c4_f) rfl ?_)
    refine S_list (T_val (v := (Value.bool (decide (65536 < page)))) (x_move rfl) ?_)
    rcases Bool.eq_false_or_eq_true (decide (65536 < page)) with c6_t | c6_f
    · have c6_tp : 65536 < page := of_decide_eq_true c6_t
      refine S_no (j := 6) (dj := 18) (b := true) rfl rfl (congrArg Value.bool c6_t) (by decide) ?_
      refine S_no (j := 6) (dj := 18) (b := true) rfl rfl (congrArg Value.bool c6_t) (by decide) ?_
      refine S_no (j := 6) (dj := 18) (b := true) rfl rfl (congrArg Value.bool c6_t) (by decide) ?_
      refine S_list (T_pickT (v := (Value.bool true)) (congrArg Value.bool c6_t) rfl ?_)
      refine S_list (T_val (v := (Value.bool true)) (x_move rfl) ?_)
      refine S_no (j := 11) (dj := 23) (b := true) rfl rfl rfl (by decide) ?_
      refine S_no (j := 11) (dj := 23) (b := true) rfl rfl rfl (by decide) ?_
      refine S_list (T_pickT (v := (Value.bool true)) rfl rfl ?_)
      refine S_list (T_val (v := (Value.bool true)) (x_move rfl) ?_)
      refine S_no (j := 15) (dj := 27) (b := true) rfl rfl rfl (by decide) ?_
      refine S_no (j := 15) (dj := 27) (b := true) rfl rfl rfl (by decide) ?_
      refine S_list (T_pickT (v := (Value.bool true)) rfl rfl ?_)
      refine S_list (T_val (v := (Value.bool true)) (x_move rfl) ?_)
      refine S_no (j := 19) (dj := 31) (b := true) rfl rfl rfl (by decide) ?_
      refine S_no (j := 19) (dj := 31) (b := true) rfl rfl rfl (by decide) ?_
      refine S_list (T_pickT (v := (Value.bool true)) rfl rfl ?_)
      refine S_list (T_val (v := (Value.bool true)) (x_move rfl) ?_)
      refine S_no (j := 23) (dj := 35) (b := true) rfl rfl rfl (by decide) ?_
      refine S_no (j := 23) (dj := 35) (b := true) rfl rfl rfl (by decide) ?_
      refine S_no (j := 23) (dj := 35) (b := true) rfl rfl rfl (by decide) ?_
      refine S_list (T_pickT (v := (Value.bool true)) rfl rfl ?_)
      refine wpList_nil ?_
      refine (X_then (hK3_ _ _ ?_))
      clear hK3_
      refine C_condT rfl ?_
      refine C_seq (fun K7_ hK7_ => ?_)
      refine C_reg ?_
      refine S_list (T_val (v := (Value.bool false)) (x_assign rfl) ?_)
      refine wpList_nil ?_
      refine (X_then (hK7_ _ _ ?_))
      clear hK7_
      refine C_ret (X_thenR ?_)
      refine R_any (v := (Value.bool false)) (run_results1 rfl rfl) ?_
      exact ⟨_, [], rfl, ⟨_, rfl, (fun h => by cases h), rfl⟩, (Same.refl w), H⟩
    · have c6_fp : ¬ (65536 < page) := of_decide_eq_false c6_f
      refine S_yes (j := 6) (dj := 18) (b := false) rfl rfl (congrArg Value.bool c6_f) (T_val (v := (Value.int .i64 wm)) (x_move rfl) ?_)
      refine S_yes (j := 6) (dj := 18) (b := false) rfl rfl (congrArg Value.bool c6_f) (T_val (v := (Value.int .i64 page)) (x_move rfl) ?_)
      refine S_yes (j := 6) (dj := 18) (b := false) rfl rfl (congrArg Value.bool c6_f) (T_val (v := (Value.bool (decide (wm < page)))) (x_bin rfl rfl rfl) ?_)
      refine S_list (T_pickF (v := (Value.bool (decide (wm < page)))) (congrArg Value.bool c6_f) rfl ?_)
      refine S_list (T_val (v := (Value.bool (decide (wm < page)))) (x_move rfl) ?_)
      rcases Bool.eq_false_or_eq_true (decide (wm < page)) with c8_t | c8_f
      · have c8_tp : wm < page := of_decide_eq_true c8_t
        refine S_no (j := 11) (dj := 23) (b := true) rfl rfl (congrArg Value.bool c8_t) (by decide) ?_
        refine S_no (j := 11) (dj := 23) (b := true) rfl rfl (congrArg Value.bool c8_t) (by decide) ?_
        refine S_list (T_pickT (v := (Value.bool true)) (congrArg Value.bool c8_t) rfl ?_)
        refine S_list (T_val (v := (Value.bool true)) (x_move rfl) ?_)
        refine S_no (j := 15) (dj := 27) (b := true) rfl rfl rfl (by decide) ?_
        refine S_no (j := 15) (dj := 27) (b := true) rfl rfl rfl (by decide) ?_
        refine S_list (T_pickT (v := (Value.bool true)) rfl rfl ?_)
        refine S_list (T_val (v := (Value.bool true)) (x_move rfl) ?_)
        refine S_no (j := 19) (dj := 31) (b := true) rfl rfl rfl (by decide) ?_
        refine S_no (j := 19) (dj := 31) (b := true) rfl rfl rfl (by decide) ?_
        refine S_list (T_pickT (v := (Value.bool true)) rfl rfl ?_)
        refine S_list (T_val (v := (Value.bool true)) (x_move rfl) ?_)
        refine S_no (j := 23) (dj := 35) (b := true) rfl rfl rfl (by decide) ?_
        refine S_no (j := 23) (dj := 35) (b := true) rfl rfl rfl (by decide) ?_
        refine S_no (j := 23) (dj := 35) (b := true) rfl rfl rfl (by decide) ?_
        refine S_list (T_pickT (v := (Value.bool true)) rfl rfl ?_)
        refine wpList_nil ?_
        refine (X_then (hK3_ _ _ ?_))
        clear hK3_
        refine C_condT rfl ?_
        refine C_seq (fun K9_ hK9_ => ?_)
        refine C_reg ?_
        refine S_list (T_val (v := (Value.bool false)) (x_assign rfl) ?_)
        refine wpList_nil ?_
        refine (X_then (hK9_ _ _ ?_))
        clear hK9_
        refine C_ret (X_thenR ?_)
        refine R_any (v := (Value.bool false)) (run_results1 rfl rfl) ?_
        exact ⟨_, [], rfl, ⟨_, rfl, (fun h => by cases h), rfl⟩, (Same.refl w), H⟩
      · have c8_fp : ¬ (wm < page) := of_decide_eq_false c8_f
        refine S_yes (j := 11) (dj := 23) (b := false) rfl rfl (congrArg Value.bool c8_f) (T_val (v := (Value.int .i64 wm)) (x_move rfl) ?_)
        refine S_yes (j := 11) (dj := 23) (b := false) rfl rfl (congrArg Value.bool c8_f) (T_val (v := (Value.bool (decide (1048576 < wm)))) (x_bin rfl rfl rfl) ?_)
        refine S_list (T_pickF (v := (Value.bool (decide (1048576 < wm)))) (congrArg Value.bool c8_f) rfl ?_)
        refine S_list (T_val (v := (Value.bool (decide (1048576 < wm)))) (x_move rfl) ?_)
        rcases Bool.eq_false_or_eq_true (decide (1048576 < wm)) with c10_t | c10_f
        · have c10_tp : 1048576 < wm := of_decide_eq_true c10_t
          refine S_no (j := 15) (dj := 27) (b := true) rfl rfl (congrArg Value.bool c10_t) (by decide) ?_
          refine S_no (j := 15) (dj := 27) (b := true) rfl rfl (congrArg Value.bool c10_t) (by decide) ?_
          refine S_list (T_pickT (v := (Value.bool true)) (congrArg Value.bool c10_t) rfl ?_)
          refine S_list (T_val (v := (Value.bool true)) (x_move rfl) ?_)
          refine S_no (j := 19) (dj := 31) (b := true) rfl rfl rfl (by decide) ?_
          refine S_no (j := 19) (dj := 31) (b := true) rfl rfl rfl (by decide) ?_
          refine S_list (T_pickT (v := (Value.bool true)) rfl rfl ?_)
          refine S_list (T_val (v := (Value.bool true)) (x_move rfl) ?_)
          refine S_no (j := 23) (dj := 35) (b := true) rfl rfl rfl (by decide) ?_
          refine S_no (j := 23) (dj := 35) (b := true) rfl rfl rfl (by decide) ?_
          refine S_no (j := 23) (dj := 35) (b := true) rfl rfl rfl (by decide) ?_
          refine S_list (T_pickT (v := (Value.bool true)) rfl rfl ?_)
          refine wpList_nil ?_
          refine (X_then (hK3_ _ _ ?_))
          clear hK3_
          refine C_condT rfl ?_
          refine C_seq (fun K11_ hK11_ => ?_)
          refine C_reg ?_
          refine S_list (T_val (v := (Value.bool false)) (x_assign rfl) ?_)
          refine wpList_nil ?_
          refine (X_then (hK11_ _ _ ?_))
          clear hK11_
          refine C_ret (X_thenR ?_)
          refine R_any (v := (Value.bool false)) (run_results1 rfl rfl) ?_
          exact ⟨_, [], rfl, ⟨_, rfl, (fun h => by cases h), rfl⟩, (Same.refl w), H⟩
        · have c10_fp : ¬ (1048576 < wm) := of_decide_eq_false c10_f
          refine S_yes (j := 15) (dj := 27) (b := false) rfl rfl (congrArg Value.bool c10_f) (T_val (v := (Value.int .i64 off)) (x_move rfl) ?_)
          refine S_yes (j := 15) (dj := 27) (b := false) rfl rfl (congrArg Value.bool c10_f) (T_val (v := (Value.bool (decide (off < 0)))) (x_bin rfl rfl rfl) ?_)
          refine S_list (T_pickF (v := (Value.bool (decide (off < 0)))) (congrArg Value.bool c10_f) rfl ?_)
          refine S_list (T_val (v := (Value.bool (decide (off < 0)))) (x_move rfl) ?_)
          rcases Bool.eq_false_or_eq_true (decide (off < 0)) with c12_t | c12_f
          · have c12_tp : off < 0 := of_decide_eq_true c12_t
            refine S_no (j := 19) (dj := 31) (b := true) rfl rfl (congrArg Value.bool c12_t) (by decide) ?_
            refine S_no (j := 19) (dj := 31) (b := true) rfl rfl (congrArg Value.bool c12_t) (by decide) ?_
            refine S_list (T_pickT (v := (Value.bool true)) (congrArg Value.bool c12_t) rfl ?_)
            refine S_list (T_val (v := (Value.bool true)) (x_move rfl) ?_)
            refine S_no (j := 23) (dj := 35) (b := true) rfl rfl rfl (by decide) ?_
            refine S_no (j := 23) (dj := 35) (b := true) rfl rfl rfl (by decide) ?_
            refine S_no (j := 23) (dj := 35) (b := true) rfl rfl rfl (by decide) ?_
            refine S_list (T_pickT (v := (Value.bool true)) rfl rfl ?_)
            refine wpList_nil ?_
            refine (X_then (hK3_ _ _ ?_))
            clear hK3_
            refine C_condT rfl ?_
            refine C_seq (fun K13_ hK13_ => ?_)
            refine C_reg ?_
            refine S_list (T_val (v := (Value.bool false)) (x_assign rfl) ?_)
            refine wpList_nil ?_
            refine (X_then (hK13_ _ _ ?_))
            clear hK13_
            refine C_ret (X_thenR ?_)
            refine R_any (v := (Value.bool false)) (run_results1 rfl rfl) ?_
            exact ⟨_, [], rfl, ⟨_, rfl, (fun h => by cases h), rfl⟩, (Same.refl w), H⟩
          · have c12_fp : ¬ (off < 0) := of_decide_eq_false c12_f
            refine S_yes (j := 19) (dj := 31) (b := false) rfl rfl (congrArg Value.bool c12_f) (T_val (v := (Value.int .i64 off)) (x_move rfl) ?_)
            refine S_yes (j := 19) (dj := 31) (b := false) rfl rfl (congrArg Value.bool c12_f) (T_val (v := (Value.bool (decide (1073741824 < off)))) (x_bin rfl rfl rfl) ?_)
            refine S_list (T_pickF (v := (Value.bool (decide (1073741824 < off)))) (congrArg Value.bool c12_f) rfl ?_)
            refine S_list (T_val (v := (Value.bool (decide (1073741824 < off)))) (x_move rfl) ?_)
            rcases Bool.eq_false_or_eq_true (decide (1073741824 < off)) with c14_t | c14_f
            · have c14_tp : 1073741824 < off := of_decide_eq_true c14_t
              refine S_no (j := 23) (dj := 35) (b := true) rfl rfl (congrArg Value.bool c14_t) (by decide) ?_
              refine S_no (j := 23) (dj := 35) (b := true) rfl rfl (congrArg Value.bool c14_t) (by decide) ?_
              refine S_no (j := 23) (dj := 35) (b := true) rfl rfl (congrArg Value.bool c14_t) (by decide) ?_
              refine S_list (T_pickT (v := (Value.bool true)) (congrArg Value.bool c14_t) rfl ?_)
              refine wpList_nil ?_
              refine (X_then (hK3_ _ _ ?_))
              clear hK3_
              refine C_condT rfl ?_
              refine C_seq (fun K15_ hK15_ => ?_)
              refine C_reg ?_
              refine S_list (T_val (v := (Value.bool false)) (x_assign rfl) ?_)
              refine wpList_nil ?_
              refine (X_then (hK15_ _ _ ?_))
              clear hK15_
              refine C_ret (X_thenR ?_)
              refine R_any (v := (Value.bool false)) (run_results1 rfl rfl) ?_
              exact ⟨_, [], rfl, ⟨_, rfl, (fun h => by cases h), rfl⟩, (Same.refl w), H⟩
            · have c14_fp : ¬ (1073741824 < off) := of_decide_eq_false c14_f
              refine S_yes (j := 23) (dj := 35) (b := false) rfl rfl (congrArg Value.bool c14_f) (T_val (v := v) (x_move rfl) ?_)
              refine S_yes (j := 23) (dj := 35) (b := false) rfl rfl (congrArg Value.bool c14_f) (T_val (v := (Value.int .i64 (l.length : Int))) (x_lenRS rfl hV Try.underlying50) ?_)
              refine S_yes (j := 23) (dj := 35) (b := false) rfl rfl (congrArg Value.bool c14_f) (T_val (v := (Value.bool (decide (300 < (l.length : Int))))) (x_bin rfl rfl rfl) ?_)
              refine S_list (T_pickF (v := (Value.bool (decide (300 < (l.length : Int))))) (congrArg Value.bool c14_f) rfl ?_)
              refine wpList_nil ?_
              refine (X_then (hK3_ _ _ ?_))
              clear hK3_
              refine C_cond (b := decide (300 < (l.length : Int))) rfl (fun c16_t => ?_) (fun c16_f => ?_)
              · have c16_tp : 300 < (l.length : Int) := of_decide_eq_true c16_t
                refine C_seq (fun K17_ hK17_ => ?_)
                refine C_reg ?_
                refine S_list (T_val (v := (Value.bool false)) (x_assign rfl) ?_)
                refine wpList_nil ?_
                refine (X_then (hK17_ _ _ ?_))
                clear hK17_
                refine C_ret (X_thenR ?_)
                refine R_any (v := (Value.bool false)) (run_results1 rfl rfl) ?_
                exact ⟨_, [], rfl, ⟨_, rfl, (fun h => by cases h), rfl⟩, (Same.refl w), H⟩
              · have c16_fp : ¬ (300 < (l.length : Int)) := of_decide_eq_false c16_f
                refine C_skip (X_then (hK2_ _ _ ?_))
                clear hK2_
                refine C_seq (fun K18_ hK18_ => ?_)
                refine C_reg ?_
                refine S_list (T_val (v := (Value.int .i64 0)) (x_assign rfl) ?_)
                refine wpList_nil ?_
                refine (X_then (hK18_ _ _ ?_))
                clear hK18_
                refine C_seq (fun K19_ hK19_ => ?_)
                refine C_seq (fun K20_ hK20_ => ?_)
                refine C_reg ?_
                refine S_list (T_val (v := v) (x_move rfl) ?_)
                refine S_list (T_val (v := (Value.int .i64 (l.length : Int))) (x_lenRS rfl hV Try.underlying50) ?_)
                refine S_list (T_val (v := (Value.int .i64 0)) (x_move rfl) ?_)
                refine wpList_nil ?_
                refine (X_then (hK20_ _ _ ?_))
                clear hK20_
                refine C_block ?_
                refine C_loop (γ := Nat × Nat) (fun x a w1 => match x with | ⟨k, n⟩ => ∃ h : Env, a = mkA 54 (upd (upd (upd (upd h 42 (Value.int .i64 (k : Int))) 9 (Value.int .i64 (n : Int))) 40 v) 41 (Value.int .i64 (l.length : Int))) [] ∧ Holds w1 (ro R :: F) ∧ Same w w1 ∧ (k ≤ l.length) ∧ (n ≤ 1048576) ∧ (∀ (i : Nat) (x : OpS), i < k → l[i]? = some x → x.text.size ≤ 1048576)) (fun x => match x with | ⟨k, n⟩ => l.length - k) (⟨0, 0⟩) ⟨_, congrArg (fun e => mkA 54 e []) (ch (ch (ch (ch rfl (by first | rfl | exact congrArg (Value.int _) (by omega))) (by first | rfl | exact congrArg (Value.int _) (by omega))) (by first | rfl | exact congrArg (Value.int _) (by omega))) (by first | rfl | exact congrArg (Value.int _) (by omega))), H, (Same.refl w), by omega, by omega, fun i x h => by omega⟩ ?_
                rintro ⟨k, n⟩ _ w21_ ⟨h, rfl, H22_, S23_, hk, hn, htx⟩
                refine C_seq (fun K24_ hK24_ => ?_)
                refine C_reg ?_
                refine S_list (T_val (v := (Value.bool (decide ((k : Int) < (l.length : Int))))) (x_bin rfl rfl rfl) ?_)
                refine wpList_nil ?_
                refine (X_then (hK24_ _ _ ?_))
                clear hK24_
                refine C_seq (fun K25_ hK25_ => ?_)
                refine C_cond (b := decide ((k : Int) < (l.length : Int))) rfl (fun c26_t => ?_) (fun c26_f => ?_)
                · have c26_tp : (k : Int) < (l.length : Int) := of_decide_eq_true c26_t
                  refine C_skip (X_then (hK25_ _ _ ?_))
                  clear hK25_
                  refine C_seq (fun K27_ hK27_ => ?_)
                  refine C_block ?_
                  refine C_seq (fun K28_ hK28_ => ?_)
                  refine C_reg ?_
                  obtain ⟨x29_, hx30_, hm31_⟩ := elem_at l k (by omega)
                  have := hsz _ _ hx30_
                  refine S_list (T_val (v := (Value.pointer (some ⟨(sb v), so v + (k * 2 + 0), none⟩))) (x_idxRS (v := v) rfl hV rfl Try.underlying50 z59 (by omega) (by omega) (by omega : _ = k) rfl) ?_)
                  refine S_list (T_val (v := (Value.agg #[(Value.string x29_.text), (Value.bool x29_.flush)])) (x_loadN (vs := [(Value.string x29_.text), (Value.bool x29_.flush)]) rfl Try.underlying59 rfl z59 rfl (RC.cells (RS.rc hV) (Holds.ro_at H22_ 0 rfl) (k * 2 + 0) (fm_cells OpS.len hx30_ (i := 0) rfl))) ?_)
                  refine S_list (T_alloc z59 H22_ ?_)
                  intro b32_ w33_ S35_ H34_
                  replace H34_ : Holds w33_ (cl b32_ 59 [(Value.string ByteArray.empty), (Value.bool false)] :: ro R :: F) := H34_
                  have S36_ := Same.trans S23_ S35_
                  refine S_list0 (T_storeN (vs := [(Value.string x29_.text), (Value.bool x29_.flush)]) rfl rfl z59 rfl (by simp [Value.oneCell']) H34_ 0 rfl (Nat.le_of_ble_eq_true (by rfl)) ?_)
                  intro w37_ S39_ H38_
                  replace H38_ : Holds w37_ (cl b32_ 59 [(Value.string x29_.text), (Value.bool x29_.flush)] :: ro R :: F) := H38_
                  have S40_ := Same.trans S36_ S39_
                  refine wpList_nil ?_
                  refine (X_then (hK28_ _ _ ?_))
                  clear hK28_
                  refine C_seq (fun K41_ hK41_ => ?_)
                  refine C_reg ?_
                  refine S_list (T_val (v := (Value.int .i64 (n : Int))) (x_move rfl) ?_)
                  refine S_list (T_val (v := (Value.pointer (some ⟨b32_, 0, none⟩))) (by kernel_rfl) ?_)
                  refine S_list (T_val (v := (Value.string x29_.text)) (x_load1 rfl Try.underlying9 rfl ((Holds.rd H38_ 0 rfl) 0 (Value.string x29_.text) rfl)) ?_)
                  refine S_list (T_val (v := (Value.int .i64 (x29_.text.size : Int))) (x_lenT rfl Try.underlying9) ?_)
                  refine S_list (T_val (v := (Value.int .i64 ((n : Int) + (x29_.text.size : Int)))) (x_bin rfl rfl (ib_add (IntWalk.i64_in _ (by omega)))) ?_)
                  refine S_list (T_val (v := (Value.int .i64 ((n : Int) + (x29_.text.size : Int)))) (x_assign rfl) ?_)
                  refine wpList_nil ?_
                  refine (X_then (hK41_ _ _ ?_))
                  clear hK41_
                  refine C_seq (fun K42_ hK42_ => ?_)
                  refine C_reg ?_
                  refine S_list (T_val (v := (Value.int .i64 ((n : Int) + (x29_.text.size : Int)))) (x_move rfl) ?_)
                  refine S_list (T_val (v := (Value.bool (decide (1048576 < (n : Int) + (x29_.text.size : Int))))) (x_bin rfl rfl rfl) ?_)
                  refine wpList_nil ?_
                  refine (X_then (hK42_ _ _ ?_))
                  clear hK42_
                  refine C_cond (b := decide (1048576 < (n : Int) + (x29_.text.size : Int))) rfl (fun c43_t => ?_) (fun c43_f => ?_)
                  · have c43_tp : 1048576 < (n : Int) + (x29_.text.size : Int) := of_decide_eq_true c43_t
                    refine C_seq (fun K44_ hK44_ => ?_)
                    refine C_reg ?_
                    refine S_list (T_val (v := (Value.bool false)) (x_assign rfl) ?_)
                    refine wpList_nil ?_
                    refine (X_then (hK44_ _ _ ?_))
                    clear hK44_
                    refine C_ret (X_blkR (X_thenR (X_thenR (X_blkR (X_thenR ?_)))))
                    refine R_any (v := (Value.bool false)) (run_results1 rfl rfl) ?_
                    have H45_ : Holds w37_ (ro R :: F) := (Holds.erase (Holds.bring H38_ 1 rfl) 1)
                    exact ⟨_, [], rfl, ⟨_, rfl, (fun h => by cases h), rfl⟩, S40_, H45_⟩
                  · have c43_fp : ¬ (1048576 < (n : Int) + (x29_.text.size : Int)) := of_decide_eq_false c43_f
                    refine C_skip (X_blkN (X_then (hK27_ _ _ ?_)))
                    clear hK27_
                    refine C_reg ?_
                    refine S_list (T_val (v := (Value.int .i64 ((k : Int) + 1))) (x_bin rfl rfl (ib_add (IntWalk.i64_in _ (by omega)))) ?_)
                    refine S_list (T_val (v := (Value.int .i64 ((k : Int) + 1))) (x_move rfl) ?_)
                    refine wpList_nil ?_
                    refine (X_then ?_)
                    have H46_ : Holds w37_ (ro R :: F) := (Holds.erase (Holds.bring H38_ 1 rfl) 1)
                    exact ⟨⟨k + 1, n + x29_.text.size⟩, ⟨_, congrArg (fun e => mkA 54 e []) (ch (ch (ch (ch rfl (by first | rfl | exact congrArg (Value.int _) (by omega))) (by first | rfl | exact congrArg (Value.int _) (by omega))) (by first | rfl | exact congrArg (Value.int _) (by omega))) (by first | rfl | exact congrArg (Value.int _) (by omega))), H46_, S40_, by omega, by omega, fun i y hi hy => by
          rcases Nat.lt_or_ge i k with hlt | hge
          · exact htx i y hlt hy
          · obtain rfl : i = k := by omega
            rw [hx30_] at hy; cases hy; omega⟩, by first | omega | (simp; omega)⟩
                · have c26_fp : ¬ ((k : Int) < (l.length : Int)) := of_decide_eq_false c26_f
                  refine C_exit (X_thenX (X_thenX (X_blkHit ?_)))
                  refine (X_then (hK19_ _ _ ?_))
                  clear hK19_
                  refine C_seq (fun K47_ hK47_ => ?_)
                  refine C_reg ?_
                  refine S_list (T_val (v := (Value.bool true)) (x_assign rfl) ?_)
                  refine wpList_nil ?_
                  refine (X_then (hK47_ _ _ ?_))
                  clear hK47_
                  refine C_ret ?_
                  refine R_any (v := (Value.bool true)) (run_results1 rfl rfl) ?_
                  exact ⟨_, [], rfl, ⟨_, rfl, (fun h => ⟨by omega, by omega, by omega, by omega, by omega, by omega, by omega, fun i x hx => htx i x (by have := (List.getElem?_eq_some_iff.1 hx).1; omega) hx⟩), rfl⟩, S23_, H22_⟩
end Go.Proofs.Ytfdnfnjmphjdnaa
