/- Puts are counted. -/
import Derived.Test.YtlnihndjepjagaaCkB0
set_option linter.unusedVariables false
set_option linter.unusedSimpArgs false
namespace Go.Proofs.Ytlnihndjepjagaa
open Go Go.RowKit Gw

theorem cnt_or (c : Int) (hc : c ≠ 4) (x : RT) : (x.q.kind = c ∧ cntT c x = 1) ∨ (x.q.kind = 4 ∧ cntT c x = cntL c x.tt + cntL c x.ee) ∨ (x.q.kind ≠ c ∧ x.q.kind ≠ 4 ∧ cntT c x = 0) := by
  rw [cnt_def]
  by_cases h1 : x.q.kind = c
  · rw [if_pos h1, if_neg (by omega)]; exact .inl ⟨h1, rfl⟩
  · rw [if_neg h1]
    by_cases h2 : x.q.kind = 4
    · rw [if_pos h2]; exact .inr (.inl ⟨h2, by omega⟩)
    · rw [if_neg h2]; exact .inr (.inr ⟨h1, h2, rfl⟩)
theorem many_cnt (c : Int) (hc : c ≠ 4) : ∀ (s : Nat) (L : List RT), lsz L ≤ s → ∀ (deep : Nat) (n : Int), 0 ≤ n → 0 ≤ manyL L deep n → n + cntL c L ≤ manyL L deep n := by
  intro s
  induction s with
  | zero => intro L h; cases L <;> simp [lsz] at h
  | succ s ih =>
    intro L hs deep n hn h
    cases L with
    | nil => rw [manyL, cntL]; omega
    | cons x l =>
      have hs' : x.sz + lsz l ≤ s := by unfold lsz RT.sz at *; simp at hs; omega
      have s1 := x.sz_tt
      have s2 := x.sz_ee
      rw [manyL] at h ⊢
      split at h
      · omega
      · rename_i hx
        rw [if_neg hx, cntL]
        have h1 : n + cntT c x ≤ manyT x deep n := by
          rw [manyT_def] at hx ⊢
          split
          · rename_i h1; rw [if_pos h1] at hx; omega
          · rename_i h1
            rw [if_neg h1] at hx
            split
            · rcases cnt_or c hc x with h | h | h <;> omega
            · rename_i h2
              rw [if_neg h2] at hx
              split
              · rename_i h3; rw [if_pos h3] at hx; omega
              · rename_i h3
                have ht := ih x.tt (by omega) (deep - 1) 0 (Int.le_refl 0) (by omega)
                have he := ih x.ee (by omega) (deep - 1) 0 (Int.le_refl 0) (by omega)
                rcases cnt_or c hc x with h | h | h <;> omega
        have h2 := ih l (by omega) deep (manyT x deep n) (by omega) h
        omega


set_option maxHeartbeats 400000 in
theorem ckFits9 (R : HP) (v : Value) (L : List CM) (hL : RS R 7 v (List.length L) (L.flatMap CM.cells)) (hl : L.length ≤ 1000000000000000) :
    Tri Try.prog 37 #[v] R [] (fun v__ post__ => ∃ (b : Bool), v__ = (Value.bool b) ∧ post__ = []) := by
 refine Tri.into (n := 18) (al := [v]) Try.func37 rfl Try.ntmps37 rfl rfl fun w F H => ?_
 refine C_seq (fun K1_ hK1_ => ?_)
 refine C_reg ?_
 refine S_list (T_val (v := (Value.bool false)) (x_assign rfl) ?_)
 refine wpList_nil ?_
 refine (X_then (hK1_ _ _ ?_))
 clear hK1_
 refine C_seq (fun K2_ hK2_ => ?_)
 refine C_seq (fun K3_ hK3_ => ?_)
 refine C_reg ?_
 refine S_list (T_val (v := v) (x_move rfl) ?_)
 refine S_list (T_val (v := (Value.int .i64 ((List.length L) : Int))) (x_lenRS rfl hL Try.underlying22) ?_)
 refine S_list (T_val (v := (Value.bool (decide (2147483647 < ((List.length L) : Int))))) (x_bin rfl rfl rfl) ?_)
 refine wpList_nil ?_
 refine (X_then (hK3_ _ _ ?_))
 clear hK3_
 refine C_cond (b := decide (2147483647 < ((List.length L) : Int))) rfl (fun c4_t => ?_) (fun c4_f => ?_)
 ·have c4_tp : 2147483647 < ((List.length L) : Int) := of_decide_eq_true c4_t
  refine C_seq (fun K5_ hK5_ => ?_)
  refine C_reg ?_
  refine S_list (T_val (v := (Value.bool false)) (x_assign rfl) ?_)
  refine wpList_nil ?_
  refine (X_then (hK5_ _ _ ?_))
  clear hK5_
  refine C_ret (X_thenR ?_)
  refine R_any (v := (Value.bool false)) (run_results1 rfl rfl) ?_
  exact ⟨_, _, rfl, ⟨false, rfl, rfl⟩, (Same.refl w), H⟩
 ·have c4_fp : ¬ (2147483647 < ((List.length L) : Int)) := of_decide_eq_false c4_f
  refine C_skip (X_then (hK2_ _ _ ?_))
  clear hK2_
  refine C_seq (fun K6_ hK6_ => ?_)
  refine C_seq (fun K7_ hK7_ => ?_)
  refine C_reg ?_
  refine S_list (T_val (v := v) (x_move rfl) ?_)
  refine S_list (T_val (v := (Value.int .i64 ((List.length L) : Int))) (x_lenRS rfl hL Try.underlying22) ?_)
  refine S_list (T_val (v := (Value.int .i64 0)) (x_move rfl) ?_)
  refine wpList_nil ?_
  refine (X_then (hK7_ _ _ ?_))
  clear hK7_
  refine C_block ?_
  refine C_loop (γ := Nat × Bool) (fun x__ a__ w1__ => match x__ with | ⟨k, t2_v⟩ => ∃ h : Env, a__ = mkA 18 (upd (upd (upd (upd h 2 (Value.bool t2_v)) 8 v) 9 (Value.int .i64 ((List.length L) : Int))) 10 (Value.int .i64 (k : Int))) [] ∧ Holds w1__ (ro R :: F) ∧ Same w w1__ ∧ (k ≤ L.length)) (fun x__ => match x__ with | ⟨k, t2_v⟩ => L.length - k) (⟨0, false⟩) ⟨_, congrArg (fun e => mkA 18 e []) (ch (ch (ch (ch rfl rfl) rfl) rfl) (congrArg (Value.int .i64) ((by first | rfl | omega | (simp; done) | (simp; omega)) : 0 = (0 : Int)))), H, (Same.refl w), (by first | assumption | omega | exact rfl)⟩ ?_
  rintro ⟨k, t2_v⟩ _ w8_ ⟨h, rfl, H9_, S10_, hk⟩
  refine C_seq (fun K11_ hK11_ => ?_)
  refine C_reg ?_
  refine S_list (T_val (v := (Value.bool (decide ((k : Int) < ((List.length L) : Int))))) (x_bin rfl rfl rfl) ?_)
  refine wpList_nil ?_
  refine (X_then (hK11_ _ _ ?_))
  clear hK11_
  refine C_seq (fun K12_ hK12_ => ?_)
  refine C_cond (b := decide ((k : Int) < ((List.length L) : Int))) rfl (fun c13_t => ?_) (fun c13_f => ?_)
  ·have c13_tp : (k : Int) < ((List.length L) : Int) := of_decide_eq_true c13_t
   refine C_skip (X_then (hK12_ _ _ ?_))
   clear hK12_
   refine C_seq (fun K14_ hK14_ => ?_)
   refine C_block ?_
   refine C_seq (fun K15_ hK15_ => ?_)
   refine C_reg ?_
   obtain ⟨x16_, hx17_, hm18_⟩ := elem_at L k (by omega)
   refine S_list (T_val (v := (Value.pointer (some ⟨(sb v), so v + (k * 7 + 0), none⟩))) (x_idxRS (v := v) rfl hL rfl Try.underlying22 z98 (by omega) (by omega) (by omega : _ = k) rfl) ?_)
   refine S_list (T_val (v := (Value.agg #[(Value.int .i64 x16_.target), (Value.int .i64 x16_.result), (Value.string x16_.key), (Value.string x16_.end_), (Value.int .i64 x16_.n), (Value.string x16_.value), (Value.bool x16_.bare)])) (x_loadN (vs := [(Value.int .i64 x16_.target), (Value.int .i64 x16_.result), (Value.string x16_.key), (Value.string x16_.end_), (Value.int .i64 x16_.n), (Value.string x16_.value), (Value.bool x16_.bare)]) rfl Try.underlying98 rfl z98 rfl (RC.cells (RS.rc hL) (Holds.ro_at H9_ 0 rfl) (k * 7 + 0) (fm_cells CM.len hx17_ (i := 0) rfl))) ?_)
   refine S_list (T_alloc z98 H9_ ?_)
   intro b19_ w20_ S22_ H21_
   have S23_ := Same.trans S10_ S22_
   refine S_list0 (T_storeN (vs := [(Value.int .i64 x16_.target), (Value.int .i64 x16_.result), (Value.string x16_.key), (Value.string x16_.end_), (Value.int .i64 x16_.n), (Value.string x16_.value), (Value.bool x16_.bare)]) rfl rfl z98 rfl (by simp [Value.oneCell']) H21_ 0 rfl (Nat.le_of_ble_eq_true (by rfl)) ?_)
   intro w24_ S26_ H25_
   replace H25_ : Holds w24_ (cl b19_ 98 [(Value.int .i64 x16_.target), (Value.int .i64 x16_.result), (Value.string x16_.key), (Value.string x16_.end_), (Value.int .i64 x16_.n), (Value.string x16_.value), (Value.bool x16_.bare)] :: ro R :: F) := H25_
   have S27_ := Same.trans S23_ S26_
   refine wpList_nil ?_
   refine (X_then (hK15_ _ _ ?_))
   clear hK15_
   refine C_seq (fun K28_ hK28_ => ?_)
   refine C_reg ?_
   refine S_list (T_val (v := (Value.agg #[(Value.int .i64 x16_.target), (Value.int .i64 x16_.result), (Value.string x16_.key), (Value.string x16_.end_), (Value.int .i64 x16_.n), (Value.string x16_.value), (Value.bool x16_.bare)])) (x_loadN (vs := [(Value.int .i64 x16_.target), (Value.int .i64 x16_.result), (Value.string x16_.key), (Value.string x16_.end_), (Value.int .i64 x16_.n), (Value.string x16_.value), (Value.bool x16_.bare)]) rfl Try.underlying98 rfl z98 rfl (Rd.cells (Holds.rd H25_ 0 rfl) 0 rfl)) ?_)
   refine S_list (T_callW (al := [(Value.agg #[(Value.int .i64 x16_.target), (Value.int .i64 x16_.result), (Value.string x16_.key), (Value.string x16_.end_), (Value.int .i64 x16_.n), (Value.string x16_.value), (Value.bool x16_.bare)])]) rfl rfl cb65 (Calls.into (n := 15) (al := [(Value.agg #[(Value.int .i64 x16_.target), (Value.int .i64 x16_.result), (Value.string x16_.key), (Value.string x16_.end_), (Value.int .i64 x16_.n), (Value.string x16_.value), (Value.bool x16_.bare)])]) Try.func65 rfl Try.ntmps65 rfl rfl ?_))
   refine C_seq (fun K29_ hK29_ => ?_)
   refine C_reg ?_
   refine S_list (T_box (v := (Value.agg #[(Value.int .i64 x16_.target), (Value.int .i64 x16_.result), (Value.string x16_.key), (Value.string x16_.end_), (Value.int .i64 x16_.n), (Value.string x16_.value), (Value.bool x16_.bare)])) rfl H25_ ?_)
   intro b30_ w31_ S33_ H32_
   have S34_ := Same.trans S27_ S33_
   refine S_list (T_val (v := (Value.bool false)) (x_assign rfl) ?_)
   refine wpList_nil ?_
   refine (X_then (hK29_ _ _ ?_))
   clear hK29_
   refine C_seq (fun K35_ hK35_ => ?_)
   refine C_seq (fun K36_ hK36_ => ?_)
   refine C_reg ?_
   refine S_list (T_val (v := (Value.pointer (some ⟨b30_, 2, none⟩))) (by kernel_rfl) ?_)
   refine S_list (T_val (v := (Value.string x16_.key)) (x_load1 rfl Try.underlying9 rfl ((Holds.rd H32_ 0 rfl) 2 (Value.string x16_.key) rfl)) ?_)
   refine S_list (T_val (v := (Value.int .i64 (x16_.key.size : Int))) (x_lenT rfl Try.underlying9) ?_)
   refine S_list (T_val (v := (Value.bool (decide (2147483647 < (x16_.key.size : Int))))) (x_bin rfl rfl rfl) ?_)
   refine wpList_nil ?_
   refine (X_then (hK36_ _ _ ?_))
   clear hK36_
   refine C_cond (b := decide (2147483647 < (x16_.key.size : Int))) rfl (fun c37_t => ?_) (fun c37_f => ?_)
   ·have c37_tp : 2147483647 < (x16_.key.size : Int) := of_decide_eq_true c37_t
    refine C_seq (fun K38_ hK38_ => ?_)
    refine C_reg ?_
    refine S_list (T_val (v := (Value.bool false)) (x_assign rfl) ?_)
    refine wpList_nil ?_
    refine (X_then (hK38_ _ _ ?_))
    clear hK38_
    refine C_ret (X_thenR ?_)
    refine R_any (v := (Value.bool false)) (run_results1 rfl rfl) ⟨_, rfl, ?_⟩
    refine S_list (T_val (v := (Value.bool true)) (x_cast (x_not (b := false) rfl) rfl) ?_)
    refine wpList_nil ?_
    refine (X_then (hK28_ _ _ ?_))
    clear hK28_
    refine C_condT rfl ?_
    refine C_seq (fun K39_ hK39_ => ?_)
    refine C_reg ?_
    refine S_list (T_val (v := (Value.bool false)) (x_assign rfl) ?_)
    refine wpList_nil ?_
    refine (X_then (hK39_ _ _ ?_))
    clear hK39_
    refine C_ret (X_blkR (X_thenR (X_thenR (X_blkR (X_thenR ?_)))))
    refine R_any (v := (Value.bool false)) (run_results1 rfl rfl) ?_
    have H40_ : Holds w31_ (ro R :: F) := (Holds.pkF H32_ [2] 2 :)
    exact ⟨_, _, rfl, ⟨false, rfl, rfl⟩, S34_, H40_⟩
   ·have c37_fp : ¬ (2147483647 < (x16_.key.size : Int)) := of_decide_eq_false c37_f
    refine C_skip (X_then (hK35_ _ _ ?_))
    clear hK35_
    refine C_seq (fun K41_ hK41_ => ?_)
    refine C_seq (fun K42_ hK42_ => ?_)
    refine C_reg ?_
    refine S_list (T_val (v := (Value.pointer (some ⟨b30_, 3, none⟩))) (by kernel_rfl) ?_)
    refine S_list (T_val (v := (Value.string x16_.end_)) (x_load1 rfl Try.underlying9 rfl ((Holds.rd H32_ 0 rfl) 3 (Value.string x16_.end_) rfl)) ?_)
    refine S_list (T_val (v := (Value.int .i64 (x16_.end_.size : Int))) (x_lenT rfl Try.underlying9) ?_)
    refine S_list (T_val (v := (Value.bool (decide (2147483647 < (x16_.end_.size : Int))))) (x_bin rfl rfl rfl) ?_)
    refine wpList_nil ?_
    refine (X_then (hK42_ _ _ ?_))
    clear hK42_
    refine C_cond (b := decide (2147483647 < (x16_.end_.size : Int))) rfl (fun c43_t => ?_) (fun c43_f => ?_)
    ·have c43_tp : 2147483647 < (x16_.end_.size : Int) := of_decide_eq_true c43_t
     refine C_seq (fun K44_ hK44_ => ?_)
     refine C_reg ?_
     refine S_list (T_val (v := (Value.bool false)) (x_assign rfl) ?_)
     refine wpList_nil ?_
     refine (X_then (hK44_ _ _ ?_))
     clear hK44_
     refine C_ret (X_thenR ?_)
     refine R_any (v := (Value.bool false)) (run_results1 rfl rfl) ⟨_, rfl, ?_⟩
     refine S_list (T_val (v := (Value.bool true)) (x_cast (x_not (b := false) rfl) rfl) ?_)
     refine wpList_nil ?_
     refine (X_then (hK28_ _ _ ?_))
     clear hK28_
     refine C_condT rfl ?_
     refine C_seq (fun K45_ hK45_ => ?_)
     refine C_reg ?_
     refine S_list (T_val (v := (Value.bool false)) (x_assign rfl) ?_)
     refine wpList_nil ?_
     refine (X_then (hK45_ _ _ ?_))
     clear hK45_
     refine C_ret (X_blkR (X_thenR (X_thenR (X_blkR (X_thenR ?_)))))
     refine R_any (v := (Value.bool false)) (run_results1 rfl rfl) ?_
     have H46_ : Holds w31_ (ro R :: F) := (Holds.pkF H32_ [2] 2 :)
     exact ⟨_, _, rfl, ⟨false, rfl, rfl⟩, S34_, H46_⟩
    ·have c43_fp : ¬ (2147483647 < (x16_.end_.size : Int)) := of_decide_eq_false c43_f
     refine C_skip (X_then (hK41_ _ _ ?_))
     clear hK41_
     refine C_seq (fun K47_ hK47_ => ?_)
     refine C_seq (fun K48_ hK48_ => ?_)
     refine C_reg ?_
     refine S_list (T_val (v := (Value.pointer (some ⟨b30_, 5, none⟩))) (by kernel_rfl) ?_)
     refine S_list (T_val (v := (Value.string x16_.value)) (x_load1 rfl Try.underlying9 rfl ((Holds.rd H32_ 0 rfl) 5 (Value.string x16_.value) rfl)) ?_)
     refine S_list (T_val (v := (Value.int .i64 (x16_.value.size : Int))) (x_lenT rfl Try.underlying9) ?_)
     refine S_list (T_val (v := (Value.bool (decide (2147483647 < (x16_.value.size : Int))))) (x_bin rfl rfl rfl) ?_)
     refine wpList_nil ?_
     refine (X_then (hK48_ _ _ ?_))
     clear hK48_
     refine C_cond (b := decide (2147483647 < (x16_.value.size : Int))) rfl (fun c49_t => ?_) (fun c49_f => ?_)
     ·have c49_tp : 2147483647 < (x16_.value.size : Int) := of_decide_eq_true c49_t
      refine C_seq (fun K50_ hK50_ => ?_)
      refine C_reg ?_
      refine S_list (T_val (v := (Value.bool false)) (x_assign rfl) ?_)
      refine wpList_nil ?_
      refine (X_then (hK50_ _ _ ?_))
      clear hK50_
      refine C_ret (X_thenR ?_)
      refine R_any (v := (Value.bool false)) (run_results1 rfl rfl) ⟨_, rfl, ?_⟩
      refine S_list (T_val (v := (Value.bool true)) (x_cast (x_not (b := false) rfl) rfl) ?_)
      refine wpList_nil ?_
      refine (X_then (hK28_ _ _ ?_))
      clear hK28_
      refine C_condT rfl ?_
      refine C_seq (fun K51_ hK51_ => ?_)
      refine C_reg ?_
      refine S_list (T_val (v := (Value.bool false)) (x_assign rfl) ?_)
      refine wpList_nil ?_
      refine (X_then (hK51_ _ _ ?_))
      clear hK51_
      refine C_ret (X_blkR (X_thenR (X_thenR (X_blkR (X_thenR ?_)))))
      refine R_any (v := (Value.bool false)) (run_results1 rfl rfl) ?_
      have H52_ : Holds w31_ (ro R :: F) := (Holds.pkF H32_ [2] 2 :)
      exact ⟨_, _, rfl, ⟨false, rfl, rfl⟩, S34_, H52_⟩
     ·have c49_fp : ¬ (2147483647 < (x16_.value.size : Int)) := of_decide_eq_false c49_f
      refine C_skip (X_then (hK47_ _ _ ?_))
      clear hK47_
      refine C_seq (fun K53_ hK53_ => ?_)
      refine C_reg ?_
      refine S_list (T_val (v := (Value.bool true)) (x_assign rfl) ?_)
      refine wpList_nil ?_
      refine (X_then (hK53_ _ _ ?_))
      clear hK53_
      refine C_ret ?_
      refine R_any (v := (Value.bool true)) (run_results1 rfl rfl) ⟨_, rfl, ?_⟩
      refine S_list (T_val (v := (Value.bool false)) (x_cast (x_not (b := true) rfl) rfl) ?_)
      refine wpList_nil ?_
      refine (X_then (hK28_ _ _ ?_))
      clear hK28_
      refine C_condF rfl ?_
      refine C_skip (X_blkN (X_then (hK14_ _ _ ?_)))
      clear hK14_
      refine C_reg ?_
      refine S_list (T_val (v := (Value.int .i64 ((k : Int) + 1))) (x_bin rfl rfl (ib_add (IntWalk.i64_in _ (by omega)))) ?_)
      refine S_list (T_val (v := (Value.int .i64 ((k : Int) + 1))) (x_move rfl) ?_)
      refine wpList_nil ?_
      refine (X_then ?_)
      have H54_ : Holds w31_ (ro R :: F) := (Holds.pkF H32_ [2] 2 :)
      exact ⟨⟨k + 1, t2_v⟩, ⟨_, congrArg (fun e => mkA 18 e []) (ch (ch (ch (ch rfl rfl) rfl) rfl) (congrArg (Value.int .i64) ((by first | rfl | omega | (simp; done) | (simp; omega)) : (k : Int) + 1 = ((k + 1 : Nat) : Int)))), H54_, S34_, (by first | assumption | omega | exact rfl)⟩, by first | omega | (dsimp only; omega) | (simp; omega)⟩
  ·have c13_fp : ¬ ((k : Int) < ((List.length L) : Int)) := of_decide_eq_false c13_f
   refine C_exit (X_thenX (X_thenX (X_blkHit ?_)))
   refine (X_then (hK6_ _ _ ?_))
   clear hK6_
   refine C_seq (fun K55_ hK55_ => ?_)
   refine C_reg ?_
   refine S_list (T_val (v := (Value.bool true)) (x_assign rfl) ?_)
   refine wpList_nil ?_
   refine (X_then (hK55_ _ _ ?_))
   clear hK55_
   refine C_ret ?_
   refine R_any (v := (Value.bool true)) (run_results1 rfl rfl) ?_
   exact ⟨_, _, rfl, ⟨true, rfl, rfl⟩, S10_, H9_⟩

set_option maxHeartbeats 400000 in
theorem ckFits8 (R : HP) (x : RT) (hR : RAt R x) :
    Tri Try.prog 10 #[(Value.agg #[(Value.int .i64 x.q.kind), (Value.string x.q.key), (Value.string x.q.end_), (Value.string x.q.value), (Value.int .i64 x.q.lease), (Value.int .i64 x.q.rev), (Value.int .i64 x.q.limit), (Value.int .i64 x.q.sortOrder), (Value.int .i64 x.q.sortTarget), (Value.int .i64 x.q.minMod), (Value.int .i64 x.q.maxMod), (Value.int .i64 x.q.minCreate), (Value.int .i64 x.q.maxCreate), (Value.bool x.q.keysOnly), (Value.bool x.q.countOnly), (Value.bool x.q.prev), (Value.bool x.q.ignoreValue), (Value.bool x.q.ignoreLease), x.q.cmps, x.q.then_, x.q.else_])] R [] (fun v__ post__ => ∃ (b : Bool), v__ = (Value.bool b) ∧ post__ = []) := by
 have hb_ := hR.b
 refine Tri.into (n := 27) (al := [(Value.agg #[(Value.int .i64 x.q.kind), (Value.string x.q.key), (Value.string x.q.end_), (Value.string x.q.value), (Value.int .i64 x.q.lease), (Value.int .i64 x.q.rev), (Value.int .i64 x.q.limit), (Value.int .i64 x.q.sortOrder), (Value.int .i64 x.q.sortTarget), (Value.int .i64 x.q.minMod), (Value.int .i64 x.q.maxMod), (Value.int .i64 x.q.minCreate), (Value.int .i64 x.q.maxCreate), (Value.bool x.q.keysOnly), (Value.bool x.q.countOnly), (Value.bool x.q.prev), (Value.bool x.q.ignoreValue), (Value.bool x.q.ignoreLease), x.q.cmps, x.q.then_, x.q.else_])]) Try.func10 rfl Try.ntmps10 rfl rfl fun w F H => ?_
 refine C_seq (fun K1_ hK1_ => ?_)
 refine C_reg ?_
 refine S_list (T_box (v := (Value.agg #[(Value.int .i64 x.q.kind), (Value.string x.q.key), (Value.string x.q.end_), (Value.string x.q.value), (Value.int .i64 x.q.lease), (Value.int .i64 x.q.rev), (Value.int .i64 x.q.limit), (Value.int .i64 x.q.sortOrder), (Value.int .i64 x.q.sortTarget), (Value.int .i64 x.q.minMod), (Value.int .i64 x.q.maxMod), (Value.int .i64 x.q.minCreate), (Value.int .i64 x.q.maxCreate), (Value.bool x.q.keysOnly), (Value.bool x.q.countOnly), (Value.bool x.q.prev), (Value.bool x.q.ignoreValue), (Value.bool x.q.ignoreLease), x.q.cmps, x.q.then_, x.q.else_])) rfl H ?_)
 intro b2_ w3_ S5_ H4_
 have S6_ := Same.trans (Same.refl w) S5_
 refine S_list (T_val (v := (Value.bool false)) (x_assign rfl) ?_)
 refine wpList_nil ?_
 refine (X_then (hK1_ _ _ ?_))
 clear hK1_
 refine C_seq (fun K7_ hK7_ => ?_)
 refine C_seq (fun K8_ hK8_ => ?_)
 refine C_reg ?_
 refine S_list (T_val (v := (Value.pointer (some ⟨b2_, 1, none⟩))) (by kernel_rfl) ?_)
 refine S_list (T_val (v := (Value.string x.q.key)) (x_load1 rfl Try.underlying9 rfl ((Holds.rd H4_ 0 rfl) 1 (Value.string x.q.key) rfl)) ?_)
 refine S_list (T_val (v := (Value.int .i64 (x.q.key.size : Int))) (x_lenT rfl Try.underlying9) ?_)
 refine S_list (T_val (v := (Value.bool (decide (2147483647 < (x.q.key.size : Int))))) (x_bin rfl rfl rfl) ?_)
 refine wpList_nil ?_
 refine (X_then (hK8_ _ _ ?_))
 clear hK8_
 refine C_cond (b := decide (2147483647 < (x.q.key.size : Int))) rfl (fun c9_t => ?_) (fun c9_f => ?_)
 ·have c9_tp : 2147483647 < (x.q.key.size : Int) := of_decide_eq_true c9_t
  refine C_seq (fun K10_ hK10_ => ?_)
  refine C_reg ?_
  refine S_list (T_val (v := (Value.bool false)) (x_assign rfl) ?_)
  refine wpList_nil ?_
  refine (X_then (hK10_ _ _ ?_))
  clear hK10_
  refine C_ret (X_thenR ?_)
  refine R_any (v := (Value.bool false)) (run_results1 rfl rfl) ?_
  have H11_ : Holds w3_ (ro R :: F) := (Holds.pkF H4_ [1] 1 :)
  exact ⟨_, _, rfl, ⟨false, rfl, rfl⟩, S6_, H11_⟩
 ·have c9_fp : ¬ (2147483647 < (x.q.key.size : Int)) := of_decide_eq_false c9_f
  refine C_skip (X_then (hK7_ _ _ ?_))
  clear hK7_
  refine C_seq (fun K12_ hK12_ => ?_)
  refine C_seq (fun K13_ hK13_ => ?_)
  refine C_reg ?_
  refine S_list (T_val (v := (Value.pointer (some ⟨b2_, 2, none⟩))) (by kernel_rfl) ?_)
  refine S_list (T_val (v := (Value.string x.q.end_)) (x_load1 rfl Try.underlying9 rfl ((Holds.rd H4_ 0 rfl) 2 (Value.string x.q.end_) rfl)) ?_)
  refine S_list (T_val (v := (Value.int .i64 (x.q.end_.size : Int))) (x_lenT rfl Try.underlying9) ?_)
  refine S_list (T_val (v := (Value.bool (decide (2147483647 < (x.q.end_.size : Int))))) (x_bin rfl rfl rfl) ?_)
  refine wpList_nil ?_
  refine (X_then (hK13_ _ _ ?_))
  clear hK13_
  refine C_cond (b := decide (2147483647 < (x.q.end_.size : Int))) rfl (fun c14_t => ?_) (fun c14_f => ?_)
  ·have c14_tp : 2147483647 < (x.q.end_.size : Int) := of_decide_eq_true c14_t
   refine C_seq (fun K15_ hK15_ => ?_)
   refine C_reg ?_
   refine S_list (T_val (v := (Value.bool false)) (x_assign rfl) ?_)
   refine wpList_nil ?_
   refine (X_then (hK15_ _ _ ?_))
   clear hK15_
   refine C_ret (X_thenR ?_)
   refine R_any (v := (Value.bool false)) (run_results1 rfl rfl) ?_
   have H16_ : Holds w3_ (ro R :: F) := (Holds.pkF H4_ [1] 1 :)
   exact ⟨_, _, rfl, ⟨false, rfl, rfl⟩, S6_, H16_⟩
  ·have c14_fp : ¬ (2147483647 < (x.q.end_.size : Int)) := of_decide_eq_false c14_f
   refine C_skip (X_then (hK12_ _ _ ?_))
   clear hK12_
   refine C_seq (fun K17_ hK17_ => ?_)
   refine C_seq (fun K18_ hK18_ => ?_)
   refine C_reg ?_
   refine S_list (T_val (v := (Value.pointer (some ⟨b2_, 3, none⟩))) (by kernel_rfl) ?_)
   refine S_list (T_val (v := (Value.string x.q.value)) (x_load1 rfl Try.underlying9 rfl ((Holds.rd H4_ 0 rfl) 3 (Value.string x.q.value) rfl)) ?_)
   refine S_list (T_val (v := (Value.int .i64 (x.q.value.size : Int))) (x_lenT rfl Try.underlying9) ?_)
   refine S_list (T_val (v := (Value.bool (decide (2147483647 < (x.q.value.size : Int))))) (x_bin rfl rfl rfl) ?_)
   refine wpList_nil ?_
   refine (X_then (hK18_ _ _ ?_))
   clear hK18_
   refine C_cond (b := decide (2147483647 < (x.q.value.size : Int))) rfl (fun c19_t => ?_) (fun c19_f => ?_)
   ·have c19_tp : 2147483647 < (x.q.value.size : Int) := of_decide_eq_true c19_t
    refine C_seq (fun K20_ hK20_ => ?_)
    refine C_reg ?_
    refine S_list (T_val (v := (Value.bool false)) (x_assign rfl) ?_)
    refine wpList_nil ?_
    refine (X_then (hK20_ _ _ ?_))
    clear hK20_
    refine C_ret (X_thenR ?_)
    refine R_any (v := (Value.bool false)) (run_results1 rfl rfl) ?_
    have H21_ : Holds w3_ (ro R :: F) := (Holds.pkF H4_ [1] 1 :)
    exact ⟨_, _, rfl, ⟨false, rfl, rfl⟩, S6_, H21_⟩
   ·have c19_fp : ¬ (2147483647 < (x.q.value.size : Int)) := of_decide_eq_false c19_f
    refine C_skip (X_then (hK17_ _ _ ?_))
    clear hK17_
    refine C_seq (fun K22_ hK22_ => ?_)
    refine C_seq (fun K23_ hK23_ => ?_)
    refine C_reg ?_
    refine S_list (T_val (v := (Value.pointer (some ⟨b2_, 18, none⟩))) (by kernel_rfl) ?_)
    refine S_list (T_val (v := x.q.cmps) (x_load1 rfl Try.underlying22 rfl ((Holds.rd H4_ 0 rfl) 18 x.q.cmps rfl)) ?_)
    have H26_ := ((Holds.bring H4_ 1 rfl) :)
    refine S_list (T_call (al := [x.q.cmps]) (pre := []) rfl rfl cb37 (ckFits9 R x.q.cmps x.cc hR.c (by omega)) H26_ ?_)
    rintro v24_ p30_ w27_ ⟨b25_, rfl, rfl⟩ S29_ H28_
    have S31_ := Same.trans S6_ S29_
    refine S_list (T_val (v := (Value.bool (!b25_))) (x_not rfl) ?_)
    refine wpList_nil ?_
    refine (X_then (hK23_ _ _ ?_))
    clear hK23_
    refine C_cond (b := !b25_) rfl (fun c32_t => ?_) (fun c32_f => ?_)
    ·skip
     refine C_seq (fun K33_ hK33_ => ?_)
     refine C_reg ?_
     refine S_list (T_val (v := (Value.bool false)) (x_assign rfl) ?_)
     refine wpList_nil ?_
     refine (X_then (hK33_ _ _ ?_))
     clear hK33_
     refine C_ret (X_thenR ?_)
     refine R_any (v := (Value.bool false)) (run_results1 rfl rfl) ?_
     have H34_ : Holds w27_ (ro R :: F) := (Holds.pkF H28_ [0] 1 :)
     exact ⟨_, _, rfl, ⟨false, rfl, rfl⟩, S31_, H34_⟩
    ·skip
     refine C_skip (X_then (hK22_ _ _ ?_))
     clear hK22_
     refine C_seq (fun K35_ hK35_ => ?_)
     refine C_seq (fun K36_ hK36_ => ?_)
     refine C_reg ?_
     refine S_list (T_val (v := (Value.pointer (some ⟨b2_, 19, none⟩))) (by kernel_rfl) ?_)
     refine S_list (T_val (v := x.q.then_) (x_load1 rfl Try.underlying23 rfl ((Holds.rd H28_ 1 rfl) 19 x.q.then_ rfl)) ?_)
     refine S_list (T_val (v := (Value.int .i64 ((List.length x.tt) : Int))) (x_lenRS rfl hR.t Try.underlying23) ?_)
     refine S_list (T_val (v := (Value.bool (decide (2147483647 < ((List.length x.tt) : Int))))) (x_bin rfl rfl rfl) ?_)
     refine wpList_nil ?_
     refine (X_then (hK36_ _ _ ?_))
     clear hK36_
     refine C_cond (b := decide (2147483647 < ((List.length x.tt) : Int))) rfl (fun c37_t => ?_) (fun c37_f => ?_)
     ·have c37_tp : 2147483647 < ((List.length x.tt) : Int) := of_decide_eq_true c37_t
      refine C_seq (fun K38_ hK38_ => ?_)
      refine C_reg ?_
      refine S_list (T_val (v := (Value.bool false)) (x_assign rfl) ?_)
      refine wpList_nil ?_
      refine (X_then (hK38_ _ _ ?_))
      clear hK38_
      refine C_ret (X_thenR ?_)
      refine R_any (v := (Value.bool false)) (run_results1 rfl rfl) ?_
      have H39_ : Holds w27_ (ro R :: F) := (Holds.pkF H28_ [0] 1 :)
      exact ⟨_, _, rfl, ⟨false, rfl, rfl⟩, S31_, H39_⟩
     ·have c37_fp : ¬ (2147483647 < ((List.length x.tt) : Int)) := of_decide_eq_false c37_f
      refine C_skip (X_then (hK35_ _ _ ?_))
      clear hK35_
      refine C_seq (fun K40_ hK40_ => ?_)
      refine C_seq (fun K41_ hK41_ => ?_)
      refine C_reg ?_
      refine S_list (T_val (v := (Value.pointer (some ⟨b2_, 20, none⟩))) (by kernel_rfl) ?_)
      refine S_list (T_val (v := x.q.else_) (x_load1 rfl Try.underlying23 rfl ((Holds.rd H28_ 1 rfl) 20 x.q.else_ rfl)) ?_)
      refine S_list (T_val (v := (Value.int .i64 ((List.length x.ee) : Int))) (x_lenRS rfl hR.e Try.underlying23) ?_)
      refine S_list (T_val (v := (Value.bool (decide (2147483647 < ((List.length x.ee) : Int))))) (x_bin rfl rfl rfl) ?_)
      refine wpList_nil ?_
      refine (X_then (hK41_ _ _ ?_))
      clear hK41_
      refine C_cond (b := decide (2147483647 < ((List.length x.ee) : Int))) rfl (fun c42_t => ?_) (fun c42_f => ?_)
      ·have c42_tp : 2147483647 < ((List.length x.ee) : Int) := of_decide_eq_true c42_t
       refine C_seq (fun K43_ hK43_ => ?_)
       refine C_reg ?_
       refine S_list (T_val (v := (Value.bool false)) (x_assign rfl) ?_)
       refine wpList_nil ?_
       refine (X_then (hK43_ _ _ ?_))
       clear hK43_
       refine C_ret (X_thenR ?_)
       refine R_any (v := (Value.bool false)) (run_results1 rfl rfl) ?_
       have H44_ : Holds w27_ (ro R :: F) := (Holds.pkF H28_ [0] 1 :)
       exact ⟨_, _, rfl, ⟨false, rfl, rfl⟩, S31_, H44_⟩
      ·have c42_fp : ¬ (2147483647 < ((List.length x.ee) : Int)) := of_decide_eq_false c42_f
       refine C_skip (X_then (hK40_ _ _ ?_))
       clear hK40_
       refine C_seq (fun K45_ hK45_ => ?_)
       refine C_reg ?_
       refine S_list (T_val (v := (Value.bool true)) (x_assign rfl) ?_)
       refine wpList_nil ?_
       refine (X_then (hK45_ _ _ ?_))
       clear hK45_
       refine C_ret ?_
       refine R_any (v := (Value.bool true)) (run_results1 rfl rfl) ?_
       have H46_ : Holds w27_ (ro R :: F) := (Holds.pkF H28_ [0] 1 :)
       exact ⟨_, _, rfl, ⟨true, rfl, rfl⟩, S31_, H46_⟩

set_option maxHeartbeats 400000 in
theorem ckFew (R : HP) (v : Value) (L : List RT) (hL : RS R 21 v (List.length L) (L.flatMap RT.cells)) (hR : RAts R L) (hl : L.length ≤ 1000000000000000) :
    Tri Try.prog 11 #[v] R [] (fun v__ post__ => v__ = (Value.bool (decide (0 ≤ manyL L 3 0 ∧ manyL L 3 0 ≤ 200))) ∧ post__ = []) := by
 refine Tri.into (n := 12) (al := [v]) Try.func11 rfl Try.ntmps11 rfl rfl fun w F H => ?_
 refine C_seq (fun K1_ hK1_ => ?_)
 refine C_reg ?_
 refine S_list (T_val (v := (Value.bool false)) (x_assign rfl) ?_)
 refine wpList_nil ?_
 refine (X_then (hK1_ _ _ ?_))
 clear hK1_
 refine C_seq (fun K2_ hK2_ => ?_)
 refine C_reg ?_
 refine S_list (T_val (v := v) (x_move rfl) ?_)
 refine S_list (T_call (al := [v, (Value.int .i64 (3 : Int))]) (pre := []) rfl (lcons rfl (lcons (congrArg (Value.int .i64) ((by first | rfl | omega | (simp; done) | (simp; omega)) : 3 = (3 : Int))) rfl)) cb38 (ckManyL R v L 3 hL (by first | assumption | omega) (by first | assumption | omega) (by first | assumption | omega)) H ?_)
 rintro v3_ p7_ w4_ ⟨rfl, rfl⟩ S6_ H5_
 have S8_ := Same.trans (Same.refl w) S6_
 refine S_list (T_val (v := (Value.int .i64 (manyL L 3 0))) (x_assign rfl) ?_)
 refine wpList_nil ?_
 refine (X_then (hK2_ _ _ ?_))
 clear hK2_
 refine C_seq (fun K9_ hK9_ => ?_)
 refine C_reg ?_
 refine S_list (T_val (v := (Value.int .i64 (manyL L 3 0))) (x_move rfl) ?_)
 refine S_list (T_val (v := (Value.bool (decide (0 ≤ manyL L 3 0)))) (x_bin rfl rfl rfl) ?_)
 refine S_list (T_val (v := (Value.bool (decide (0 ≤ manyL L 3 0)))) (x_move rfl) ?_)
 rcases Bool.eq_false_or_eq_true (decide (0 ≤ manyL L 3 0)) with c10_t | c10_f
 ·have c10_tp : 0 ≤ manyL L 3 0 := of_decide_eq_true c10_t
  refine S_yes (j := 2) (dj := 8) (b := true) rfl rfl (congrArg Value.bool c10_t) (T_val (v := (Value.int .i64 (manyL L 3 0))) (x_move rfl) ?_)
  refine S_yes (j := 2) (dj := 8) (b := true) rfl rfl (congrArg Value.bool c10_t) (T_val (v := (Value.bool (decide (manyL L 3 0 ≤ 200)))) (x_bin rfl rfl rfl) ?_)
  refine S_list (T_pickT (v := (Value.bool (decide (manyL L 3 0 ≤ 200)))) (congrArg Value.bool c10_t) rfl ?_)
  refine S_list (T_val (v := (Value.bool (decide (manyL L 3 0 ≤ 200)))) (x_assign rfl) ?_)
  refine wpList_nil ?_
  refine (X_then (hK9_ _ _ ?_))
  clear hK9_
  refine C_ret ?_
  refine R_any (v := (Value.bool (decide (manyL L 3 0 ≤ 200)))) (run_results1 rfl rfl) ?_
  exact ⟨_, _, rfl, ⟨(congrArg Value.bool ((by first | rfl | (simp_all; done) | (simp_all; omega)) : (decide (manyL L 3 0 ≤ 200)) = (decide (0 ≤ manyL L 3 0 ∧ manyL L 3 0 ≤ 200)))), rfl⟩, S8_, H5_⟩
 ·have c10_fp : ¬ (0 ≤ manyL L 3 0) := of_decide_eq_false c10_f
  refine S_no (j := 2) (dj := 8) (b := false) rfl rfl (congrArg Value.bool c10_f) (by decide) ?_
  refine S_no (j := 2) (dj := 8) (b := false) rfl rfl (congrArg Value.bool c10_f) (by decide) ?_
  refine S_list (T_pickF (v := (Value.bool false)) (congrArg Value.bool c10_f) rfl ?_)
  refine S_list (T_val (v := (Value.bool false)) (x_assign rfl) ?_)
  refine wpList_nil ?_
  refine (X_then (hK9_ _ _ ?_))
  clear hK9_
  refine C_ret ?_
  refine R_any (v := (Value.bool false)) (run_results1 rfl rfl) ?_
  exact ⟨_, _, rfl, ⟨(congrArg Value.bool ((by first | rfl | (simp_all; done) | (simp_all; omega)) : false = (decide (0 ≤ manyL L 3 0 ∧ manyL L 3 0 ≤ 200)))), rfl⟩, S8_, H5_⟩

set_option maxHeartbeats 2000000 in
theorem ckPuts_step (R : HP) (u v : Value) (m : Nat) (xs : List Value) (L : List RT) (n__ : Nat) (hL : RS R 21 v (List.length L) (L.flatMap RT.cells)) (hR : RAts R L) (hl : L.length ≤ 1000000000000000) (hm : m + cntL 2 L ≤ 1000) (hn__ : (lsz L) ≤ n__) (ih : ∀ (R : HP) (u v : Value) (m : Nat) (xs : List Value) (L : List RT) (hL : RS R 21 v (List.length L) (L.flatMap RT.cells)) (hR : RAts R L) (hl : L.length ≤ 1000000000000000) (hm : m + cntL 2 L ≤ 1000) (hms : (lsz L) < n__), Tri Try.prog 12 #[u, v] R [sl 9 1 u m xs] (fun v__ post__ => ∃ (u' : Value) (m' : Nat) (xs' : List Value), v__ = u' ∧ post__ = [sl 9 1 u' m' xs'] ∧ (m' = m + cntL 2 L))) :
    Tri Try.prog 12 #[u, v] R [sl 9 1 u m xs] (fun v__ post__ => ∃ (u' : Value) (m' : Nat) (xs' : List Value), v__ = u' ∧ post__ = [sl 9 1 u' m' xs'] ∧ (m' = m + cntL 2 L)) := by
 refine Tri.into (n := 33) (al := [u, v]) Try.func12 rfl Try.ntmps12 rfl rfl fun w F H => ?_
 replace H : Holds w (ro R :: sl 9 1 u m xs :: F) := H
 refine C_seq (fun K1_ hK1_ => ?_)
 refine C_reg ?_
 refine S_list (T_val (v := (Value.slice none 0 0)) (x_assign rfl) ?_)
 refine wpList_nil ?_
 refine (X_then (hK1_ _ _ ?_))
 clear hK1_
 refine C_seq (fun K2_ hK2_ => ?_)
 refine C_seq (fun K3_ hK3_ => ?_)
 refine C_reg ?_
 refine S_list (T_val (v := v) (x_move rfl) ?_)
 refine S_list (T_val (v := (Value.int .i64 ((List.length L) : Int))) (x_lenRS rfl hL Try.underlying23) ?_)
 refine S_list (T_val (v := (Value.int .i64 0)) (x_move rfl) ?_)
 refine wpList_nil ?_
 refine (X_then (hK3_ _ _ ?_))
 clear hK3_
 refine C_block ?_
 refine C_loop (γ := Nat × Nat × Value × (List Value)) (fun x__ a__ w1__ => match x__ with | ⟨k, m1, u1, xs1⟩ => ∃ h : Env, a__ = mkA 33 (upd (upd (upd (upd (upd h 0 u1) 4 (Value.slice none 0 0)) 7 v) 8 (Value.int .i64 ((List.length L) : Int))) 9 (Value.int .i64 (k : Int))) [] ∧ Holds w1__ (ro R :: sl 9 1 u1 m1 xs1 :: F) ∧ Same w w1__ ∧ (k ≤ L.length) ∧ (m1 + cntL 2 (L.drop k) = m + cntL 2 L)) (fun x__ => match x__ with | ⟨k, m1, u1, xs1⟩ => L.length - k) (⟨0, m, u, xs⟩) ⟨_, congrArg (fun e => mkA 33 e []) (ch (ch (ch (ch (ch rfl rfl) rfl) rfl) rfl) (congrArg (Value.int .i64) ((by first | rfl | omega | (simp; done) | (simp; omega)) : 0 = (0 : Int)))), H, (Same.refl w), (by first | assumption | omega | exact rfl), (by rw [List.drop_zero])⟩ ?_
 rintro ⟨k, m1, u1, xs1⟩ _ w4_ ⟨h, rfl, H5_, S6_, hk, hin⟩
 refine C_seq (fun K7_ hK7_ => ?_)
 refine C_reg ?_
 refine S_list (T_val (v := (Value.bool (decide ((k : Int) < ((List.length L) : Int))))) (x_bin rfl rfl rfl) ?_)
 refine wpList_nil ?_
 refine (X_then (hK7_ _ _ ?_))
 clear hK7_
 refine C_seq (fun K8_ hK8_ => ?_)
 refine C_cond (b := decide ((k : Int) < ((List.length L) : Int))) rfl (fun c9_t => ?_) (fun c9_f => ?_)
 ·have c9_tp : (k : Int) < ((List.length L) : Int) := of_decide_eq_true c9_t
  refine C_skip (X_then (hK8_ _ _ ?_))
  clear hK8_
  refine C_seq (fun K10_ hK10_ => ?_)
  refine C_block ?_
  refine C_seq (fun K11_ hK11_ => ?_)
  refine C_reg ?_
  obtain ⟨x12_, hx13_, hm14_⟩ := elem_at L k (by omega)
  have hra15_ := hR x12_ hm14_
  have := hra15_.b
  have := RT.sz_mem hm14_
  have := RT.sz_tt x12_
  have := RT.sz_ee x12_
  have hcs_ := cnt_step (c := 2) hx13_
  have hco_ := cnt_or 2 (by decide) x12_
  refine S_list (T_val (v := (Value.pointer (some ⟨(sb v), so v + (k * 21 + 0), none⟩))) (x_idxRS (v := v) rfl hL rfl Try.underlying23 z25 (by omega) (by omega) (by omega : _ = k) rfl) ?_)
  refine S_list (T_val (v := (Value.agg #[(Value.int .i64 x12_.q.kind), (Value.string x12_.q.key), (Value.string x12_.q.end_), (Value.string x12_.q.value), (Value.int .i64 x12_.q.lease), (Value.int .i64 x12_.q.rev), (Value.int .i64 x12_.q.limit), (Value.int .i64 x12_.q.sortOrder), (Value.int .i64 x12_.q.sortTarget), (Value.int .i64 x12_.q.minMod), (Value.int .i64 x12_.q.maxMod), (Value.int .i64 x12_.q.minCreate), (Value.int .i64 x12_.q.maxCreate), (Value.bool x12_.q.keysOnly), (Value.bool x12_.q.countOnly), (Value.bool x12_.q.prev), (Value.bool x12_.q.ignoreValue), (Value.bool x12_.q.ignoreLease), x12_.q.cmps, x12_.q.then_, x12_.q.else_])) (x_loadN (vs := [(Value.int .i64 x12_.q.kind), (Value.string x12_.q.key), (Value.string x12_.q.end_), (Value.string x12_.q.value), (Value.int .i64 x12_.q.lease), (Value.int .i64 x12_.q.rev), (Value.int .i64 x12_.q.limit), (Value.int .i64 x12_.q.sortOrder), (Value.int .i64 x12_.q.sortTarget), (Value.int .i64 x12_.q.minMod), (Value.int .i64 x12_.q.maxMod), (Value.int .i64 x12_.q.minCreate), (Value.int .i64 x12_.q.maxCreate), (Value.bool x12_.q.keysOnly), (Value.bool x12_.q.countOnly), (Value.bool x12_.q.prev), (Value.bool x12_.q.ignoreValue), (Value.bool x12_.q.ignoreLease), x12_.q.cmps, x12_.q.then_, x12_.q.else_]) rfl Try.underlying25 rfl z25 rfl (RC.cells (RS.rc hL) (Holds.ro_at H5_ 0 rfl) (k * 21 + 0) (fm_cells RT.len hx13_ (i := 0) rfl))) ?_)
  refine S_list (T_alloc z25 H5_ ?_)
  intro b16_ w17_ S19_ H18_
  have S20_ := Same.trans S6_ S19_
  refine S_list0 (T_storeN (vs := [(Value.int .i64 x12_.q.kind), (Value.string x12_.q.key), (Value.string x12_.q.end_), (Value.string x12_.q.value), (Value.int .i64 x12_.q.lease), (Value.int .i64 x12_.q.rev), (Value.int .i64 x12_.q.limit), (Value.int .i64 x12_.q.sortOrder), (Value.int .i64 x12_.q.sortTarget), (Value.int .i64 x12_.q.minMod), (Value.int .i64 x12_.q.maxMod), (Value.int .i64 x12_.q.minCreate), (Value.int .i64 x12_.q.maxCreate), (Value.bool x12_.q.keysOnly), (Value.bool x12_.q.countOnly), (Value.bool x12_.q.prev), (Value.bool x12_.q.ignoreValue), (Value.bool x12_.q.ignoreLease), x12_.q.cmps, x12_.q.then_, x12_.q.else_]) rfl rfl z25 rfl (List.forall_mem_cons.2 ⟨rfl, (List.forall_mem_cons.2 ⟨rfl, (List.forall_mem_cons.2 ⟨rfl, (List.forall_mem_cons.2 ⟨rfl, (List.forall_mem_cons.2 ⟨rfl, (List.forall_mem_cons.2 ⟨rfl, (List.forall_mem_cons.2 ⟨rfl, (List.forall_mem_cons.2 ⟨rfl, (List.forall_mem_cons.2 ⟨rfl, (List.forall_mem_cons.2 ⟨rfl, (List.forall_mem_cons.2 ⟨rfl, (List.forall_mem_cons.2 ⟨rfl, (List.forall_mem_cons.2 ⟨rfl, (List.forall_mem_cons.2 ⟨rfl, (List.forall_mem_cons.2 ⟨rfl, (List.forall_mem_cons.2 ⟨rfl, (List.forall_mem_cons.2 ⟨rfl, (List.forall_mem_cons.2 ⟨rfl, (List.forall_mem_cons.2 ⟨(RS.one (hra15_.c)), (List.forall_mem_cons.2 ⟨(RS.one (hra15_.t)), (List.forall_mem_cons.2 ⟨(RS.one (hra15_.e)), (fun _ h__ => by cases h__)⟩)⟩)⟩)⟩)⟩)⟩)⟩)⟩)⟩)⟩)⟩)⟩)⟩)⟩)⟩)⟩)⟩)⟩)⟩)⟩)⟩) H18_ 0 rfl (Nat.le_of_ble_eq_true (by rfl)) ?_)
  intro w21_ S23_ H22_
  have S24_ := Same.trans S20_ S23_
  refine wpList_nil ?_
  refine (X_then (hK11_ _ _ ?_))
  clear hK11_
  refine C_seq (fun K25_ hK25_ => ?_)
  refine C_seq (fun K26_ hK26_ => ?_)
  refine C_reg ?_
  refine S_list (T_val (v := (Value.pointer (some ⟨b16_, 0, none⟩))) (by kernel_rfl) ?_)
  refine S_list (T_val (v := (Value.int .i64 x12_.q.kind)) (x_load1 rfl Try.underlying3 rfl ((Holds.rd H22_ 0 rfl) 0 (Value.int .i64 x12_.q.kind) rfl)) ?_)
  refine S_list (T_val (v := (Value.bool (decide (x12_.q.kind = 2)))) (x_bin rfl rfl rfl) ?_)
  refine wpList_nil ?_
  refine (X_then (hK26_ _ _ ?_))
  clear hK26_
  refine C_cond (b := decide (x12_.q.kind = 2)) rfl (fun c27_t => ?_) (fun c27_f => ?_)
  ·have c27_tp : x12_.q.kind = 2 := of_decide_eq_true c27_t
   refine C_reg ?_
   refine S_list (T_val (v := u1) (x_move rfl) ?_)
   refine S_list (T_val (v := (Value.pointer (some ⟨b16_, 1, none⟩))) (by kernel_rfl) ?_)
   refine S_list (T_val (v := (Value.string x12_.q.key)) (x_load1 rfl Try.underlying9 rfl ((Holds.rd H22_ 0 rfl) 1 (Value.string x12_.q.key) rfl)) ?_)
   refine S_list (T_new (obj := .cells #[(Value.string x12_.q.key)] 9) (f := fun b__ => .slice (some ⟨b__, 0, none⟩) 1 1) (A := fun b__ => cl b__ 9 [(Value.string x12_.q.key)]) (by kernel_rfl) (fun l h => h.alloc _ _) H22_ ?_)
   intro b28_ w29_ S31_ H30_
   replace H30_ : Holds w29_ (cl b28_ 9 [(Value.string x12_.q.key)] :: cl b16_ 25 [(Value.int .i64 x12_.q.kind), (Value.string x12_.q.key), (Value.string x12_.q.end_), (Value.string x12_.q.value), (Value.int .i64 x12_.q.lease), (Value.int .i64 x12_.q.rev), (Value.int .i64 x12_.q.limit), (Value.int .i64 x12_.q.sortOrder), (Value.int .i64 x12_.q.sortTarget), (Value.int .i64 x12_.q.minMod), (Value.int .i64 x12_.q.maxMod), (Value.int .i64 x12_.q.minCreate), (Value.int .i64 x12_.q.maxCreate), (Value.bool x12_.q.keysOnly), (Value.bool x12_.q.countOnly), (Value.bool x12_.q.prev), (Value.bool x12_.q.ignoreValue), (Value.bool x12_.q.ignoreLease), x12_.q.cmps, x12_.q.then_, x12_.q.else_] :: ro R :: sl 9 1 u1 m1 xs1 :: F) := H30_
   have S32_ := Same.trans S24_ S31_
   refine S_list (T_append rfl rfl Try.underlying28 z9 rfl (by decide) H30_ 3 rfl (Holds.cl_src H30_ 0 rfl Try.underlying28 (by simp [Value.oneCell']) rfl) (by first | omega | (simp only [List.length_append, List.length_cons, List.length_nil]; omega)) ?_)
   intro v33_ w34_ S36_ H35_
   have S37_ := Same.trans S32_ S36_
   refine S_list (T_val (v := v33_) (x_assign rfl) ?_)
   refine wpList_nil ?_
   refine (X_then (hK25_ _ _ ?_))
   clear hK25_
   refine C_seq (fun K38_ hK38_ => ?_)
   refine C_reg ?_
   refine S_list (T_val (v := (Value.pointer (some ⟨b16_, 0, none⟩))) (by kernel_rfl) ?_)
   refine S_list (T_val (v := (Value.int .i64 x12_.q.kind)) (x_load1 rfl Try.underlying3 rfl ((Holds.rd H35_ 1 rfl) 0 (Value.int .i64 x12_.q.kind) rfl)) ?_)
   refine S_list (T_val (v := (Value.bool (decide (x12_.q.kind = 4)))) (x_bin rfl rfl rfl) ?_)
   refine wpList_nil ?_
   refine (X_then (hK38_ _ _ ?_))
   clear hK38_
   refine C_cond (b := decide (x12_.q.kind = 4)) rfl (fun c39_t => ?_) (fun c39_f => ?_)
   ·have c39_tp : x12_.q.kind = 4 := of_decide_eq_true c39_t
    refine A_start (S := fun w => Rd b16_ [(Value.int .i64 x12_.q.kind), (Value.string x12_.q.key), (Value.string x12_.q.end_), (Value.string x12_.q.value), (Value.int .i64 x12_.q.lease), (Value.int .i64 x12_.q.rev), (Value.int .i64 x12_.q.limit), (Value.int .i64 x12_.q.sortOrder), (Value.int .i64 x12_.q.sortTarget), (Value.int .i64 x12_.q.minMod), (Value.int .i64 x12_.q.maxMod), (Value.int .i64 x12_.q.minCreate), (Value.int .i64 x12_.q.maxCreate), (Value.bool x12_.q.keysOnly), (Value.bool x12_.q.countOnly), (Value.bool x12_.q.prev), (Value.bool x12_.q.ignoreValue), (Value.bool x12_.q.ignoreLease), x12_.q.cmps, x12_.q.then_, x12_.q.else_] w ∧ Sub R (hp w)) (N := 8) foll rfl rfl ?_
    have H40_ := Holds.drew_ H35_
    have hq41_ := And.intro (Holds.rd H40_ 1 rfl) ((Holds.ro_at H40_ 2 rfl))
    refine A_tk 0 (v := v33_) rfl (by kernel_rfl) (fun w hS => x_move rfl) hq41_ ?_
    refine A_tk 1 (v := (Value.pointer (some ⟨b16_, 19, none⟩))) rfl (by kernel_rfl) (fun w hS => by kernel_rfl) hq41_ ?_
    refine A_tk 2 (v := x12_.q.then_) rfl (by kernel_rfl) (fun w hS => x_load1 rfl Try.underlying23 rfl (hS.1 19 x12_.q.then_ rfl)) hq41_ ?_
    refine A_tk 4 (v := (Value.pointer (some ⟨b16_, 20, none⟩))) rfl (by kernel_rfl) (fun w hS => by kernel_rfl) hq41_ ?_
    refine A_tk 5 (v := x12_.q.else_) rfl (by kernel_rfl) (fun w hS => x_load1 rfl Try.underlying23 rfl (hS.1 20 x12_.q.else_ rfl)) hq41_ ?_
    refine A_ready (i := 3) (rs := []) (by kernel_rfl) ?_
    refine AllR.cons ?_ AllR.nil
    have H46_ := ((Holds.bring (Holds.bring H40_ 3 rfl) 3 rfl) :)
    refine A_op (ls' := #[true, true, true, true, true, true, false, false]) rfl (by kernel_rfl) (T_call (al := [v33_, x12_.q.then_]) (pre := [sl 9 1 v33_ (m1 + 1) (xs1 ++ [(Value.string x12_.q.key)])]) rfl rfl cb12 (ih R v33_ x12_.q.then_ (m1 + 1) (xs1 ++ [(Value.string x12_.q.key)]) x12_.tt (hra15_.t) (hra15_.tt) (by omega) (by omega) (by omega)) H46_ ?_)
    rintro v42_ p50_ w47_ ⟨_, m43_, xs44_, rfl, rfl, he45_⟩ S49_ H48_
    have S51_ := Same.trans (Same.trans S37_ (Same.drew _)) S49_
    refine ⟨⟨Holds.rd H48_ 3 rfl, (Holds.ro_at H48_ 0 rfl)⟩, ?_⟩
    refine A_ready (i := 6) (rs := []) (by kernel_rfl) ?_
    refine AllR.cons ?_ AllR.nil
    refine A_op (ls' := #[true, true, true, true, true, true, true, false]) rfl (by kernel_rfl) (T_call (al := [v42_, x12_.q.else_]) (pre := [sl 9 1 v42_ m43_ xs44_]) rfl rfl cb12 (ih R v42_ x12_.q.else_ m43_ xs44_ x12_.ee (hra15_.e) (hra15_.ee) (by omega) (by omega) (by omega)) H48_ ?_)
    rintro v52_ p59_ w56_ ⟨_, m53_, xs54_, rfl, rfl, he55_⟩ S58_ H57_
    replace H57_ : Holds w56_ (ro R :: sl 9 1 v52_ m53_ xs54_ :: cl b28_ 9 [(Value.string x12_.q.key)] :: cl b16_ 25 [(Value.int .i64 x12_.q.kind), (Value.string x12_.q.key), (Value.string x12_.q.end_), (Value.string x12_.q.value), (Value.int .i64 x12_.q.lease), (Value.int .i64 x12_.q.rev), (Value.int .i64 x12_.q.limit), (Value.int .i64 x12_.q.sortOrder), (Value.int .i64 x12_.q.sortTarget), (Value.int .i64 x12_.q.minMod), (Value.int .i64 x12_.q.maxMod), (Value.int .i64 x12_.q.minCreate), (Value.int .i64 x12_.q.maxCreate), (Value.bool x12_.q.keysOnly), (Value.bool x12_.q.countOnly), (Value.bool x12_.q.prev), (Value.bool x12_.q.ignoreValue), (Value.bool x12_.q.ignoreLease), x12_.q.cmps, x12_.q.then_, x12_.q.else_] :: F) := H57_
    have S60_ := Same.trans S51_ S58_
    refine ⟨⟨Holds.rd H57_ 3 rfl, (Holds.ro_at H57_ 0 rfl)⟩, ?_⟩
    have hq61_ := And.intro (Holds.rd H57_ 3 rfl) ((Holds.ro_at H57_ 0 rfl))
    refine A_tk 7 (v := v52_) rfl (by kernel_rfl) (fun w hS => x_assign rfl) hq61_ ?_
    refine A_done (by kernel_rfl) ?_
    refine (X_blkN (X_then (hK10_ _ _ ?_)))
    clear hK10_
    refine C_reg ?_
    refine S_list (T_val (v := (Value.int .i64 ((k : Int) + 1))) (x_bin rfl rfl (ib_add (IntWalk.i64_in _ (by omega)))) ?_)
    refine S_list (T_val (v := (Value.int .i64 ((k : Int) + 1))) (x_move rfl) ?_)
    refine wpList_nil ?_
    refine (X_then ?_)
    have H62_ : Holds w56_ (ro R :: sl 9 1 v52_ m53_ xs54_ :: F) := (Holds.pkF H57_ [0, 0] 2 :)
    exact ⟨⟨k + 1, m53_, v52_, xs54_⟩, ⟨_, congrArg (fun e => mkA 33 e []) (ch (ch (ch (ch (ch rfl rfl) rfl) rfl) rfl) (congrArg (Value.int .i64) ((by first | rfl | omega | (simp; done) | (simp; omega)) : (k : Int) + 1 = ((k + 1 : Nat) : Int)))), H62_, S60_, (by first | assumption | omega | exact rfl), (by omega)⟩, by first | omega | (dsimp only; omega) | (simp; omega)⟩
   ·have c39_fp : ¬ (x12_.q.kind = 4) := of_decide_eq_false c39_f
    refine C_skip (X_blkN (X_then (hK10_ _ _ ?_)))
    clear hK10_
    refine C_reg ?_
    refine S_list (T_val (v := (Value.int .i64 ((k : Int) + 1))) (x_bin rfl rfl (ib_add (IntWalk.i64_in _ (by omega)))) ?_)
    refine S_list (T_val (v := (Value.int .i64 ((k : Int) + 1))) (x_move rfl) ?_)
    refine wpList_nil ?_
    refine (X_then ?_)
    have H63_ : Holds w34_ (ro R :: sl 9 1 v33_ (m1 + 1) (xs1 ++ [(Value.string x12_.q.key)]) :: F) := (Holds.pkF H35_ [2, 2] 2 :)
    exact ⟨⟨k + 1, m1 + 1, v33_, xs1 ++ [(Value.string x12_.q.key)]⟩, ⟨_, congrArg (fun e => mkA 33 e []) (ch (ch (ch (ch (ch rfl rfl) rfl) rfl) rfl) (congrArg (Value.int .i64) ((by first | rfl | omega | (simp; done) | (simp; omega)) : (k : Int) + 1 = ((k + 1 : Nat) : Int)))), H63_, S37_, (by first | assumption | omega | exact rfl), (by omega)⟩, by first | omega | (dsimp only; omega) | (simp; omega)⟩
  ·have c27_fp : ¬ (x12_.q.kind = 2) := of_decide_eq_false c27_f
   refine C_skip (X_then (hK25_ _ _ ?_))
   clear hK25_
   refine C_seq (fun K64_ hK64_ => ?_)
   refine C_reg ?_
   refine S_list (T_val (v := (Value.pointer (some ⟨b16_, 0, none⟩))) (by kernel_rfl) ?_)
   refine S_list (T_val (v := (Value.int .i64 x12_.q.kind)) (x_load1 rfl Try.underlying3 rfl ((Holds.rd H22_ 0 rfl) 0 (Value.int .i64 x12_.q.kind) rfl)) ?_)
   refine S_list (T_val (v := (Value.bool (decide (x12_.q.kind = 4)))) (x_bin rfl rfl rfl) ?_)
   refine wpList_nil ?_
   refine (X_then (hK64_ _ _ ?_))
   clear hK64_
   refine C_cond (b := decide (x12_.q.kind = 4)) rfl (fun c65_t => ?_) (fun c65_f => ?_)
   ·have c65_tp : x12_.q.kind = 4 := of_decide_eq_true c65_t
    refine A_start (S := fun w => Rd b16_ [(Value.int .i64 x12_.q.kind), (Value.string x12_.q.key), (Value.string x12_.q.end_), (Value.string x12_.q.value), (Value.int .i64 x12_.q.lease), (Value.int .i64 x12_.q.rev), (Value.int .i64 x12_.q.limit), (Value.int .i64 x12_.q.sortOrder), (Value.int .i64 x12_.q.sortTarget), (Value.int .i64 x12_.q.minMod), (Value.int .i64 x12_.q.maxMod), (Value.int .i64 x12_.q.minCreate), (Value.int .i64 x12_.q.maxCreate), (Value.bool x12_.q.keysOnly), (Value.bool x12_.q.countOnly), (Value.bool x12_.q.prev), (Value.bool x12_.q.ignoreValue), (Value.bool x12_.q.ignoreLease), x12_.q.cmps, x12_.q.then_, x12_.q.else_] w ∧ Sub R (hp w)) (N := 8) foll rfl rfl ?_
    have H66_ := Holds.drew_ H22_
    have hq67_ := And.intro (Holds.rd H66_ 0 rfl) ((Holds.ro_at H66_ 1 rfl))
    refine A_tk 0 (v := u1) rfl (by kernel_rfl) (fun w hS => x_move rfl) hq67_ ?_
    refine A_tk 1 (v := (Value.pointer (some ⟨b16_, 19, none⟩))) rfl (by kernel_rfl) (fun w hS => by kernel_rfl) hq67_ ?_
    refine A_tk 2 (v := x12_.q.then_) rfl (by kernel_rfl) (fun w hS => x_load1 rfl Try.underlying23 rfl (hS.1 19 x12_.q.then_ rfl)) hq67_ ?_
    refine A_tk 4 (v := (Value.pointer (some ⟨b16_, 20, none⟩))) rfl (by kernel_rfl) (fun w hS => by kernel_rfl) hq67_ ?_
    refine A_tk 5 (v := x12_.q.else_) rfl (by kernel_rfl) (fun w hS => x_load1 rfl Try.underlying23 rfl (hS.1 20 x12_.q.else_ rfl)) hq67_ ?_
    refine A_ready (i := 3) (rs := []) (by kernel_rfl) ?_
    refine AllR.cons ?_ AllR.nil
    have H72_ := ((Holds.bring (Holds.bring H66_ 2 rfl) 2 rfl) :)
    replace H72_ : Holds w21_.drew (ro R :: sl 9 1 u1 m1 xs1 :: cl b16_ 25 [(Value.int .i64 x12_.q.kind), (Value.string x12_.q.key), (Value.string x12_.q.end_), (Value.string x12_.q.value), (Value.int .i64 x12_.q.lease), (Value.int .i64 x12_.q.rev), (Value.int .i64 x12_.q.limit), (Value.int .i64 x12_.q.sortOrder), (Value.int .i64 x12_.q.sortTarget), (Value.int .i64 x12_.q.minMod), (Value.int .i64 x12_.q.maxMod), (Value.int .i64 x12_.q.minCreate), (Value.int .i64 x12_.q.maxCreate), (Value.bool x12_.q.keysOnly), (Value.bool x12_.q.countOnly), (Value.bool x12_.q.prev), (Value.bool x12_.q.ignoreValue), (Value.bool x12_.q.ignoreLease), x12_.q.cmps, x12_.q.then_, x12_.q.else_] :: F) := H72_
    refine A_op (ls' := #[true, true, true, true, true, true, false, false]) rfl (by kernel_rfl) (T_call (al := [u1, x12_.q.then_]) (pre := [sl 9 1 u1 m1 xs1]) rfl rfl cb12 (ih R u1 x12_.q.then_ m1 xs1 x12_.tt (hra15_.t) (hra15_.tt) (by omega) (by omega) (by omega)) H72_ ?_)
    rintro v68_ p76_ w73_ ⟨_, m69_, xs70_, rfl, rfl, he71_⟩ S75_ H74_
    have S77_ := Same.trans (Same.trans S24_ (Same.drew _)) S75_
    refine ⟨⟨Holds.rd H74_ 2 rfl, (Holds.ro_at H74_ 0 rfl)⟩, ?_⟩
    refine A_ready (i := 6) (rs := []) (by kernel_rfl) ?_
    refine AllR.cons ?_ AllR.nil
    refine A_op (ls' := #[true, true, true, true, true, true, true, false]) rfl (by kernel_rfl) (T_call (al := [v68_, x12_.q.else_]) (pre := [sl 9 1 v68_ m69_ xs70_]) rfl rfl cb12 (ih R v68_ x12_.q.else_ m69_ xs70_ x12_.ee (hra15_.e) (hra15_.ee) (by omega) (by omega) (by omega)) H74_ ?_)
    rintro v78_ p85_ w82_ ⟨_, m79_, xs80_, rfl, rfl, he81_⟩ S84_ H83_
    have S86_ := Same.trans S77_ S84_
    refine ⟨⟨Holds.rd H83_ 2 rfl, (Holds.ro_at H83_ 0 rfl)⟩, ?_⟩
    have hq87_ := And.intro (Holds.rd H83_ 2 rfl) ((Holds.ro_at H83_ 0 rfl))
    refine A_tk 7 (v := v78_) rfl (by kernel_rfl) (fun w hS => x_assign rfl) hq87_ ?_
    refine A_done (by kernel_rfl) ?_
    refine (X_blkN (X_then (hK10_ _ _ ?_)))
    clear hK10_
    refine C_reg ?_
    refine S_list (T_val (v := (Value.int .i64 ((k : Int) + 1))) (x_bin rfl rfl (ib_add (IntWalk.i64_in _ (by omega)))) ?_)
    refine S_list (T_val (v := (Value.int .i64 ((k : Int) + 1))) (x_move rfl) ?_)
    refine wpList_nil ?_
    refine (X_then ?_)
    have H88_ : Holds w82_ (ro R :: sl 9 1 v78_ m79_ xs80_ :: F) := (Holds.pkF H83_ [0, 0] 1 :)
    exact ⟨⟨k + 1, m79_, v78_, xs80_⟩, ⟨_, congrArg (fun e => mkA 33 e []) (ch (ch (ch (ch (ch rfl rfl) rfl) rfl) rfl) (congrArg (Value.int .i64) ((by first | rfl | omega | (simp; done) | (simp; omega)) : (k : Int) + 1 = ((k + 1 : Nat) : Int)))), H88_, S86_, (by first | assumption | omega | exact rfl), (by omega)⟩, by first | omega | (dsimp only; omega) | (simp; omega)⟩
   ·have c65_fp : ¬ (x12_.q.kind = 4) := of_decide_eq_false c65_f
    refine C_skip (X_blkN (X_then (hK10_ _ _ ?_)))
    clear hK10_
    refine C_reg ?_
    refine S_list (T_val (v := (Value.int .i64 ((k : Int) + 1))) (x_bin rfl rfl (ib_add (IntWalk.i64_in _ (by omega)))) ?_)
    refine S_list (T_val (v := (Value.int .i64 ((k : Int) + 1))) (x_move rfl) ?_)
    refine wpList_nil ?_
    refine (X_then ?_)
    have H89_ : Holds w21_ (ro R :: sl 9 1 u1 m1 xs1 :: F) := (Holds.pkF H22_ [1, 1] 1 :)
    exact ⟨⟨k + 1, m1, u1, xs1⟩, ⟨_, congrArg (fun e => mkA 33 e []) (ch (ch (ch (ch (ch rfl rfl) rfl) rfl) rfl) (congrArg (Value.int .i64) ((by first | rfl | omega | (simp; done) | (simp; omega)) : (k : Int) + 1 = ((k + 1 : Nat) : Int)))), H89_, S24_, (by first | assumption | omega | exact rfl), (by omega)⟩, by first | omega | (dsimp only; omega) | (simp; omega)⟩
 ·have c9_fp : ¬ ((k : Int) < ((List.length L) : Int)) := of_decide_eq_false c9_f
  refine C_exit (X_thenX (X_thenX (X_blkHit ?_)))
  refine (X_then (hK2_ _ _ ?_))
  clear hK2_
  refine C_seq (fun K90_ hK90_ => ?_)
  refine C_reg ?_
  refine S_list (T_val (v := u1) (x_move rfl) ?_)
  refine S_list (T_val (v := u1) (x_assign rfl) ?_)
  refine wpList_nil ?_
  refine (X_then (hK90_ _ _ ?_))
  clear hK90_
  refine C_ret ?_
  refine R_any (v := u1) (run_results1 rfl rfl) ?_
  exact ⟨_, _, rfl, ⟨u1, m1, xs1, rfl, rfl, (by rw [cnt_end (by omega)] at hin; omega)⟩, S6_, H5_⟩

theorem ckPuts (R : HP) (u v : Value) (m : Nat) (xs : List Value) (L : List RT) (hL : RS R 21 v (List.length L) (L.flatMap RT.cells)) (hR : RAts R L) (hl : L.length ≤ 1000000000000000) (hm : m + cntL 2 L ≤ 1000) : Tri Try.prog 12 #[u, v] R [sl 9 1 u m xs] (fun v__ post__ => ∃ (u' : Value) (m' : Nat) (xs' : List Value), v__ = u' ∧ post__ = [sl 9 1 u' m' xs'] ∧ (m' = m + cntL 2 L)) := by
  have key : ∀ (n__ : Nat) (R : HP) (u v : Value) (m : Nat) (xs : List Value) (L : List RT) (hL : RS R 21 v (List.length L) (L.flatMap RT.cells)) (hR : RAts R L) (hl : L.length ≤ 1000000000000000) (hm : m + cntL 2 L ≤ 1000) (hn__ : lsz L = n__), Tri Try.prog 12 #[u, v] R [sl 9 1 u m xs] (fun v__ post__ => ∃ (u' : Value) (m' : Nat) (xs' : List Value), v__ = u' ∧ post__ = [sl 9 1 u' m' xs'] ∧ (m' = m + cntL 2 L)) := by
    intro n__
    induction n__ using Nat.strongRecOn with
    | ind n__ ih => intro R u v m xs L hL hR hl hm hn__; exact ckPuts_step R u v m xs L n__ hL hR hl hm (Nat.le_of_eq hn__) (fun R u v m xs L hL hR hl hm hms => ih _ hms R u v m xs L hL hR hl hm rfl)
  exact key _ R u v m xs L hL hR hl hm rfl
end Go.Proofs.Ytlnihndjepjagaa
