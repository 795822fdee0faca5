/- What the order of a queue of leases comes to: up and down. -/
import Derived.Test.YtgeggiebefonhaaQuE
set_option linter.unusedVariables false
set_option linter.unusedSimpArgs false
namespace Go.Proofs.Ytgeggiebefonhaa
open Go Go.RowKit Gw

set_option maxHeartbeats 400000 in
theorem qUp (R : HP) (nb mb : Nat) (v : Value) (q : List Nd) (j : Nat) (hj : j < q.length) (hn : q.length ≤ 100000) (hu : UpInv q j) :
    Tri Try.prog 86 #[(Value.iface 139 (Value.pointer (some ⟨nb, 1, none⟩))), (Value.int .i64 (j : Int))] R [cl nb 135 [(Value.map (some mb)), v], sl 77 1 v (List.length q) (ptrs q), fam 137 (encs q)] (fun v__ post__ => ∃ (q' : List Nd), v__ = (Value.tuple #[]) ∧ post__ = [cl nb 135 [(Value.map (some mb)), v], sl 77 1 v (List.length q') (ptrs q'), fam 137 (encs q')] ∧ (QP q q') ∧ (HeapN q' q'.length)) := by
  refine Tri.into (n := 23) (al := [(Value.iface 139 (Value.pointer (some ⟨nb, 1, none⟩))), (Value.int .i64 (j : Int))]) Try.func86 rfl Try.ntmps86 rfl rfl fun w F H => ?_
  replace H : Holds w (ro R :: cl nb 135 [(Value.map (some mb)), v] :: sl 77 1 v (List.length q) (ptrs q) :: fam 137 (encs q) :: F) := H
  refine C_block ?_
  refine C_loop (γ := (List Nd) × Nat) (fun x a w1 => match x with | ⟨q1, j1⟩ => ∃ h : Env, a = mkA 23 (upd (upd h 0 (Value.iface 139 (Value.pointer (some ⟨nb, 1, none⟩)))) 1 (Value.int .i64 (j1 : Int))) [] ∧ Holds w1 (ro R :: cl nb 135 [(Value.map (some mb)), v] :: sl 77 1 v (List.length q1) (ptrs q1) :: fam 137 (encs q1) :: F) ∧ Same w w1 ∧ (UpInv q1 j1) ∧ (j1 < q1.length) ∧ (QP q q1)) (fun x => match x with | ⟨q1, j1⟩ => j1) (⟨q, j⟩) ⟨_, congrArg (fun e => mkA 23 e []) (ch (ch rfl rfl) rfl), H, (Same.refl w), (hu), (by first | assumption | omega | exact rfl), (QP.refl q)⟩ ?_
  rintro ⟨q1, j1⟩ _ w1_ ⟨h, rfl, H2_, S3_, hup, hj1, hqp⟩
  obtain ⟨y, hy, -⟩ := elem_at q1 j1 (by omega)
  obtain ⟨x, hx, -⟩ := elem_at q1 ((j1 - 1) / 2) (by omega)
  have hle := hqp.2.2
  refine C_block ?_
  refine C_seq (fun K4_ hK4_ => ?_)
  refine C_reg ?_
  refine S_list (T_val (v := (Value.int .i64 (j1 : Int))) (x_move rfl) ?_)
  refine S_list (T_val (v := (Value.int .i64 ((j1 : Int) - 1))) (x_bin rfl rfl (ib_sub (IntWalk.i64_in _ (by omega)))) ?_)
  refine S_list (T_val (v := (Value.int .i64 (((j1 - 1) / 2 : Nat) : Int))) (x_bin rfl rfl (ib_par (by omega))) ?_)
  refine S_list (T_val (v := (Value.int .i64 (((j1 - 1) / 2 : Nat) : Int))) (x_assign rfl) ?_)
  refine wpList_nil ?_
  refine (X_then (hK4_ _ _ ?_))
  clear hK4_
  refine C_seq (fun K5_ hK5_ => ?_)
  refine C_seq (fun K6_ hK6_ => ?_)
  refine C_reg ?_
  refine S_list (T_val (v := (Value.int .i64 (((j1 - 1) / 2 : Nat) : Int))) (x_move rfl) ?_)
  refine S_list (T_val (v := (Value.int .i64 (j1 : Int))) (x_move rfl) ?_)
  refine S_list (T_val (v := (Value.bool (decide ((((j1 - 1) / 2 : Nat) : Int) = (j1 : Int))))) (x_bin rfl rfl rfl) ?_)
  refine S_list (T_val (v := (Value.bool (decide ((((j1 - 1) / 2 : Nat) : Int) = (j1 : Int))))) (x_move rfl) ?_)
  rcases Bool.eq_false_or_eq_true (decide ((((j1 - 1) / 2 : Nat) : Int) = (j1 : Int))) with c7_t | c7_f
  · have c7_tp : (((j1 - 1) / 2 : Nat) : Int) = (j1 : Int) := of_decide_eq_true c7_t
    refine S_no (j := 3) (dj := 11) (b := true) rfl rfl (congrArg Value.bool c7_t) (by decide) ?_
    refine S_no (j := 3) (dj := 11) (b := true) rfl rfl (congrArg Value.bool c7_t) (by decide) ?_
    refine S_no (j := 3) (dj := 11) (b := true) rfl rfl (congrArg Value.bool c7_t) (by decide) ?_
    refine S_no (j := 3) (dj := 11) (b := true) rfl rfl (congrArg Value.bool c7_t) (by decide) ?_
    refine S_no (j := 3) (dj := 11) (b := true) rfl rfl (congrArg Value.bool c7_t) (by decide) ?_
    refine S_list (T_pickT (v := (Value.bool true)) (congrArg Value.bool c7_t) rfl ?_)
    refine wpList_nil ?_
    refine (X_then (hK6_ _ _ ?_))
    clear hK6_
    refine C_condT rfl ?_
    refine C_exit (X_thenX (X_blkMiss rfl (X_thenX (X_blkHit ?_))))
    refine R_0 rfl ?_
    exact ⟨_, [cl nb 135 [(Value.map (some mb)), v], sl 77 1 v (List.length q1) (ptrs q1), fam 137 (encs q1)], rfl, ⟨q1, rfl, rfl, (hqp), (hup.done (by rw [tm_at hx, tm_at hy]; first | exact .inl (by omega) | exact .inr (by simp_all)))⟩, S3_, H2_⟩
  · have c7_fp : ¬ ((((j1 - 1) / 2 : Nat) : Int) = (j1 : Int)) := of_decide_eq_false c7_f
    refine S_yes (j := 3) (dj := 11) (b := false) rfl rfl (congrArg Value.bool c7_f) (T_val (v := (Value.iface 139 (Value.pointer (some ⟨nb, 1, none⟩)))) (x_move rfl) ?_)
    refine S_yes (j := 3) (dj := 11) (b := false) rfl rfl (congrArg Value.bool c7_f) (T_val (v := (Value.int .i64 (j1 : Int))) (x_move rfl) ?_)
    refine S_yes (j := 3) (dj := 11) (b := false) rfl rfl (congrArg Value.bool c7_f) (T_val (v := (Value.int .i64 (((j1 - 1) / 2 : Nat) : Int))) (x_move rfl) ?_)
    have H9_ : Holds w1_ (ro R :: sl 77 1 v (List.length q1) (ptrs q1) :: fam 137 (encs q1) :: cl nb 135 [(Value.map (some mb)), v] :: F) := (Holds.bring (Holds.bring (Holds.bring H2_ 3 rfl) 3 rfl) 2 rfl)
    refine S_yes (j := 3) (dj := 11) (b := false) rfl rfl (congrArg Value.bool c7_f) (T_invokeP (al := [v, (Value.int .i64 (j1 : Int)), (Value.int .i64 (((j1 - 1) / 2 : Nat) : Int))]) (pre := [sl 77 1 v (List.length q1) (ptrs q1), fam 137 (encs q1)]) (F := cl nb 135 [(Value.map (some mb)), v] :: F) rfl (by kernel_rfl) Try.underlying139 (load_res1 Try.underlying133 rfl (Holds.cl_cell H9_ 3 rfl (k := 1) (v := v) rfl)) rfl cb158 (qLess R v q1 j1 ((j1 - 1) / 2) y x (hy) (hx)) H9_ ?_)
    rintro v8_ p13_ w10_ ⟨rfl, rfl⟩ S12_ H11_
    replace H11_ : Holds w10_ (ro R :: sl 77 1 v (List.length q1) (ptrs q1) :: fam 137 (encs q1) :: cl nb 135 [(Value.map (some mb)), v] :: F) := H11_
    have S14_ := Same.trans S3_ S12_
    refine S_yes (j := 3) (dj := 11) (b := false) rfl rfl (congrArg Value.bool c7_f) (T_val (v := (Value.bool (decide (¬ (y.t < x.t))))) (x_notP rfl) ?_)
    refine S_list (T_pickF (v := (Value.bool (decide (¬ (y.t < x.t))))) (congrArg Value.bool c7_f) rfl ?_)
    refine wpList_nil ?_
    refine (X_then (hK6_ _ _ ?_))
    clear hK6_
    refine C_cond (b := decide (¬ (y.t < x.t))) rfl (fun c15_t => ?_) (fun c15_f => ?_)
    · have c15_tp : ¬ (y.t < x.t) := of_decide_eq_true c15_t
      refine C_exit (X_thenX (X_blkMiss rfl (X_thenX (X_blkHit ?_))))
      refine R_0 rfl ?_
      have H16_ : Holds w10_ (ro R :: cl nb 135 [(Value.map (some mb)), v] :: sl 77 1 v (List.length q1) (ptrs q1) :: fam 137 (encs q1) :: F) := (Holds.bring (Holds.bring (Holds.bring (Holds.bring H11_ 2 rfl) 2 rfl) 3 rfl) 3 rfl)
      exact ⟨_, [cl nb 135 [(Value.map (some mb)), v], sl 77 1 v (List.length q1) (ptrs q1), fam 137 (encs q1)], rfl, ⟨q1, rfl, rfl, (hqp), (hup.done (by rw [tm_at hx, tm_at hy]; first | exact .inl (by omega) | exact .inr (by simp_all)))⟩, S14_, H16_⟩
    · have c15_fp : ¬ (¬ (y.t < x.t)) := of_decide_eq_false c15_f
      refine C_skip (X_then (hK5_ _ _ ?_))
      clear hK5_
      refine C_seq (fun K17_ hK17_ => ?_)
      refine C_reg ?_
      refine S_list (T_val (v := (Value.iface 139 (Value.pointer (some ⟨nb, 1, none⟩)))) (x_move rfl) ?_)
      refine S_list (T_val (v := (Value.int .i64 (((j1 - 1) / 2 : Nat) : Int))) (x_move rfl) ?_)
      refine S_list (T_val (v := (Value.int .i64 (j1 : Int))) (x_move rfl) ?_)
      refine S_list (T_invokeP (al := [v, (Value.int .i64 (((j1 - 1) / 2 : Nat) : Int)), (Value.int .i64 (j1 : Int))]) (pre := [sl 77 1 v (List.length q1) (ptrs q1), fam 137 (encs q1)]) (F := cl nb 135 [(Value.map (some mb)), v] :: F) rfl (by kernel_rfl) Try.underlying139 (load_res1 Try.underlying133 rfl (Holds.cl_cell H11_ 3 rfl (k := 1) (v := v) rfl)) rfl cb159 (qSwap R v q1 ((j1 - 1) / 2) j1 x y (hx) (hy)) H11_ ?_)
      rintro v18_ p22_ w19_ ⟨rfl, rfl⟩ S21_ H20_
      replace H20_ : Holds w19_ (ro R :: sl 77 1 v (List.length (swp q1 ((j1 - 1) / 2) j1 x y)) (ptrs (swp q1 ((j1 - 1) / 2) j1 x y)) :: fam 137 (encs (swp q1 ((j1 - 1) / 2) j1 x y)) :: cl nb 135 [(Value.map (some mb)), v] :: F) := H20_
      have S23_ := Same.trans S14_ S21_
      refine wpList_nil ?_
      refine (X_then (hK17_ _ _ ?_))
      clear hK17_
      refine C_reg ?_
      refine S_list (T_val (v := (Value.int .i64 (((j1 - 1) / 2 : Nat) : Int))) (x_move rfl) ?_)
      refine S_list (T_val (v := (Value.int .i64 (((j1 - 1) / 2 : Nat) : Int))) (x_assign rfl) ?_)
      refine wpList_nil ?_
      refine (X_blkN (X_then ?_))
      have H24_ : Holds w19_ (ro R :: cl nb 135 [(Value.map (some mb)), v] :: sl 77 1 v (List.length (swp q1 ((j1 - 1) / 2) j1 x y)) (ptrs (swp q1 ((j1 - 1) / 2) j1 x y)) :: fam 137 (encs (swp q1 ((j1 - 1) / 2) j1 x y)) :: F) := (Holds.bring (Holds.bring (Holds.bring (Holds.bring H20_ 2 rfl) 2 rfl) 3 rfl) 3 rfl)
      exact ⟨⟨(swp q1 ((j1 - 1) / 2) j1 x y), ((j1 - 1) / 2)⟩, ⟨_, congrArg (fun e => mkA 23 e []) (ch (ch rfl rfl) rfl), H24_, S23_, (hup.step hx hy rfl (by omega) (by simp_all)), ((by rw [swp_len]; omega)), (hqp.trans (QP.swp hx hy))⟩, by first | omega | (dsimp only; omega) | (simp; omega)⟩

set_option maxHeartbeats 400000 in
theorem qDown (R : HP) (nb mb : Nat) (v : Value) (q : List Nd) (i0 n : Nat) (hi0 : i0 < q.length) (hn : n ≤ q.length) (hlen : q.length ≤ 100000) (hd : DI q i0 n) :
    Tri Try.prog 85 #[(Value.iface 139 (Value.pointer (some ⟨nb, 1, none⟩))), (Value.int .i64 (i0 : Int)), (Value.int .i64 (n : Int))] R [cl nb 135 [(Value.map (some mb)), v], sl 77 1 v (List.length q) (ptrs q), fam 137 (encs q)] (fun v__ post__ => ∃ (b : Bool) (q' : List Nd), v__ = (Value.bool b) ∧ post__ = [cl nb 135 [(Value.map (some mb)), v], sl 77 1 v (List.length q') (ptrs q'), fam 137 (encs q')] ∧ (QP q q') ∧ (DEnd q q' i0 n b)) := by
  refine Tri.into (n := 48) (al := [(Value.iface 139 (Value.pointer (some ⟨nb, 1, none⟩))), (Value.int .i64 (i0 : Int)), (Value.int .i64 (n : Int))]) Try.func85 rfl Try.ntmps85 rfl rfl fun w F H => ?_
  replace H : Holds w (ro R :: cl nb 135 [(Value.map (some mb)), v] :: sl 77 1 v (List.length q) (ptrs q) :: fam 137 (encs q) :: F) := H
  refine C_seq (fun K1_ hK1_ => ?_)
  refine C_reg ?_
  refine S_list (T_val (v := (Value.bool false)) (x_assign rfl) ?_)
  refine wpList_nil ?_
  refine (X_then (hK1_ _ _ ?_))
  clear hK1_
  refine C_seq (fun K2_ hK2_ => ?_)
  refine C_reg ?_
  refine S_list (T_val (v := (Value.int .i64 (i0 : Int))) (x_move rfl) ?_)
  refine S_list (T_val (v := (Value.int .i64 (i0 : Int))) (x_assign rfl) ?_)
  refine wpList_nil ?_
  refine (X_then (hK2_ _ _ ?_))
  clear hK2_
  refine C_seq (fun K3_ hK3_ => ?_)
  refine C_block ?_
  refine C_loop (γ := (List Nd) × Nat) (fun x a w1 => match x with | ⟨q1, i⟩ => ∃ h : Env, a = mkA 48 (upd (upd (upd (upd (upd h 0 (Value.iface 139 (Value.pointer (some ⟨nb, 1, none⟩)))) 1 (Value.int .i64 (i0 : Int))) 2 (Value.int .i64 (n : Int))) 6 (Value.bool false)) 7 (Value.int .i64 (i : Int))) [] ∧ Holds w1 (ro R :: cl nb 135 [(Value.map (some mb)), v] :: sl 77 1 v (List.length q1) (ptrs q1) :: fam 137 (encs q1) :: F) ∧ Same w w1 ∧ (DS q q1 i0 i n) ∧ (i0 ≤ i) ∧ (i < q1.length) ∧ (QP q q1)) (fun x => match x with | ⟨q1, i⟩ => n + q1.length - i) (⟨q, i0⟩) ⟨_, congrArg (fun e => mkA 48 e []) (ch (ch (ch (ch (ch rfl rfl) rfl) rfl) rfl) rfl), H, (Same.refl w), (⟨hd, .inl ⟨rfl, rfl⟩, fun _ _ => rfl⟩), (by first | assumption | omega | exact rfl), (by first | assumption | omega | exact rfl), (QP.refl q)⟩ ?_
  rintro ⟨q1, i⟩ _ w4_ ⟨h, rfl, H5_, S6_, hds, hi1, hil, hqp⟩
  obtain ⟨x, hx, -⟩ := elem_at q1 i (by omega)
  have hle := hqp.2.2
  refine C_block ?_
  refine C_seq (fun K7_ hK7_ => ?_)
  refine C_reg ?_
  refine S_list (T_val (v := (Value.int .i64 (i : Int))) (x_move rfl) ?_)
  refine S_list (T_val (v := (Value.int .i64 ((2 * i : Nat) : Int))) (x_bin rfl rfl (ib_mulN (x := 2) (y := i) rfl rfl rfl (by omega))) ?_)
  refine S_list (T_val (v := (Value.int .i64 ((2 * i + 1 : Nat) : Int))) (x_bin rfl rfl (ib_addN (x := 2 * i) (y := 1) rfl rfl (by omega) rfl)) ?_)
  refine S_list (T_val (v := (Value.int .i64 ((2 * i + 1 : Nat) : Int))) (x_assign rfl) ?_)
  refine wpList_nil ?_
  refine (X_then (hK7_ _ _ ?_))
  clear hK7_
  refine C_seq (fun K8_ hK8_ => ?_)
  refine C_seq (fun K9_ hK9_ => ?_)
  refine C_reg ?_
  refine S_list (T_val (v := (Value.int .i64 ((2 * i + 1 : Nat) : Int))) (x_move rfl) ?_)
  refine S_list (T_val (v := (Value.int .i64 (n : Int))) (x_move rfl) ?_)
  refine S_list (T_val (v := (Value.bool (decide ((n : Int) ≤ ((2 * i + 1 : Nat) : Int))))) (x_bin rfl rfl rfl) ?_)
  refine S_list (T_val (v := (Value.bool (decide ((n : Int) ≤ ((2 * i + 1 : Nat) : Int))))) (x_move rfl) ?_)
  rcases Bool.eq_false_or_eq_true (decide ((n : Int) ≤ ((2 * i + 1 : Nat) : Int))) with c10_t | c10_f
  · have c10_tp : (n : Int) ≤ ((2 * i + 1 : Nat) : Int) := of_decide_eq_true c10_t
    refine S_no (j := 3) (dj := 18) (b := true) rfl rfl (congrArg Value.bool c10_t) (by decide) ?_
    refine S_no (j := 3) (dj := 18) (b := true) rfl rfl (congrArg Value.bool c10_t) (by decide) ?_
    refine S_list (T_pickT (v := (Value.bool true)) (congrArg Value.bool c10_t) rfl ?_)
    refine wpList_nil ?_
    refine (X_then (hK9_ _ _ ?_))
    clear hK9_
    refine C_condT rfl ?_
    refine C_exit (X_thenX (X_blkMiss rfl (X_thenX (X_blkHit ?_))))
    refine (X_then (hK3_ _ _ ?_))
    clear hK3_
    refine C_seq (fun K11_ hK11_ => ?_)
    refine C_reg ?_
    refine S_list (T_val (v := (Value.int .i64 (i : Int))) (x_move rfl) ?_)
    refine S_list (T_val (v := (Value.int .i64 (i0 : Int))) (x_move rfl) ?_)
    refine S_list (T_val (v := (Value.bool (decide ((i0 : Int) < (i : Int))))) (x_bin rfl rfl rfl) ?_)
    refine S_list (T_val (v := (Value.bool (decide ((i0 : Int) < (i : Int))))) (x_assign rfl) ?_)
    refine wpList_nil ?_
    refine (X_then (hK11_ _ _ ?_))
    clear hK11_
    refine C_ret ?_
    refine R_any (v := (Value.bool (decide ((i0 : Int) < (i : Int))))) (run_results1 rfl rfl) ?_
    exact ⟨_, [cl nb 135 [(Value.map (some mb)), v], sl 77 1 v (List.length q1) (ptrs q1), fam 137 (encs q1)], rfl, ⟨decide ((i0 : Int) < (i : Int)), q1, rfl, rfl, (hqp), (hds.done (by intro k k0 kn kp; rcases (by omega : k = 2 * i + 1 ∨ k = 2 * i + 2) with e | e <;> subst e <;> (first | omega | (simp only [tm_at hx]; omega) | (simp_all; omega))))⟩, S6_, H5_⟩
  · have c10_fp : ¬ ((n : Int) ≤ ((2 * i + 1 : Nat) : Int)) := of_decide_eq_false c10_f
    refine S_yes (j := 3) (dj := 18) (b := false) rfl rfl (congrArg Value.bool c10_f) (T_val (v := (Value.int .i64 ((2 * i + 1 : Nat) : Int))) (x_move rfl) ?_)
    refine S_yes (j := 3) (dj := 18) (b := false) rfl rfl (congrArg Value.bool c10_f) (T_val (v := (Value.bool (decide (((2 * i + 1 : Nat) : Int) < 0)))) (x_bin rfl rfl rfl) ?_)
    refine S_list (T_pickF (v := (Value.bool (decide (((2 * i + 1 : Nat) : Int) < 0)))) (congrArg Value.bool c10_f) rfl ?_)
    refine wpList_nil ?_
    refine (X_then (hK9_ _ _ ?_))
    clear hK9_
    refine C_cond (b := decide (((2 * i + 1 : Nat) : Int) < 0)) rfl (fun c12_t => ?_) (fun c12_f => ?_)
    · have c12_tp : ((2 * i + 1 : Nat) : Int) < 0 := of_decide_eq_true c12_t
      omega
    · have c12_fp : ¬ (((2 * i + 1 : Nat) : Int) < 0) := of_decide_eq_false c12_f
      refine C_skip (X_then (hK8_ _ _ ?_))
      clear hK8_
      refine C_seq (fun K13_ hK13_ => ?_)
      refine C_reg ?_
      refine S_list (T_val (v := (Value.int .i64 ((2 * i + 1 : Nat) : Int))) (x_move rfl) ?_)
      refine S_list (T_val (v := (Value.int .i64 ((2 * i + 1 : Nat) : Int))) (x_assign rfl) ?_)
      refine wpList_nil ?_
      refine (X_then (hK13_ _ _ ?_))
      clear hK13_
      refine C_seq (fun K14_ hK14_ => ?_)
      refine C_seq (fun K15_ hK15_ => ?_)
      refine C_reg ?_
      refine S_list (T_val (v := (Value.int .i64 ((2 * i + 1 : Nat) : Int))) (x_move rfl) ?_)
      refine S_list (T_val (v := (Value.int .i64 ((2 * i + 2 : Nat) : Int))) (x_bin rfl rfl (ib_addN (x := 2 * i + 1) (y := 1) rfl rfl (by omega) rfl)) ?_)
      refine S_list (T_val (v := (Value.int .i64 ((2 * i + 2 : Nat) : Int))) (x_assign rfl) ?_)
      refine wpList_nil ?_
      refine (X_then (hK15_ _ _ ?_))
      clear hK15_
      refine C_seq (fun K16_ hK16_ => ?_)
      refine C_reg ?_
      refine S_list (T_val (v := (Value.int .i64 ((2 * i + 2 : Nat) : Int))) (x_move rfl) ?_)
      refine S_list (T_val (v := (Value.int .i64 (n : Int))) (x_move rfl) ?_)
      refine S_list (T_val (v := (Value.bool (decide (((2 * i + 2 : Nat) : Int) < (n : Int))))) (x_bin rfl rfl rfl) ?_)
      refine S_list (T_val (v := (Value.bool (decide (((2 * i + 2 : Nat) : Int) < (n : Int))))) (x_move rfl) ?_)
      rcases Bool.eq_false_or_eq_true (decide (((2 * i + 2 : Nat) : Int) < (n : Int))) with c17_t | c17_f
      · have c17_tp : ((2 * i + 2 : Nat) : Int) < (n : Int) := of_decide_eq_true c17_t
        refine S_yes (j := 3) (dj := 28) (b := true) rfl rfl (congrArg Value.bool c17_t) (T_val (v := (Value.iface 139 (Value.pointer (some ⟨nb, 1, none⟩)))) (x_move rfl) ?_)
        refine S_yes (j := 3) (dj := 28) (b := true) rfl rfl (congrArg Value.bool c17_t) (T_val (v := (Value.int .i64 ((2 * i + 2 : Nat) : Int))) (x_move rfl) ?_)
        refine S_yes (j := 3) (dj := 28) (b := true) rfl rfl (congrArg Value.bool c17_t) (T_val (v := (Value.int .i64 ((2 * i + 1 : Nat) : Int))) (x_move rfl) ?_)
        obtain ⟨x18_, hx19_, -⟩ := elem_at q1 (2 * i + 2) (by omega)
        obtain ⟨x20_, hx21_, -⟩ := elem_at q1 (2 * i + 1) (by omega)
        have H23_ : Holds w4_ (ro R :: sl 77 1 v (List.length q1) (ptrs q1) :: fam 137 (encs q1) :: cl nb 135 [(Value.map (some mb)), v] :: F) := (Holds.bring (Holds.bring (Holds.bring H5_ 3 rfl) 3 rfl) 2 rfl)
        refine S_yes (j := 3) (dj := 28) (b := true) rfl rfl (congrArg Value.bool c17_t) (T_invokeP (al := [v, (Value.int .i64 ((2 * i + 2 : Nat) : Int)), (Value.int .i64 ((2 * i + 1 : Nat) : Int))]) (pre := [sl 77 1 v (List.length q1) (ptrs q1), fam 137 (encs q1)]) (F := cl nb 135 [(Value.map (some mb)), v] :: F) rfl (by kernel_rfl) Try.underlying139 (load_res1 Try.underlying133 rfl (Holds.cl_cell H23_ 3 rfl (k := 1) (v := v) rfl)) rfl cb158 (qLess R v q1 (2 * i + 2) (2 * i + 1) x18_ x20_ (hx19_) (hx21_)) H23_ ?_)
        rintro v22_ p27_ w24_ ⟨rfl, rfl⟩ S26_ H25_
        replace H25_ : Holds w24_ (ro R :: sl 77 1 v (List.length q1) (ptrs q1) :: fam 137 (encs q1) :: cl nb 135 [(Value.map (some mb)), v] :: F) := H25_
        have S28_ := Same.trans S6_ S26_
        refine S_list (T_pickT (v := (Value.bool (decide (x18_.t < x20_.t)))) (congrArg Value.bool c17_t) rfl ?_)
        refine wpList_nil ?_
        refine (X_then (hK16_ _ _ ?_))
        clear hK16_
        refine C_cond (b := decide (x18_.t < x20_.t)) rfl (fun c29_t => ?_) (fun c29_f => ?_)
        · have c29_tp : x18_.t < x20_.t := of_decide_eq_true c29_t
          refine C_reg ?_
          refine S_list (T_val (v := (Value.int .i64 ((2 * i + 2 : Nat) : Int))) (x_move rfl) ?_)
          refine S_list (T_val (v := (Value.int .i64 ((2 * i + 2 : Nat) : Int))) (x_assign rfl) ?_)
          refine wpList_nil ?_
          refine (X_then (hK14_ _ _ ?_))
          clear hK14_
          refine C_seq (fun K30_ hK30_ => ?_)
          refine C_seq (fun K31_ hK31_ => ?_)
          refine C_reg ?_
          refine S_list (T_val (v := (Value.iface 139 (Value.pointer (some ⟨nb, 1, none⟩)))) (x_move rfl) ?_)
          refine S_list (T_val (v := (Value.int .i64 ((2 * i + 2 : Nat) : Int))) (x_move rfl) ?_)
          refine S_list (T_val (v := (Value.int .i64 (i : Int))) (x_move rfl) ?_)
          refine S_list (T_invokeP (al := [v, (Value.int .i64 ((2 * i + 2 : Nat) : Int)), (Value.int .i64 (i : Int))]) (pre := [sl 77 1 v (List.length q1) (ptrs q1), fam 137 (encs q1)]) (F := cl nb 135 [(Value.map (some mb)), v] :: F) rfl (by kernel_rfl) Try.underlying139 (load_res1 Try.underlying133 rfl (Holds.cl_cell H25_ 3 rfl (k := 1) (v := v) rfl)) rfl cb158 (qLess R v q1 (2 * i + 2) i x18_ x (hx19_) (hx)) H25_ ?_)
          rintro v32_ p36_ w33_ ⟨rfl, rfl⟩ S35_ H34_
          replace H34_ : Holds w33_ (ro R :: sl 77 1 v (List.length q1) (ptrs q1) :: fam 137 (encs q1) :: cl nb 135 [(Value.map (some mb)), v] :: F) := H34_
          have S37_ := Same.trans S28_ S35_
          refine S_list (T_val (v := (Value.bool (decide (¬ (x18_.t < x.t))))) (x_notP rfl) ?_)
          refine wpList_nil ?_
          refine (X_then (hK31_ _ _ ?_))
          clear hK31_
          refine C_cond (b := decide (¬ (x18_.t < x.t))) rfl (fun c38_t => ?_) (fun c38_f => ?_)
          · have c38_tp : ¬ (x18_.t < x.t) := of_decide_eq_true c38_t
            refine C_exit (X_thenX (X_blkMiss rfl (X_thenX (X_blkHit ?_))))
            refine (X_then (hK3_ _ _ ?_))
            clear hK3_
            refine C_seq (fun K39_ hK39_ => ?_)
            refine C_reg ?_
            refine S_list (T_val (v := (Value.int .i64 (i : Int))) (x_move rfl) ?_)
            refine S_list (T_val (v := (Value.int .i64 (i0 : Int))) (x_move rfl) ?_)
            refine S_list (T_val (v := (Value.bool (decide ((i0 : Int) < (i : Int))))) (x_bin rfl rfl rfl) ?_)
            refine S_list (T_val (v := (Value.bool (decide ((i0 : Int) < (i : Int))))) (x_assign rfl) ?_)
            refine wpList_nil ?_
            refine (X_then (hK39_ _ _ ?_))
            clear hK39_
            refine C_ret ?_
            refine R_any (v := (Value.bool (decide ((i0 : Int) < (i : Int))))) (run_results1 rfl rfl) ?_
            have H40_ : Holds w33_ (ro R :: cl nb 135 [(Value.map (some mb)), v] :: sl 77 1 v (List.length q1) (ptrs q1) :: fam 137 (encs q1) :: F) := (Holds.bring (Holds.bring (Holds.bring (Holds.bring H34_ 2 rfl) 2 rfl) 3 rfl) 3 rfl)
            exact ⟨_, [cl nb 135 [(Value.map (some mb)), v], sl 77 1 v (List.length q1) (ptrs q1), fam 137 (encs q1)], rfl, ⟨decide ((i0 : Int) < (i : Int)), q1, rfl, rfl, (hqp), (hds.done (by intro k k0 kn kp; rcases (by omega : k = 2 * i + 1 ∨ k = 2 * i + 2) with e | e <;> subst e <;> (first | omega | (simp only [tm_at hx, tm_at hx19_, tm_at hx21_]; omega) | (simp_all; omega))))⟩, S37_, H40_⟩
          · have c38_fp : ¬ (¬ (x18_.t < x.t)) := of_decide_eq_false c38_f
            refine C_skip (X_then (hK30_ _ _ ?_))
            clear hK30_
            refine C_seq (fun K41_ hK41_ => ?_)
            refine C_reg ?_
            refine S_list (T_val (v := (Value.iface 139 (Value.pointer (some ⟨nb, 1, none⟩)))) (x_move rfl) ?_)
            refine S_list (T_val (v := (Value.int .i64 (i : Int))) (x_move rfl) ?_)
            refine S_list (T_val (v := (Value.int .i64 ((2 * i + 2 : Nat) : Int))) (x_move rfl) ?_)
            refine S_list (T_invokeP (al := [v, (Value.int .i64 (i : Int)), (Value.int .i64 ((2 * i + 2 : Nat) : Int))]) (pre := [sl 77 1 v (List.length q1) (ptrs q1), fam 137 (encs q1)]) (F := cl nb 135 [(Value.map (some mb)), v] :: F) rfl (by kernel_rfl) Try.underlying139 (load_res1 Try.underlying133 rfl (Holds.cl_cell H34_ 3 rfl (k := 1) (v := v) rfl)) rfl cb159 (qSwap R v q1 i (2 * i + 2) x x18_ (hx) (hx19_)) H34_ ?_)
            rintro v42_ p46_ w43_ ⟨rfl, rfl⟩ S45_ H44_
            replace H44_ : Holds w43_ (ro R :: sl 77 1 v (List.length (swp q1 i (2 * i + 2) x x18_)) (ptrs (swp q1 i (2 * i + 2) x x18_)) :: fam 137 (encs (swp q1 i (2 * i + 2) x x18_)) :: cl nb 135 [(Value.map (some mb)), v] :: F) := H44_
            have S47_ := Same.trans S37_ S45_
            refine wpList_nil ?_
            refine (X_then (hK41_ _ _ ?_))
            clear hK41_
            refine C_reg ?_
            refine S_list (T_val (v := (Value.int .i64 ((2 * i + 2 : Nat) : Int))) (x_move rfl) ?_)
            refine S_list (T_val (v := (Value.int .i64 ((2 * i + 2 : Nat) : Int))) (x_assign rfl) ?_)
            refine wpList_nil ?_
            refine (X_blkN (X_then ?_))
            have H48_ : Holds w43_ (ro R :: cl nb 135 [(Value.map (some mb)), v] :: sl 77 1 v (List.length (swp q1 i (2 * i + 2) x x18_)) (ptrs (swp q1 i (2 * i + 2) x x18_)) :: fam 137 (encs (swp q1 i (2 * i + 2) x x18_)) :: F) := (Holds.bring (Holds.bring (Holds.bring (Holds.bring H44_ 2 rfl) 2 rfl) 3 rfl) 3 rfl)
            exact ⟨⟨(swp q1 i (2 * i + 2) x x18_), (2 * i + 2)⟩, ⟨_, congrArg (fun e => mkA 48 e []) (ch (ch (ch (ch (ch rfl rfl) rfl) rfl) rfl) rfl), H48_, S47_, (hds.step hx hx19_ hi1 (by omega) (by omega) (by omega) (by simp_all) (by intro k k0 kn kp; rcases (by omega : k = 2 * i + 1 ∨ k = 2 * i + 2) with e | e <;> subst e <;> (first | omega | (simp only [tm_at hx, tm_at hx19_, tm_at hx21_]; omega) | (simp_all; omega)))), (by first | assumption | omega | exact rfl), ((by rw [swp_len]; omega)), (hqp.trans (QP.swp hx hx19_))⟩, (by dsimp only; rw [swp_len]; omega)⟩
        · have c29_fp : ¬ (x18_.t < x20_.t) := of_decide_eq_false c29_f
          refine C_skip (X_then (hK14_ _ _ ?_))
          clear hK14_
          refine C_seq (fun K49_ hK49_ => ?_)
          refine C_seq (fun K50_ hK50_ => ?_)
          refine C_reg ?_
          refine S_list (T_val (v := (Value.iface 139 (Value.pointer (some ⟨nb, 1, none⟩)))) (x_move rfl) ?_)
          refine S_list (T_val (v := (Value.int .i64 ((2 * i + 1 : Nat) : Int))) (x_move rfl) ?_)
          refine S_list (T_val (v := (Value.int .i64 (i : Int))) (x_move rfl) ?_)
          refine S_list (T_invokeP (al := [v, (Value.int .i64 ((2 * i + 1 : Nat) : Int)), (Value.int .i64 (i : Int))]) (pre := [sl 77 1 v (List.length q1) (ptrs q1), fam 137 (encs q1)]) (F := cl nb 135 [(Value.map (some mb)), v] :: F) rfl (by kernel_rfl) Try.underlying139 (load_res1 Try.underlying133 rfl (Holds.cl_cell H25_ 3 rfl (k := 1) (v := v) rfl)) rfl cb158 (qLess R v q1 (2 * i + 1) i x20_ x (hx21_) (hx)) H25_ ?_)
          rintro v51_ p55_ w52_ ⟨rfl, rfl⟩ S54_ H53_
          replace H53_ : Holds w52_ (ro R :: sl 77 1 v (List.length q1) (ptrs q1) :: fam 137 (encs q1) :: cl nb 135 [(Value.map (some mb)), v] :: F) := H53_
          have S56_ := Same.trans S28_ S54_
          refine S_list (T_val (v := (Value.bool (decide (¬ (x20_.t < x.t))))) (x_notP rfl) ?_)
          refine wpList_nil ?_
          refine (X_then (hK50_ _ _ ?_))
          clear hK50_
          refine C_cond (b := decide (¬ (x20_.t < x.t))) rfl (fun c57_t => ?_) (fun c57_f => ?_)
          · have c57_tp : ¬ (x20_.t < x.t) := of_decide_eq_true c57_t
            refine C_exit (X_thenX (X_blkMiss rfl (X_thenX (X_blkHit ?_))))
            refine (X_then (hK3_ _ _ ?_))
            clear hK3_
            refine C_seq (fun K58_ hK58_ => ?_)
            refine C_reg ?_
            refine S_list (T_val (v := (Value.int .i64 (i : Int))) (x_move rfl) ?_)
            refine S_list (T_val (v := (Value.int .i64 (i0 : Int))) (x_move rfl) ?_)
            refine S_list (T_val (v := (Value.bool (decide ((i0 : Int) < (i : Int))))) (x_bin rfl rfl rfl) ?_)
            refine S_list (T_val (v := (Value.bool (decide ((i0 : Int) < (i : Int))))) (x_assign rfl) ?_)
            refine wpList_nil ?_
            refine (X_then (hK58_ _ _ ?_))
            clear hK58_
            refine C_ret ?_
            refine R_any (v := (Value.bool (decide ((i0 : Int) < (i : Int))))) (run_results1 rfl rfl) ?_
            have H59_ : Holds w52_ (ro R :: cl nb 135 [(Value.map (some mb)), v] :: sl 77 1 v (List.length q1) (ptrs q1) :: fam 137 (encs q1) :: F) := (Holds.bring (Holds.bring (Holds.bring (Holds.bring H53_ 2 rfl) 2 rfl) 3 rfl) 3 rfl)
            exact ⟨_, [cl nb 135 [(Value.map (some mb)), v], sl 77 1 v (List.length q1) (ptrs q1), fam 137 (encs q1)], rfl, ⟨decide ((i0 : Int) < (i : Int)), q1, rfl, rfl, (hqp), (hds.done (by intro k k0 kn kp; rcases (by omega : k = 2 * i + 1 ∨ k = 2 * i + 2) with e | e <;> subst e <;> (first | omega | (simp only [tm_at hx, tm_at hx19_, tm_at hx21_]; omega) | (simp_all; omega))))⟩, S56_, H59_⟩
          · have c57_fp : ¬ (¬ (x20_.t < x.t)) := of_decide_eq_false c57_f
            refine C_skip (X_then (hK49_ _ _ ?_))
            clear hK49_
            refine C_seq (fun K60_ hK60_ => ?_)
            refine C_reg ?_
            refine S_list (T_val (v := (Value.iface 139 (Value.pointer (some ⟨nb, 1, none⟩)))) (x_move rfl) ?_)
            refine S_list (T_val (v := (Value.int .i64 (i : Int))) (x_move rfl) ?_)
            refine S_list (T_val (v := (Value.int .i64 ((2 * i + 1 : Nat) : Int))) (x_move rfl) ?_)
            refine S_list (T_invokeP (al := [v, (Value.int .i64 (i : Int)), (Value.int .i64 ((2 * i + 1 : Nat) : Int))]) (pre := [sl 77 1 v (List.length q1) (ptrs q1), fam 137 (encs q1)]) (F := cl nb 135 [(Value.map (some mb)), v] :: F) rfl (by kernel_rfl) Try.underlying139 (load_res1 Try.underlying133 rfl (Holds.cl_cell H53_ 3 rfl (k := 1) (v := v) rfl)) rfl cb159 (qSwap R v q1 i (2 * i + 1) x x20_ (hx) (hx21_)) H53_ ?_)
            rintro v61_ p65_ w62_ ⟨rfl, rfl⟩ S64_ H63_
            replace H63_ : Holds w62_ (ro R :: sl 77 1 v (List.length (swp q1 i (2 * i + 1) x x20_)) (ptrs (swp q1 i (2 * i + 1) x x20_)) :: fam 137 (encs (swp q1 i (2 * i + 1) x x20_)) :: cl nb 135 [(Value.map (some mb)), v] :: F) := H63_
            have S66_ := Same.trans S56_ S64_
            refine wpList_nil ?_
            refine (X_then (hK60_ _ _ ?_))
            clear hK60_
            refine C_reg ?_
            refine S_list (T_val (v := (Value.int .i64 ((2 * i + 1 : Nat) : Int))) (x_move rfl) ?_)
            refine S_list (T_val (v := (Value.int .i64 ((2 * i + 1 : Nat) : Int))) (x_assign rfl) ?_)
            refine wpList_nil ?_
            refine (X_blkN (X_then ?_))
            have H67_ : Holds w62_ (ro R :: cl nb 135 [(Value.map (some mb)), v] :: sl 77 1 v (List.length (swp q1 i (2 * i + 1) x x20_)) (ptrs (swp q1 i (2 * i + 1) x x20_)) :: fam 137 (encs (swp q1 i (2 * i + 1) x x20_)) :: F) := (Holds.bring (Holds.bring (Holds.bring (Holds.bring H63_ 2 rfl) 2 rfl) 3 rfl) 3 rfl)
            exact ⟨⟨(swp q1 i (2 * i + 1) x x20_), (2 * i + 1)⟩, ⟨_, congrArg (fun e => mkA 48 e []) (ch (ch (ch (ch (ch rfl rfl) rfl) rfl) rfl) rfl), H67_, S66_, (hds.step hx hx21_ hi1 (by omega) (by omega) (by omega) (by simp_all) (by intro k k0 kn kp; rcases (by omega : k = 2 * i + 1 ∨ k = 2 * i + 2) with e | e <;> subst e <;> (first | omega | (simp only [tm_at hx, tm_at hx19_, tm_at hx21_]; omega) | (simp_all; omega)))), (by first | assumption | omega | exact rfl), ((by rw [swp_len]; omega)), (hqp.trans (QP.swp hx hx21_))⟩, (by dsimp only; rw [swp_len]; omega)⟩
      · have c17_fp : ¬ (((2 * i + 2 : Nat) : Int) < (n : Int)) := of_decide_eq_false c17_f
        refine S_no (j := 3) (dj := 28) (b := false) rfl rfl (congrArg Value.bool c17_f) (by decide) ?_
        refine S_no (j := 3) (dj := 28) (b := false) rfl rfl (congrArg Value.bool c17_f) (by decide) ?_
        refine S_no (j := 3) (dj := 28) (b := false) rfl rfl (congrArg Value.bool c17_f) (by decide) ?_
        refine S_no (j := 3) (dj := 28) (b := false) rfl rfl (congrArg Value.bool c17_f) (by decide) ?_
        refine S_list (T_pickF (v := (Value.bool false)) (congrArg Value.bool c17_f) rfl ?_)
        refine wpList_nil ?_
        refine (X_then (hK16_ _ _ ?_))
        clear hK16_
        refine C_condF rfl ?_
        refine C_skip (X_then (hK14_ _ _ ?_))
        clear hK14_
        refine C_seq (fun K68_ hK68_ => ?_)
        refine C_seq (fun K69_ hK69_ => ?_)
        refine C_reg ?_
        refine S_list (T_val (v := (Value.iface 139 (Value.pointer (some ⟨nb, 1, none⟩)))) (x_move rfl) ?_)
        refine S_list (T_val (v := (Value.int .i64 ((2 * i + 1 : Nat) : Int))) (x_move rfl) ?_)
        refine S_list (T_val (v := (Value.int .i64 (i : Int))) (x_move rfl) ?_)
        obtain ⟨x70_, hx71_, -⟩ := elem_at q1 (2 * i + 1) (by omega)
        have H73_ : Holds w4_ (ro R :: sl 77 1 v (List.length q1) (ptrs q1) :: fam 137 (encs q1) :: cl nb 135 [(Value.map (some mb)), v] :: F) := (Holds.bring (Holds.bring (Holds.bring H5_ 3 rfl) 3 rfl) 2 rfl)
        refine S_list (T_invokeP (al := [v, (Value.int .i64 ((2 * i + 1 : Nat) : Int)), (Value.int .i64 (i : Int))]) (pre := [sl 77 1 v (List.length q1) (ptrs q1), fam 137 (encs q1)]) (F := cl nb 135 [(Value.map (some mb)), v] :: F) rfl (by kernel_rfl) Try.underlying139 (load_res1 Try.underlying133 rfl (Holds.cl_cell H73_ 3 rfl (k := 1) (v := v) rfl)) rfl cb158 (qLess R v q1 (2 * i + 1) i x70_ x (hx71_) (hx)) H73_ ?_)
        rintro v72_ p77_ w74_ ⟨rfl, rfl⟩ S76_ H75_
        replace H75_ : Holds w74_ (ro R :: sl 77 1 v (List.length q1) (ptrs q1) :: fam 137 (encs q1) :: cl nb 135 [(Value.map (some mb)), v] :: F) := H75_
        have S78_ := Same.trans S6_ S76_
        refine S_list (T_val (v := (Value.bool (decide (¬ (x70_.t < x.t))))) (x_notP rfl) ?_)
        refine wpList_nil ?_
        refine (X_then (hK69_ _ _ ?_))
        clear hK69_
        refine C_cond (b := decide (¬ (x70_.t < x.t))) rfl (fun c79_t => ?_) (fun c79_f => ?_)
        · have c79_tp : ¬ (x70_.t < x.t) := of_decide_eq_true c79_t
          refine C_exit (X_thenX (X_blkMiss rfl (X_thenX (X_blkHit ?_))))
          refine (X_then (hK3_ _ _ ?_))
          clear hK3_
          refine C_seq (fun K80_ hK80_ => ?_)
          refine C_reg ?_
          refine S_list (T_val (v := (Value.int .i64 (i : Int))) (x_move rfl) ?_)
          refine S_list (T_val (v := (Value.int .i64 (i0 : Int))) (x_move rfl) ?_)
          refine S_list (T_val (v := (Value.bool (decide ((i0 : Int) < (i : Int))))) (x_bin rfl rfl rfl) ?_)
          refine S_list (T_val (v := (Value.bool (decide ((i0 : Int) < (i : Int))))) (x_assign rfl) ?_)
          refine wpList_nil ?_
          refine (X_then (hK80_ _ _ ?_))
          clear hK80_
          refine C_ret ?_
          refine R_any (v := (Value.bool (decide ((i0 : Int) < (i : Int))))) (run_results1 rfl rfl) ?_
          have H81_ : Holds w74_ (ro R :: cl nb 135 [(Value.map (some mb)), v] :: sl 77 1 v (List.length q1) (ptrs q1) :: fam 137 (encs q1) :: F) := (Holds.bring (Holds.bring (Holds.bring (Holds.bring H75_ 2 rfl) 2 rfl) 3 rfl) 3 rfl)
          exact ⟨_, [cl nb 135 [(Value.map (some mb)), v], sl 77 1 v (List.length q1) (ptrs q1), fam 137 (encs q1)], rfl, ⟨decide ((i0 : Int) < (i : Int)), q1, rfl, rfl, (hqp), (hds.done (by intro k k0 kn kp; rcases (by omega : k = 2 * i + 1 ∨ k = 2 * i + 2) with e | e <;> subst e <;> (first | omega | (simp only [tm_at hx, tm_at hx71_]; omega) | (simp_all; omega))))⟩, S78_, H81_⟩
        · have c79_fp : ¬ (¬ (x70_.t < x.t)) := of_decide_eq_false c79_f
          refine C_skip (X_then (hK68_ _ _ ?_))
          clear hK68_
          refine C_seq (fun K82_ hK82_ => ?_)
          refine C_reg ?_
          refine S_list (T_val (v := (Value.iface 139 (Value.pointer (some ⟨nb, 1, none⟩)))) (x_move rfl) ?_)
          refine S_list (T_val (v := (Value.int .i64 (i : Int))) (x_move rfl) ?_)
          refine S_list (T_val (v := (Value.int .i64 ((2 * i + 1 : Nat) : Int))) (x_move rfl) ?_)
          refine S_list (T_invokeP (al := [v, (Value.int .i64 (i : Int)), (Value.int .i64 ((2 * i + 1 : Nat) : Int))]) (pre := [sl 77 1 v (List.length q1) (ptrs q1), fam 137 (encs q1)]) (F := cl nb 135 [(Value.map (some mb)), v] :: F) rfl (by kernel_rfl) Try.underlying139 (load_res1 Try.underlying133 rfl (Holds.cl_cell H75_ 3 rfl (k := 1) (v := v) rfl)) rfl cb159 (qSwap R v q1 i (2 * i + 1) x x70_ (hx) (hx71_)) H75_ ?_)
          rintro v83_ p87_ w84_ ⟨rfl, rfl⟩ S86_ H85_
          replace H85_ : Holds w84_ (ro R :: sl 77 1 v (List.length (swp q1 i (2 * i + 1) x x70_)) (ptrs (swp q1 i (2 * i + 1) x x70_)) :: fam 137 (encs (swp q1 i (2 * i + 1) x x70_)) :: cl nb 135 [(Value.map (some mb)), v] :: F) := H85_
          have S88_ := Same.trans S78_ S86_
          refine wpList_nil ?_
          refine (X_then (hK82_ _ _ ?_))
          clear hK82_
          refine C_reg ?_
          refine S_list (T_val (v := (Value.int .i64 ((2 * i + 1 : Nat) : Int))) (x_move rfl) ?_)
          refine S_list (T_val (v := (Value.int .i64 ((2 * i + 1 : Nat) : Int))) (x_assign rfl) ?_)
          refine wpList_nil ?_
          refine (X_blkN (X_then ?_))
          have H89_ : Holds w84_ (ro R :: cl nb 135 [(Value.map (some mb)), v] :: sl 77 1 v (List.length (swp q1 i (2 * i + 1) x x70_)) (ptrs (swp q1 i (2 * i + 1) x x70_)) :: fam 137 (encs (swp q1 i (2 * i + 1) x x70_)) :: F) := (Holds.bring (Holds.bring (Holds.bring (Holds.bring H85_ 2 rfl) 2 rfl) 3 rfl) 3 rfl)
          exact ⟨⟨(swp q1 i (2 * i + 1) x x70_), (2 * i + 1)⟩, ⟨_, congrArg (fun e => mkA 48 e []) (ch (ch (ch (ch (ch rfl rfl) rfl) rfl) rfl) rfl), H89_, S88_, (hds.step hx hx71_ hi1 (by omega) (by omega) (by omega) (by simp_all) (by intro k k0 kn kp; rcases (by omega : k = 2 * i + 1 ∨ k = 2 * i + 2) with e | e <;> subst e <;> (first | omega | (simp only [tm_at hx, tm_at hx71_]; omega) | (simp_all; omega)))), (by first | assumption | omega | exact rfl), ((by rw [swp_len]; omega)), (hqp.trans (QP.swp hx hx71_))⟩, (by dsimp only; rw [swp_len]; omega)⟩
end Go.Proofs.Ytgeggiebefonhaa
