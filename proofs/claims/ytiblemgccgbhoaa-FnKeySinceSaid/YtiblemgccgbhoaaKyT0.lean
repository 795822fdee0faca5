/- The last revision at or below a number. -/
import Derived.Test.YtiblemgccgbhoaaKyS0
set_option linter.unusedVariables false
set_option linter.unusedSimpArgs false
namespace Go.Proofs.Ytiblemgccgbhoaa
open Go Go.RowKit Gw

def rLastN (K : List RV) (at_ : Int) : Nat → Nat
  | 0 => 0
  | n + 1 => match K[n]? with
    | some v => if v.main ≤ at_ then n + 1 else rLastN K at_ n
    | none => rLastN K at_ n
theorem rLastN_le (K : List RV) (at_ : Int) (n : Nat) : rLastN K at_ n ≤ n := by
  induction n with
  | zero => exact Nat.le_refl 0
  | succ n ih =>
    unfold rLastN
    split
    · split <;> omega
    · omega
theorem rLastN_yes {K : List RV} {at_ : Int} {i : Nat} {y : RV} (h : K[((K.length : Int) - (i : Int) - 1).toNat]? = some y) (hi : i < K.length) (hy : y.main ≤ at_) : rLastN K at_ (K.length - i) = K.length - i := by
  rw [show ((K.length : Int) - (i : Int) - 1).toNat = K.length - i - 1 by omega] at h
  obtain ⟨m, hm⟩ : ∃ m, K.length - i = m + 1 := ⟨K.length - i - 1, by omega⟩
  rw [hm, Nat.add_sub_cancel] at h
  rw [hm, rLastN, h]
  simp only [if_pos hy]
theorem rLastN_no {K : List RV} {at_ : Int} {i : Nat} {y : RV} (h : K[((K.length : Int) - (i : Int) - 1).toNat]? = some y) (hi : i < K.length) (hy : ¬ y.main ≤ at_) : rLastN K at_ (K.length - i) = rLastN K at_ (K.length - (i + 1)) := by
  rw [show ((K.length : Int) - (i : Int) - 1).toNat = K.length - i - 1 by omega] at h
  obtain ⟨m, hm⟩ : ∃ m, K.length - i = m + 1 := ⟨K.length - i - 1, by omega⟩
  rw [hm, Nat.add_sub_cancel] at h
  rw [hm, rLastN, h]
  simp only [if_neg hy]
  rw [show K.length - (i + 1) = m by omega]
/-- The change that holds at a number: its revision, where its life began, and which it is. -/
def iGet (G : List GM) (at_ : Int) : Option (Int × Int × Int × Int × Int) :=
  match iFind G at_ with
  | none => none
  | some j => match G[j]? with
    | none => none
    | some g => if g.l.length = 0 then none else if rLastN g.l at_ g.l.length = 0 then none else match g.l[rLastN g.l at_ g.l.length - 1]? with
      | none => none
      | some r => some (r.main, r.sub, g.cm, g.cs, g.ver - ((g.l.length : Int) - rLastN g.l at_ g.l.length))
section
variable {N : List GN} {at_ : Int} {j : Nat} {x : GN} {y : RV}
theorem iGet_none (h : iFind (N.map GN.m) at_ = none) : iGet (N.map GN.m) at_ = none := by
  unfold iGet
  rw [h]
theorem iGet_j (h : iFind (N.map GN.m) at_ = some j) (hx : N[j]? = some x) : iGet (N.map GN.m) at_ = if x.l.length = 0 then none else if rLastN x.l at_ x.l.length = 0 then none else match x.l[rLastN x.l at_ x.l.length - 1]? with
      | none => none
      | some r => some (r.main, r.sub, x.created_Main, x.created_Sub, x.ver - ((x.l.length : Int) - rLastN x.l at_ x.l.length)) := by
  unfold iGet
  rw [h]
  simp only [List.getElem?_map, hx, Option.map_some]
  rfl
theorem iGet_emp (h : iFind (N.map GN.m) at_ = some j) (hx : N[j]? = some x) (h0 : (x.l.length : Int) = 0) : iGet (N.map GN.m) at_ = none := by
  rw [iGet_j h hx, if_pos (by omega)]
theorem iGet_no (h : iFind (N.map GN.m) at_ = some j) (hx : N[j]? = some x) (h0 : ¬ (x.l.length : Int) = 0) (h1 : ¬ (rLastN x.l at_ x.l.length : Int) - 1 ≠ -1) : iGet (N.map GN.m) at_ = none := by
  rw [iGet_j h hx, if_neg (by omega), if_pos (by omega)]
theorem iGet_yes (h : iFind (N.map GN.m) at_ = some j) (hx : N[j]? = some x) (h0 : ¬ (x.l.length : Int) = 0) (h1 : (rLastN x.l at_ x.l.length : Int) - 1 ≠ -1) (hy : x.l[((rLastN x.l at_ x.l.length : Int) - 1).toNat]? = some y) :
    iGet (N.map GN.m) at_ = some (y.main, y.sub, x.created_Main, x.created_Sub, x.ver - ((x.l.length : Int) - ((rLastN x.l at_ x.l.length : Int) - 1) - 1)) := by
  rw [iGet_j h hx, if_neg (by omega), if_neg (by omega), show rLastN x.l at_ x.l.length - 1 = ((rLastN x.l at_ x.l.length : Int) - 1).toNat by omega, hy]
  simp only [Option.some.injEq, Prod.mk.injEq, true_and]
  omega
theorem one_of (h : (N.length : Int) = 1) (hx : N[0]? = some x) : N = [x] := by
  match N, h, hx with
  | [y], _, hx => simp at hx; rw [hx]
end


set_option maxHeartbeats 400000 in
theorem kWalk (R : HP) (gv : Value) (N : List GN) (j : Nat) (x : GN) (ab : Nat) (at_ : Int) (h1 : RS R 4 gv (List.length N) (N.flatMap GN.cells)) (hx : N[j]? = some x) (hgx : RS R 2 x.revs (List.length x.l) (x.l.flatMap RV.cells)) (hlx : x.l.length ≤ 100000) :
    Tri Try.prog 71 #[(Value.pointer (some ⟨(sb gv), so gv + (j * 4 + 0), none⟩)), (Value.func (.func 72) #[] #[(Value.pointer (some ⟨ab, 0, none⟩))])] R [cl ab 2 [(Value.int .i64 at_)]] (fun v__ post__ => v__ = (Value.int .i64 ((rLastN x.l at_ x.l.length : Int) - 1)) ∧ post__ = [cl ab 2 [(Value.int .i64 at_)]]) := by
 refine Tri.into (n := 40) (al := [(Value.pointer (some ⟨(sb gv), so gv + (j * 4 + 0), none⟩)), (Value.func (.func 72) #[] #[(Value.pointer (some ⟨ab, 0, none⟩))])]) Try.func71 rfl Try.ntmps71 rfl rfl fun w F H => ?_
 refine C_seq (fun K1_ hK1_ => ?_)
 refine C_reg ?_
 refine S_list (T_val (v := (Value.int .i64 0)) (x_assign rfl) ?_)
 refine wpList_nil ?_
 refine (X_then (hK1_ _ _ ?_))
 clear hK1_
 refine C_seq (fun K2_ hK2_ => ?_)
 refine C_reg ?_
 refine S_list (T_val (v := (Value.pointer (some ⟨(sb gv), so gv + (j * 4 + 0), none⟩))) (x_move rfl) ?_)
 refine S_list (T_val (v := (Value.pointer (some ⟨(sb gv), so gv + (j * 4 + 0), none⟩))) (by kernel_rfl) ?_)
 refine S_list (T_val (v := (Value.pointer (some ⟨(sb gv), so gv + (j * 4 + 3), none⟩))) (by kernel_rfl) ?_)
 refine S_list (T_val (v := x.revs) (x_load1 rfl Try.underlying80 rfl (RC.cell (RS.rc h1) (Holds.ro_at H 0 rfl) (j := j * 4 + 3) (u := x.revs) (fm_cell GN.len hx (i := 3) rfl))) ?_)
 refine S_list (T_val (v := (Value.int .i64 ((List.length x.l) : Int))) (x_lenRS rfl hgx Try.underlying80) ?_)
 refine S_list (T_val (v := (Value.int .i64 ((List.length x.l) : Int))) (x_assign rfl) ?_)
 refine wpList_nil ?_
 refine (X_then (hK2_ _ _ ?_))
 clear hK2_
 refine C_seq (fun K3_ hK3_ => ?_)
 refine C_seq (fun K4_ hK4_ => ?_)
 refine C_reg ?_
 refine S_list (T_val (v := (Value.pointer (some ⟨(sb gv), so gv + (j * 4 + 0), none⟩))) (x_move rfl) ?_)
 refine S_list (T_val (v := (Value.pointer (some ⟨(sb gv), so gv + (j * 4 + 0), none⟩))) (by kernel_rfl) ?_)
 refine S_list (T_val (v := (Value.pointer (some ⟨(sb gv), so gv + (j * 4 + 3), none⟩))) (by kernel_rfl) ?_)
 refine S_list (T_val (v := x.revs) (x_load1 rfl Try.underlying80 rfl (RC.cell (RS.rc h1) (Holds.ro_at H 0 rfl) (j := j * 4 + 3) (u := x.revs) (fm_cell GN.len hx (i := 3) rfl))) ?_)
 refine S_list (T_val (v := (Value.int .i64 ((List.length x.l) : Int))) (x_lenRS rfl hgx Try.underlying80) ?_)
 refine S_list (T_val (v := (Value.int .i64 0)) (x_move rfl) ?_)
 refine wpList_nil ?_
 refine (X_then (hK4_ _ _ ?_))
 clear hK4_
 refine C_block ?_
 refine C_loop (γ := Nat × Int) (fun x__ a__ w1__ => match x__ with | ⟨i, t4_v⟩ => ∃ h : Env, a__ = mkA 40 (upd (upd (upd (upd (upd (upd h 0 (Value.pointer (some ⟨(sb gv), so gv + (j * 4 + 0), none⟩))) 1 (Value.func (.func 72) #[] #[(Value.pointer (some ⟨ab, 0, none⟩))])) 4 (Value.int .i64 t4_v)) 5 (Value.int .i64 ((List.length x.l) : Int))) 17 (Value.int .i64 ((List.length x.l) : Int))) 18 (Value.int .i64 (i : Int))) [] ∧ Holds w1__ (ro R :: cl ab 2 [(Value.int .i64 at_)] :: F) ∧ Same w w1__ ∧ (i ≤ x.l.length) ∧ (rLastN x.l at_ x.l.length = rLastN x.l at_ (x.l.length - i))) (fun x__ => match x__ with | ⟨i, t4_v⟩ => x.l.length - i) (⟨0, 0⟩) ⟨_, congrArg (fun e => mkA 40 e []) (ch (ch (ch (ch (ch (ch rfl rfl) rfl) rfl) rfl) rfl) (congrArg (Value.int .i64) ((by first | rfl | omega | (simp; done) | (simp; omega)) : 0 = (0 : Int)))), H, (Same.refl w), (by first | assumption | omega | exact rfl), (rfl)⟩ ?_
 rintro ⟨i, t4_v⟩ _ w5_ ⟨h, rfl, H6_, S7_, hi, hin⟩
 refine C_seq (fun K8_ hK8_ => ?_)
 refine C_reg ?_
 refine S_list (T_val (v := (Value.bool (decide ((i : Int) < ((List.length x.l) : Int))))) (x_bin rfl rfl rfl) ?_)
 refine wpList_nil ?_
 refine (X_then (hK8_ _ _ ?_))
 clear hK8_
 refine C_seq (fun K9_ hK9_ => ?_)
 refine C_cond (b := decide ((i : Int) < ((List.length x.l) : Int))) rfl (fun c10_t => ?_) (fun c10_f => ?_)
 ·have c10_tp : (i : Int) < ((List.length x.l) : Int) := of_decide_eq_true c10_t
  refine C_skip (X_then (hK9_ _ _ ?_))
  clear hK9_
  refine C_seq (fun K11_ hK11_ => ?_)
  refine C_block ?_
  refine C_seq (fun K12_ hK12_ => ?_)
  refine C_reg ?_
  refine S_list (T_val (v := (Value.int .i64 (i : Int))) (x_move rfl) ?_)
  refine S_list (T_val (v := (Value.int .i64 (i : Int))) (x_assign rfl) ?_)
  refine wpList_nil ?_
  refine (X_then (hK12_ _ _ ?_))
  clear hK12_
  refine C_seq (fun K13_ hK13_ => ?_)
  refine C_reg ?_
  refine S_list (T_val (v := (Value.func (.func 72) #[] #[(Value.pointer (some ⟨ab, 0, none⟩))])) (x_move rfl) ?_)
  refine S_list (T_val (v := (Value.pointer (some ⟨(sb gv), so gv + (j * 4 + 0), none⟩))) (x_move rfl) ?_)
  refine S_list (T_val (v := (Value.pointer (some ⟨(sb gv), so gv + (j * 4 + 0), none⟩))) (by kernel_rfl) ?_)
  refine S_list (T_val (v := (Value.pointer (some ⟨(sb gv), so gv + (j * 4 + 3), none⟩))) (by kernel_rfl) ?_)
  refine S_list (T_val (v := x.revs) (x_load1 rfl Try.underlying80 rfl (RC.cell (RS.rc h1) (Holds.ro_at H6_ 0 rfl) (j := j * 4 + 3) (u := x.revs) (fm_cell GN.len hx (i := 3) rfl))) ?_)
  refine S_list (T_val (v := (Value.int .i64 ((List.length x.l) : Int))) (x_move rfl) ?_)
  refine S_list (T_val (v := (Value.int .i64 (i : Int))) (x_move rfl) ?_)
  refine S_list (T_val (v := (Value.int .i64 (((List.length x.l) : Int) - (i : Int)))) (x_bin rfl rfl (ib_sub (IntWalk.i64_in _ (by omega)))) ?_)
  refine S_list (T_val (v := (Value.int .i64 ((((List.length x.l) : Int) - (i : Int)) - 1))) (x_bin rfl rfl (ib_sub (IntWalk.i64_in _ (by omega)))) ?_)
  obtain ⟨x14_, hx15_, hm16_⟩ := elem_at x.l (((((List.length x.l) : Int) - (i : Int)) - 1).toNat) (by omega)
  refine S_list (T_val (v := (Value.pointer (some ⟨(sb x.revs), so x.revs + ((((((List.length x.l) : Int) - (i : Int)) - 1).toNat) * 2 + 0), none⟩))) (x_idxRS (v := x.revs) rfl hgx rfl Try.underlying80 z58 (by omega) (by omega) (by omega : _ = ((((List.length x.l) : Int) - (i : Int)) - 1).toNat) rfl) ?_)
  refine S_list (T_val (v := (Value.agg #[(Value.int .i64 x14_.main), (Value.int .i64 x14_.sub)])) (x_loadN (vs := [(Value.int .i64 x14_.main), (Value.int .i64 x14_.sub)]) rfl Try.underlying58 rfl z58 rfl (RC.cells (RS.rc hgx) (Holds.ro_at H6_ 0 rfl) ((((((List.length x.l) : Int) - (i : Int)) - 1).toNat) * 2 + 0) (fm_cells RV.len hx15_ (i := 0) rfl))) ?_)
  refine S_list (T_callW (al := [(Value.agg #[(Value.int .i64 x14_.main), (Value.int .i64 x14_.sub)]), (Value.pointer (some ⟨ab, 0, none⟩))]) rfl rfl cb72 (Calls.into (n := 8) (al := [(Value.agg #[(Value.int .i64 x14_.main), (Value.int .i64 x14_.sub)]), (Value.pointer (some ⟨ab, 0, none⟩))]) Try.func72 rfl Try.ntmps72 rfl rfl ?_))
  refine C_seq (fun K17_ hK17_ => ?_)
  refine C_reg ?_
  refine S_list (T_box (v := (Value.agg #[(Value.int .i64 x14_.main), (Value.int .i64 x14_.sub)])) rfl H6_ ?_)
  intro b18_ w19_ S21_ H20_
  have S22_ := Same.trans S7_ S21_
  refine S_list (T_val (v := (Value.bool false)) (x_assign rfl) ?_)
  refine wpList_nil ?_
  refine (X_then (hK17_ _ _ ?_))
  clear hK17_
  refine C_seq (fun K23_ hK23_ => ?_)
  refine C_reg ?_
  refine S_list (T_val (v := (Value.pointer (some ⟨b18_, 0, none⟩))) (by kernel_rfl) ?_)
  refine S_list (T_val (v := (Value.int .i64 x14_.main)) (x_load1 rfl Try.underlying2 rfl ((Holds.rd H20_ 0 rfl) 0 (Value.int .i64 x14_.main) rfl)) ?_)
  refine S_list (T_val (v := (Value.int .i64 at_)) (x_load1 rfl Try.underlying2 rfl ((Holds.rd H20_ 2 rfl) 0 (Value.int .i64 at_) rfl)) ?_)
  refine S_list (T_val (v := (Value.bool (decide (at_ < x14_.main)))) (x_bin rfl rfl rfl) ?_)
  refine S_list (T_val (v := (Value.bool (decide (at_ < x14_.main)))) (x_assign rfl) ?_)
  refine wpList_nil ?_
  refine (X_then (hK23_ _ _ ?_))
  clear hK23_
  refine C_ret ?_
  refine R_any (v := (Value.bool (decide (at_ < x14_.main)))) (run_results1 rfl rfl) ⟨_, rfl, ?_⟩
  refine S_list (T_val (v := (Value.bool (decide (at_ < x14_.main)))) (x_assign rfl) ?_)
  refine wpList_nil ?_
  refine (X_then (hK13_ _ _ ?_))
  clear hK13_
  refine C_seq (fun K24_ hK24_ => ?_)
  refine C_reg ?_
  refine S_list (T_val (v := (Value.bool (decide (at_ < x14_.main)))) (x_move rfl) ?_)
  refine S_list (T_val (v := (Value.bool (decide (¬ (at_ < x14_.main))))) (x_notP rfl) ?_)
  refine wpList_nil ?_
  refine (X_then (hK24_ _ _ ?_))
  clear hK24_
  refine C_cond (b := decide (¬ (at_ < x14_.main))) rfl (fun c25_t => ?_) (fun c25_f => ?_)
  ·have c25_tp : ¬ (at_ < x14_.main) := of_decide_eq_true c25_t
   refine C_seq (fun K26_ hK26_ => ?_)
   refine C_reg ?_
   refine S_list (T_val (v := (Value.int .i64 ((List.length x.l) : Int))) (x_move rfl) ?_)
   refine S_list (T_val (v := (Value.int .i64 (i : Int))) (x_move rfl) ?_)
   refine S_list (T_val (v := (Value.int .i64 (((List.length x.l) : Int) - (i : Int)))) (x_bin rfl rfl (ib_sub (IntWalk.i64_in _ (by omega)))) ?_)
   refine S_list (T_val (v := (Value.int .i64 ((((List.length x.l) : Int) - (i : Int)) - 1))) (x_bin rfl rfl (ib_sub (IntWalk.i64_in _ (by omega)))) ?_)
   refine S_list (T_val (v := (Value.int .i64 ((((List.length x.l) : Int) - (i : Int)) - 1))) (x_assign rfl) ?_)
   refine wpList_nil ?_
   refine (X_then (hK26_ _ _ ?_))
   clear hK26_
   refine C_ret (X_blkR (X_thenR (X_thenR (X_blkR (X_thenR ?_)))))
   refine R_any (v := (Value.int .i64 ((((List.length x.l) : Int) - (i : Int)) - 1))) (run_results1 rfl rfl) ?_
   have H27_ : Holds w19_ (ro R :: cl ab 2 [(Value.int .i64 at_)] :: F) := (Holds.pkF H20_ [1, 1] 1 :)
   exact ⟨_, _, rfl, ⟨(congrArg (Value.int .i64) ((by rw [hin, rLastN_yes hx15_ (by omega) (by omega)]; omega) : (((List.length x.l) : Int) - (i : Int)) - 1 = (rLastN x.l at_ x.l.length : Int) - 1)), rfl⟩, S22_, H27_⟩
  ·have c25_fp : ¬ (¬ (at_ < x14_.main)) := of_decide_eq_false c25_f
   refine C_skip (X_blkN (X_then (hK11_ _ _ ?_)))
   clear hK11_
   refine C_reg ?_
   refine S_list (T_val (v := (Value.int .i64 ((i : Int) + 1))) (x_bin rfl rfl (ib_add (IntWalk.i64_in _ (by omega)))) ?_)
   refine S_list (T_val (v := (Value.int .i64 ((i : Int) + 1))) (x_move rfl) ?_)
   refine wpList_nil ?_
   refine (X_then ?_)
   have H28_ : Holds w19_ (ro R :: cl ab 2 [(Value.int .i64 at_)] :: F) := (Holds.pkF H20_ [1, 1] 1 :)
   exact ⟨⟨i + 1, t4_v⟩, ⟨_, congrArg (fun e => mkA 40 e []) (ch (ch (ch (ch (ch (ch rfl rfl) rfl) rfl) rfl) rfl) (congrArg (Value.int .i64) ((by first | rfl | omega | (simp; done) | (simp; omega)) : (i : Int) + 1 = ((i + 1 : Nat) : Int)))), H28_, S22_, (by first | assumption | omega | exact rfl), (by rw [hin, rLastN_no hx15_ (by omega) (by omega)])⟩, by first | omega | (dsimp only; omega) | (simp; omega)⟩
 ·have c10_fp : ¬ ((i : Int) < ((List.length x.l) : Int)) := of_decide_eq_false c10_f
  refine C_exit (X_thenX (X_thenX (X_blkHit ?_)))
  refine (X_then (hK3_ _ _ ?_))
  clear hK3_
  refine C_seq (fun K29_ hK29_ => ?_)
  refine C_reg ?_
  refine S_list (T_val (v := (Value.int .i64 (-1))) (x_assign rfl) ?_)
  refine wpList_nil ?_
  refine (X_then (hK29_ _ _ ?_))
  clear hK29_
  refine C_ret ?_
  refine R_any (v := (Value.int .i64 (-1))) (run_results1 rfl rfl) ?_
  exact ⟨_, _, rfl, ⟨(congrArg (Value.int .i64) ((by rw [hin, show x.l.length - i = 0 by omega]; rfl) : -1 = (rLastN x.l at_ x.l.length : Int) - 1)), rfl⟩, S7_, H6_⟩
end Go.Proofs.Ytiblemgccgbhoaa
