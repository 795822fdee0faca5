/- Words, and proved steps, on which the proof leans. -/
import Derived.Test.YtdfjdmmmlidamaaBs1
set_option linter.unusedVariables false
set_option linter.unusedSimpArgs false
namespace Go.Proofs.Ytdfjdmmmlidamaa
open Go Go.RowKit Gw Try
open Go.Value renaming int → vI, bool → vB, slice → vS, pointer → vP, agg → vA, tuple → vT

set_option maxHeartbeats 1600000 in
theorem btTruncE (R : HP) (a i : Nat) (iv cv pv : Value) (xs : List EL) (hi : i ≤ xs.length) (hn : xs.length ≤ 1000000) :
    Tri Try.prog 54 #[(vP (some ⟨a, 0, none⟩)), (vI .i64 (i : Int))] R [cl a 79 [iv, cv, pv], sl 24 2 iv (List.length xs) (xs.flatMap EL.cells)] (fun v__ post__ => v__ = (vT #[]) ∧ post__ = [cl a 79 [((slc iv 0 i 2)), cv, pv], sl 24 2 (slc iv 0 i 2) (List.length (xs.take i)) ((xs.take i).flatMap EL.cells)]) := by
 refine Tri.into (n := 29) (al := [(vP (some ⟨a, 0, none⟩)), (vI .i64 (i : Int))]) func54 rfl ntmps54 rfl rfl fun w F H => ?_
 have ho_ := slc_one (Holds.sl_one H 2 rfl) 0 i 2
 refine cR fun _ hK1_ => ?_
 refine sv (v := (vS none 0 0)) (x_assign rfl) ?_
 refine wn (hK1_ _ _ ?_)
 refine C_seq (fun _ hK2_ => ?_)
 refine A_start (S := fun w => SlRd iv (xs.flatMap EL.cells) w ∧ Sub R (hp w)) (N := 14) foll rfl rfl ?_
 have H3_ := Holds.drew_ H
 have hq4_ := And.intro (Holds.slrd H3_ 2 rfl) ((Holds.ro_at H3_ 0 rfl))
 refine A_tk 0 (v := (vP (some ⟨a, 0, none⟩))) rfl (by kernel_rfl) (fun w hS => x_move rfl) hq4_ ?_
 refine A_tk 1 (v := (vP (some ⟨a, 0, none⟩))) rfl (by kernel_rfl) (fun w hS => x_move rfl) hq4_ ?_
 refine A_tk 2 (v := (vP (some ⟨a, 0, none⟩))) rfl (by kernel_rfl) (fun w hS => by kernel_rfl) hq4_ ?_
 refine A_tk 4 (v := (vI .i64 (i : Int))) rfl (by kernel_rfl) (fun w hS => x_move rfl) hq4_ ?_
 refine A_tk 6 (v := (vP (some ⟨a, 0, none⟩))) rfl (by kernel_rfl) (fun w hS => x_move rfl) hq4_ ?_
 refine A_tk 7 (v := (vP (some ⟨a, 0, none⟩))) rfl (by kernel_rfl) (fun w hS => by kernel_rfl) hq4_ ?_
 refine A_tk 9 (v := (vI .i64 (i : Int))) rfl (by kernel_rfl) (fun w hS => x_move rfl) hq4_ ?_
 refine A_ready (i := 3) (rs := [8]) (by kernel_rfl) ?_
 refine AllR.cons ?_ ?_
 ·skip
  refine A_op (ls' := #[true, true, true, true, true, false, true, true, false, true, false, false, false, false]) rfl (by kernel_rfl) (T_val (v := iv) (x_load1 rfl underlying76 rfl ((Holds.rd H3_ 1 rfl) 0 iv rfl)) ?_)
  refine ⟨⟨Holds.slrd H3_ 2 rfl, (Holds.ro_at H3_ 0 rfl)⟩, ?_⟩
  have hr5_ := Holds.sl_RSw H3_ 2 rfl
  refine A_tk 5 (v := ((slc iv 0 i 2))) rfl (by kernel_rfl) (fun w hS => x_sliceRS (l := 0) (h := i) rfl hr5_ underlying76 z24 (by omega) ⟨_, _, rfl, by omega, by omega, by omega⟩ rfl) hq4_ ?_
  refine A_ready (i := 8) (rs := []) (by kernel_rfl) ?_
  refine AllR.cons ?_ AllR.nil
  refine A_op (ls' := #[true, true, true, true, true, true, true, true, true, true, false, false, false, false]) rfl (by kernel_rfl) (T_val (v := iv) (x_load1 rfl underlying76 rfl ((Holds.rd H3_ 1 rfl) 0 iv rfl)) ?_)
  refine ⟨⟨Holds.slrd H3_ 2 rfl, (Holds.ro_at H3_ 0 rfl)⟩, ?_⟩
  refine A_tk 10 (v := ((slc iv i (List.length xs) 2))) rfl (by kernel_rfl) (fun w hS => x_sliceRS (l := i) (h := (List.length xs)) rfl hr5_ underlying76 z24 (by omega) rfl ⟨_, _, rfl, by omega, by omega, by omega⟩) hq4_ ?_
  refine A_tk 11 (v := (vP (some ⟨a, 0, none⟩))) rfl (by kernel_rfl) (fun w hS => by kernel_rfl) hq4_ ?_
  refine A_ready (i := 12) (rs := []) (by kernel_rfl) ?_
  refine AllR.cons ?_ AllR.nil
  refine A_op0 (ls' := #[true, true, true, true, true, true, true, true, true, true, true, true, true, false]) rfl (by kernel_rfl) (T_store1 (v := ((slc iv 0 i 2))) rfl rfl z76 ho_ H3_ 1 rfl (Nat.le_of_ble_eq_true (by rfl)) ?_)
  intro w6_ S8_ H7_
  have S9_ := Same.trans (Same.trans (Same.refl w) (Same.drew _)) S8_
  refine ⟨⟨Holds.slrd H7_ 2 rfl, (Holds.ro_at H7_ 0 rfl)⟩, ?_⟩
  have hq10_ := And.intro (Holds.slrd H7_ 2 rfl) ((Holds.ro_at H7_ 0 rfl))
  refine A_tk 13 (v := ((slc iv i (List.length xs) 2))) rfl (by kernel_rfl) (fun w hS => x_assign rfl) hq10_ ?_
  refine A_done (by kernel_rfl) ?_
  refine (X_then (hK2_ _ _ ?_))
  refine cR fun _ hK11_ => ?_
  refine S_list (T_alloc z24 H7_ ?_)
  intro b12_ w13_ S15_ H14_
  have S16_ := Same.trans S9_ S15_
  refine wn (hK11_ _ _ ?_)
  refine cR fun _ hK17_ => ?_
  refine sv (v := (vI .i64 0)) (x_assign rfl) ?_
  refine wn (hK17_ _ _ ?_)
  refine C_block ?_
  refine C_loop (γ := Nat × (List Value)) (fun x__ a__ w1__ => match x__ with | ⟨j, Z⟩ => ∃ h : Env, a__ = mkA 29 (upd (upd (upd h 4 ((slc iv i (List.length xs) 2))) 5 (vP (some ⟨b12_, 0, none⟩))) 6 (vI .i64 (j : Int))) [] ∧ Holds w1__ (cl b12_ 24 [(vI .i64 0), (vI .i64 0)] :: ro R :: cl a 79 [((slc iv 0 i 2)), cv, pv] :: sl 24 2 iv (List.length xs) Z :: F) ∧ Same w w1__ ∧ (j ≤ xs.length - i) ∧ (Z.length = xs.length * 2) ∧ (Z.take (i * 2) = (xs.take i).flatMap EL.cells)) (fun x__ => match x__ with | ⟨j, Z⟩ => xs.length - i - j) (⟨0, (xs.flatMap EL.cells)⟩) ⟨_, congrArg (fun e => mkA 29 e []) (ch (ch (ch rfl rfl) rfl) (congrArg (vI .i64) ((by first | rfl | omega | (simp; done) | (simp; omega)) : 0 = (0 : Int)))), H14_, S16_, (Nat.zero_le _), (fr_len EL.len xs), (fr_take EL.len xs i)⟩ ?_
  rintro ⟨j, Z⟩ _ w18_ ⟨h, rfl, H19_, S20_, hj, hZ, hT⟩
  refine C_seq (fun _ hK21_ => ?_)
  refine cR fun _ hK22_ => ?_
  refine sm (vI .i64 (j : Int)) ?_
  refine sm ((slc iv i (List.length xs) 2)) ?_
  have hr23_ := Holds.sl_RSw H19_ 3 rfl
  refine sv (v := .int .i64 (((List.length xs) - i : Nat) : Int)) (x_lenRS rfl (RS.slc hr23_ (by omega : i ≤ (List.length xs)) (Nat.le_refl _)) underlying76) ?_
  refine sv (v := (vB (decide ((j : Int) < (((List.length xs) - i : Nat) : Int))))) (x_bin rfl rfl rfl) ?_
  refine wn (hK22_ _ _ ?_)
  refine C_cond (b := decide ((j : Int) < (((List.length xs) - i : Nat) : Int))) rfl (fun c24_t => ?_) (fun c24_f => ?_)
  ·have c24_tp : (j : Int) < (((List.length xs) - i : Nat) : Int) := of_decide_eq_true c24_t
   refine C_skip (X_then (hK21_ _ _ ?_))
   refine C_seq (fun _ hK25_ => ?_)
   refine C_block ?_
   refine C_reg ?_
   refine sm ((slc iv i (List.length xs) 2)) ?_
   refine sm (vI .i64 (j : Int)) ?_
   refine sv (v := (vA #[(vI .i64 0), (vI .i64 0)])) (x_loadN (vs := [(vI .i64 0), (vI .i64 0)]) rfl underlying24 rfl z24 rfl (Rd.cells (Holds.rd H19_ 0 rfl) 0 rfl)) ?_
   refine sv (x_idxSlc (v := iv) (a := i) (m := (List.length xs)) rfl hr23_ rfl underlying76 z24 (by omega) (by omega) (by omega) (by omega : _ = j) rfl) ?_
   refine S_list0 (T_storeSlN (vs := [(vI .i64 0), (vI .i64 0)]) (k := (i + j) * 2 + 0) rfl rfl z24 rfl (by simp [Value.oneCell']) H19_ 3 rfl (by simp only [List.length_cons, List.length_nil]; omega) (Nat.zero_lt_succ _) rfl rfl ?_)
   intro w26_ S28_ H27_
   have S29_ := Same.trans S20_ S28_
   refine wpList_nil (X_blkN (X_then (hK25_ _ _ ?_)))
   refine C_reg ?_
   refine sm (vI .i64 (j : Int)) ?_
   refine sv (v := (vI .i64 ((j : Int) + 1))) (x_bin rfl rfl (ib_add (IntWalk.i64_in _ (by omega)))) ?_
   refine sv (v := (vI .i64 ((j : Int) + 1))) (x_assign rfl) ?_
   refine wpList_nil (X_then ?_)
   exact ⟨⟨j + 1, List.take ((i + j) * 2 + 0) Z ++ [(vI .i64 0), (vI .i64 0)] ++ List.drop ((i + j) * 2 + 0 + List.length [(vI .i64 0), (vI .i64 0)]) Z⟩, ⟨_, congrArg (fun e => mkA 29 e []) (ch (ch (ch rfl rfl) rfl) (congrArg (vI .i64) ((by first | rfl | omega | (simp; done) | (simp; omega)) : (j : Int) + 1 = ((j + 1 : Nat) : Int)))), H27_, S29_, (by omega), ((put_take (vs := [vI .i64 0, vI .i64 0]) (q := i * 2) (by omega) (by simp only [List.length_cons, List.length_nil]; omega)).2.trans hZ), ((put_take (vs := [vI .i64 0, vI .i64 0]) (q := i * 2) (by omega) (by simp only [List.length_cons, List.length_nil]; omega)).1.trans hT)⟩, by first | omega | (dsimp only; omega) | (simp; omega)⟩
  ·have c24_fp : ¬ ((j : Int) < (((List.length xs) - i : Nat) : Int)) := of_decide_eq_false c24_f
   refine C_exit (X_thenX (X_thenX (X_blkHit ?_)))
   refine R_0 rfl ?_
   have H30_ := Holds.sl_trunc (k := i) H19_ 3 rfl (by omega)
   have H31_ := Holds.resl H30_ 3 rfl (hT : List.take (i * 2) Z = (xs.take i).flatMap EL.cells) ((by simp; omega) : i = (List.length (xs.take i)))
   have H32_ := Holds.pkF H31_ [1, 1, 1] 1
   exact ⟨_, _, rfl, ⟨rfl, rfl⟩, S20_, H32_⟩
 refine AllR.cons ?_ AllR.nil
 refine A_op (ls' := #[true, true, true, false, true, false, true, true, true, true, false, false, false, false]) rfl (by kernel_rfl) (T_val (v := iv) (x_load1 rfl underlying76 rfl ((Holds.rd H3_ 1 rfl) 0 iv rfl)) ?_)
 refine ⟨⟨Holds.slrd H3_ 2 rfl, (Holds.ro_at H3_ 0 rfl)⟩, ?_⟩
 have hr33_ := Holds.sl_RSw H3_ 2 rfl
 refine A_tk 10 (v := ((slc iv i (List.length xs) 2))) rfl (by kernel_rfl) (fun w hS => x_sliceRS (l := i) (h := (List.length xs)) rfl hr33_ underlying76 z24 (by omega) rfl ⟨_, _, rfl, by omega, by omega, by omega⟩) hq4_ ?_
 refine A_ready (i := 3) (rs := []) (by kernel_rfl) ?_
 refine AllR.cons ?_ AllR.nil
 refine A_op (ls' := #[true, true, true, true, true, false, true, true, true, true, true, false, false, false]) rfl (by kernel_rfl) (T_val (v := iv) (x_load1 rfl underlying76 rfl ((Holds.rd H3_ 1 rfl) 0 iv rfl)) ?_)
 refine ⟨⟨Holds.slrd H3_ 2 rfl, (Holds.ro_at H3_ 0 rfl)⟩, ?_⟩
 refine A_tk 5 (v := ((slc iv 0 i 2))) rfl (by kernel_rfl) (fun w hS => x_sliceRS (l := 0) (h := i) rfl hr33_ underlying76 z24 (by omega) ⟨_, _, rfl, by omega, by omega, by omega⟩ rfl) hq4_ ?_
 refine A_tk 11 (v := (vP (some ⟨a, 0, none⟩))) rfl (by kernel_rfl) (fun w hS => by kernel_rfl) hq4_ ?_
 refine A_ready (i := 12) (rs := []) (by kernel_rfl) ?_
 refine AllR.cons ?_ AllR.nil
 refine A_op0 (ls' := #[true, true, true, true, true, true, true, true, true, true, true, true, true, false]) rfl (by kernel_rfl) (T_store1 (v := ((slc iv 0 i 2))) rfl rfl z76 ho_ H3_ 1 rfl (Nat.le_of_ble_eq_true (by rfl)) ?_)
 intro w34_ S36_ H35_
 have S37_ := Same.trans (Same.trans (Same.refl w) (Same.drew _)) S36_
 refine ⟨⟨Holds.slrd H35_ 2 rfl, (Holds.ro_at H35_ 0 rfl)⟩, ?_⟩
 have hq38_ := And.intro (Holds.slrd H35_ 2 rfl) ((Holds.ro_at H35_ 0 rfl))
 refine A_tk 13 (v := ((slc iv i (List.length xs) 2))) rfl (by kernel_rfl) (fun w hS => x_assign rfl) hq38_ ?_
 refine A_done (by kernel_rfl) ?_
 refine (X_then (hK2_ _ _ ?_))
 refine cR fun _ hK39_ => ?_
 refine S_list (T_alloc z24 H35_ ?_)
 intro b40_ w41_ S43_ H42_
 have S44_ := Same.trans S37_ S43_
 refine wn (hK39_ _ _ ?_)
 refine cR fun _ hK45_ => ?_
 refine sv (v := (vI .i64 0)) (x_assign rfl) ?_
 refine wn (hK45_ _ _ ?_)
 refine C_block ?_
 refine C_loop (γ := Nat × (List Value)) (fun x__ a__ w1__ => match x__ with | ⟨j, Z⟩ => ∃ h : Env, a__ = mkA 29 (upd (upd (upd h 4 ((slc iv i (List.length xs) 2))) 5 (vP (some ⟨b40_, 0, none⟩))) 6 (vI .i64 (j : Int))) [] ∧ Holds w1__ (cl b40_ 24 [(vI .i64 0), (vI .i64 0)] :: ro R :: cl a 79 [((slc iv 0 i 2)), cv, pv] :: sl 24 2 iv (List.length xs) Z :: F) ∧ Same w w1__ ∧ (j ≤ xs.length - i) ∧ (Z.length = xs.length * 2) ∧ (Z.take (i * 2) = (xs.take i).flatMap EL.cells)) (fun x__ => match x__ with | ⟨j, Z⟩ => xs.length - i - j) (⟨0, (xs.flatMap EL.cells)⟩) ⟨_, congrArg (fun e => mkA 29 e []) (ch (ch (ch rfl rfl) rfl) (congrArg (vI .i64) ((by first | rfl | omega | (simp; done) | (simp; omega)) : 0 = (0 : Int)))), H42_, S44_, (Nat.zero_le _), (fr_len EL.len xs), (fr_take EL.len xs i)⟩ ?_
 rintro ⟨j, Z⟩ _ w46_ ⟨h, rfl, H47_, S48_, hj, hZ, hT⟩
 refine C_seq (fun _ hK49_ => ?_)
 refine cR fun _ hK50_ => ?_
 refine sm (vI .i64 (j : Int)) ?_
 refine sm ((slc iv i (List.length xs) 2)) ?_
 have hr51_ := Holds.sl_RSw H47_ 3 rfl
 refine sv (v := .int .i64 (((List.length xs) - i : Nat) : Int)) (x_lenRS rfl (RS.slc hr51_ (by omega : i ≤ (List.length xs)) (Nat.le_refl _)) underlying76) ?_
 refine sv (v := (vB (decide ((j : Int) < (((List.length xs) - i : Nat) : Int))))) (x_bin rfl rfl rfl) ?_
 refine wn (hK50_ _ _ ?_)
 refine C_cond (b := decide ((j : Int) < (((List.length xs) - i : Nat) : Int))) rfl (fun c52_t => ?_) (fun c52_f => ?_)
 ·have c52_tp : (j : Int) < (((List.length xs) - i : Nat) : Int) := of_decide_eq_true c52_t
  refine C_skip (X_then (hK49_ _ _ ?_))
  refine C_seq (fun _ hK53_ => ?_)
  refine C_block ?_
  refine C_reg ?_
  refine sm ((slc iv i (List.length xs) 2)) ?_
  refine sm (vI .i64 (j : Int)) ?_
  refine sv (v := (vA #[(vI .i64 0), (vI .i64 0)])) (x_loadN (vs := [(vI .i64 0), (vI .i64 0)]) rfl underlying24 rfl z24 rfl (Rd.cells (Holds.rd H47_ 0 rfl) 0 rfl)) ?_
  refine sv (x_idxSlc (v := iv) (a := i) (m := (List.length xs)) rfl hr51_ rfl underlying76 z24 (by omega) (by omega) (by omega) (by omega : _ = j) rfl) ?_
  refine S_list0 (T_storeSlN (vs := [(vI .i64 0), (vI .i64 0)]) (k := (i + j) * 2 + 0) rfl rfl z24 rfl (by simp [Value.oneCell']) H47_ 3 rfl (by simp only [List.length_cons, List.length_nil]; omega) (Nat.zero_lt_succ _) rfl rfl ?_)
  intro w54_ S56_ H55_
  have S57_ := Same.trans S48_ S56_
  refine wpList_nil (X_blkN (X_then (hK53_ _ _ ?_)))
  refine C_reg ?_
  refine sm (vI .i64 (j : Int)) ?_
  refine sv (v := (vI .i64 ((j : Int) + 1))) (x_bin rfl rfl (ib_add (IntWalk.i64_in _ (by omega)))) ?_
  refine sv (v := (vI .i64 ((j : Int) + 1))) (x_assign rfl) ?_
  refine wpList_nil (X_then ?_)
  exact ⟨⟨j + 1, List.take ((i + j) * 2 + 0) Z ++ [(vI .i64 0), (vI .i64 0)] ++ List.drop ((i + j) * 2 + 0 + List.length [(vI .i64 0), (vI .i64 0)]) Z⟩, ⟨_, congrArg (fun e => mkA 29 e []) (ch (ch (ch rfl rfl) rfl) (congrArg (vI .i64) ((by first | rfl | omega | (simp; done) | (simp; omega)) : (j : Int) + 1 = ((j + 1 : Nat) : Int)))), H55_, S57_, (by omega), ((put_take (vs := [vI .i64 0, vI .i64 0]) (q := i * 2) (by omega) (by simp only [List.length_cons, List.length_nil]; omega)).2.trans hZ), ((put_take (vs := [vI .i64 0, vI .i64 0]) (q := i * 2) (by omega) (by simp only [List.length_cons, List.length_nil]; omega)).1.trans hT)⟩, by first | omega | (dsimp only; omega) | (simp; omega)⟩
 ·have c52_fp : ¬ ((j : Int) < (((List.length xs) - i : Nat) : Int)) := of_decide_eq_false c52_f
  refine C_exit (X_thenX (X_thenX (X_blkHit ?_)))
  refine R_0 rfl ?_
  have H58_ := Holds.sl_trunc (k := i) H47_ 3 rfl (by omega)
  have H59_ := Holds.resl H58_ 3 rfl (hT : List.take (i * 2) Z = (xs.take i).flatMap EL.cells) ((by simp; omega) : i = (List.length (xs.take i)))
  have H60_ := Holds.pkF H59_ [1, 1, 1] 1
  exact ⟨_, _, rfl, ⟨rfl, rfl⟩, S48_, H60_⟩

set_option maxHeartbeats 1600000 in
theorem btTruncP (R : HP) (a i : Nat) (iv cv pv : Value) (cs : List Nat) (hi : i ≤ cs.length) (hn : cs.length ≤ 2000000) :
    Tri Try.prog 55 #[(vP (some ⟨a, 1, none⟩)), (vI .i64 (i : Int))] R [cl a 79 [iv, cv, pv], sl 59 1 cv (List.length cs) (pBs cs)] (fun v__ post__ => v__ = (vT #[]) ∧ post__ = [cl a 79 [iv, ((slc cv 0 i 1)), pv], sl 59 1 (slc cv 0 i 1) (List.length (cs.take i)) (pBs (cs.take i))]) := by
 refine Tri.into (n := 29) (al := [(vP (some ⟨a, 1, none⟩)), (vI .i64 (i : Int))]) func55 rfl ntmps55 rfl rfl fun w F H => ?_
 have ho_ := slc_one (Holds.sl_one H 2 rfl) 0 i 1
 refine cR fun _ hK1_ => ?_
 refine sv (v := (vS none 0 0)) (x_assign rfl) ?_
 refine wn (hK1_ _ _ ?_)
 refine C_seq (fun _ hK2_ => ?_)
 refine A_start (S := fun w => SlRd cv (pBs cs) w ∧ Sub R (hp w)) (N := 14) foll rfl rfl ?_
 have H3_ := Holds.drew_ H
 have hq4_ := And.intro (Holds.slrd H3_ 2 rfl) ((Holds.ro_at H3_ 0 rfl))
 refine A_tk 0 (v := (vP (some ⟨a, 1, none⟩))) rfl (by kernel_rfl) (fun w hS => x_move rfl) hq4_ ?_
 refine A_tk 1 (v := (vP (some ⟨a, 1, none⟩))) rfl (by kernel_rfl) (fun w hS => x_move rfl) hq4_ ?_
 refine A_tk 2 (v := (vP (some ⟨a, 1, none⟩))) rfl (by kernel_rfl) (fun w hS => by kernel_rfl) hq4_ ?_
 refine A_tk 4 (v := (vI .i64 (i : Int))) rfl (by kernel_rfl) (fun w hS => x_move rfl) hq4_ ?_
 refine A_tk 6 (v := (vP (some ⟨a, 1, none⟩))) rfl (by kernel_rfl) (fun w hS => x_move rfl) hq4_ ?_
 refine A_tk 7 (v := (vP (some ⟨a, 1, none⟩))) rfl (by kernel_rfl) (fun w hS => by kernel_rfl) hq4_ ?_
 refine A_tk 9 (v := (vI .i64 (i : Int))) rfl (by kernel_rfl) (fun w hS => x_move rfl) hq4_ ?_
 refine A_ready (i := 3) (rs := [8]) (by kernel_rfl) ?_
 refine AllR.cons ?_ ?_
 ·skip
  refine A_op (ls' := #[true, true, true, true, true, false, true, true, false, true, false, false, false, false]) rfl (by kernel_rfl) (T_val (v := cv) (x_load1 rfl underlying77 rfl ((Holds.rd H3_ 1 rfl) 1 cv rfl)) ?_)
  refine ⟨⟨Holds.slrd H3_ 2 rfl, (Holds.ro_at H3_ 0 rfl)⟩, ?_⟩
  have hr5_ := Holds.sl_RSw H3_ 2 rfl
  refine A_tk 5 (v := ((slc cv 0 i 1))) rfl (by kernel_rfl) (fun w hS => x_sliceRS (l := 0) (h := i) rfl hr5_ underlying77 z59 (by omega) ⟨_, _, rfl, by omega, by omega, by omega⟩ rfl) hq4_ ?_
  refine A_ready (i := 8) (rs := []) (by kernel_rfl) ?_
  refine AllR.cons ?_ AllR.nil
  refine A_op (ls' := #[true, true, true, true, true, true, true, true, true, true, false, false, false, false]) rfl (by kernel_rfl) (T_val (v := cv) (x_load1 rfl underlying77 rfl ((Holds.rd H3_ 1 rfl) 1 cv rfl)) ?_)
  refine ⟨⟨Holds.slrd H3_ 2 rfl, (Holds.ro_at H3_ 0 rfl)⟩, ?_⟩
  refine A_tk 10 (v := ((slc cv i (List.length cs) 1))) rfl (by kernel_rfl) (fun w hS => x_sliceRS (l := i) (h := (List.length cs)) rfl hr5_ underlying77 z59 (by omega) rfl ⟨_, _, rfl, by omega, by omega, by omega⟩) hq4_ ?_
  refine A_tk 11 (v := (vP (some ⟨a, 1, none⟩))) rfl (by kernel_rfl) (fun w hS => by kernel_rfl) hq4_ ?_
  refine A_ready (i := 12) (rs := []) (by kernel_rfl) ?_
  refine AllR.cons ?_ AllR.nil
  refine A_op0 (ls' := #[true, true, true, true, true, true, true, true, true, true, true, true, true, false]) rfl (by kernel_rfl) (T_store1 (v := ((slc cv 0 i 1))) rfl rfl z77 ho_ H3_ 1 rfl (Nat.le_of_ble_eq_true (by rfl)) ?_)
  intro w6_ S8_ H7_
  have S9_ := Same.trans (Same.trans (Same.refl w) (Same.drew _)) S8_
  refine ⟨⟨Holds.slrd H7_ 2 rfl, (Holds.ro_at H7_ 0 rfl)⟩, ?_⟩
  have hq10_ := And.intro (Holds.slrd H7_ 2 rfl) ((Holds.ro_at H7_ 0 rfl))
  refine A_tk 13 (v := ((slc cv i (List.length cs) 1))) rfl (by kernel_rfl) (fun w hS => x_assign rfl) hq10_ ?_
  refine A_done (by kernel_rfl) ?_
  refine (X_then (hK2_ _ _ ?_))
  refine cR fun _ hK11_ => ?_
  refine sv (v := (vP none)) (x_assign rfl) ?_
  refine wn (hK11_ _ _ ?_)
  refine cR fun _ hK12_ => ?_
  refine sv (v := (vI .i64 0)) (x_assign rfl) ?_
  refine wn (hK12_ _ _ ?_)
  refine C_block ?_
  refine C_loop (γ := Nat × (List Value)) (fun x__ a__ w1__ => match x__ with | ⟨j, Z⟩ => ∃ h : Env, a__ = mkA 29 (upd (upd (upd h 4 ((slc cv i (List.length cs) 1))) 5 (vP none)) 6 (vI .i64 (j : Int))) [] ∧ Holds w1__ (ro R :: cl a 79 [iv, ((slc cv 0 i 1)), pv] :: sl 59 1 cv (List.length cs) Z :: F) ∧ Same w w1__ ∧ (j ≤ cs.length - i) ∧ (Z.length = cs.length) ∧ (Z.take (i * 1) = pBs (cs.take i))) (fun x__ => match x__ with | ⟨j, Z⟩ => cs.length - i - j) (⟨0, (pBs cs)⟩) ⟨_, congrArg (fun e => mkA 29 e []) (ch (ch (ch rfl rfl) rfl) (congrArg (vI .i64) ((by first | rfl | omega | (simp; done) | (simp; omega)) : 0 = (0 : Int)))), H7_, S9_, (Nat.zero_le _), (pbs_len cs), (by rw [Nat.mul_one, pbs_take])⟩ ?_
  rintro ⟨j, Z⟩ _ w13_ ⟨h, rfl, H14_, S15_, hj, hZ, hT⟩
  refine C_seq (fun _ hK16_ => ?_)
  refine cR fun _ hK17_ => ?_
  refine sm (vI .i64 (j : Int)) ?_
  refine sm ((slc cv i (List.length cs) 1)) ?_
  have hr18_ := Holds.sl_RSw H14_ 2 rfl
  refine sv (v := .int .i64 (((List.length cs) - i : Nat) : Int)) (x_lenRS rfl (RS.slc hr18_ (by omega : i ≤ (List.length cs)) (Nat.le_refl _)) underlying77) ?_
  refine sv (v := (vB (decide ((j : Int) < (((List.length cs) - i : Nat) : Int))))) (x_bin rfl rfl rfl) ?_
  refine wn (hK17_ _ _ ?_)
  refine C_cond (b := decide ((j : Int) < (((List.length cs) - i : Nat) : Int))) rfl (fun c19_t => ?_) (fun c19_f => ?_)
  ·have c19_tp : (j : Int) < (((List.length cs) - i : Nat) : Int) := of_decide_eq_true c19_t
   refine C_skip (X_then (hK16_ _ _ ?_))
   refine C_seq (fun _ hK20_ => ?_)
   refine C_block ?_
   refine C_reg ?_
   refine sm ((slc cv i (List.length cs) 1)) ?_
   refine sm (vI .i64 (j : Int)) ?_
   refine sm (vP none) ?_
   refine sv (x_idxSlc (v := cv) (a := i) (m := (List.length cs)) rfl hr18_ rfl underlying77 z59 (by omega) (by omega) (by omega) (by omega : _ = j) (by rw [Nat.mul_one])) ?_
   refine S_list0 (T_storeSl (v := cv) (u := (vP none)) rfl rfl z59 rfl H14_ 2 rfl (by omega) rfl rfl ?_)
   intro w21_ S23_ H22_
   have S24_ := Same.trans S15_ S23_
   refine wpList_nil (X_blkN (X_then (hK20_ _ _ ?_)))
   refine C_reg ?_
   refine sm (vI .i64 (j : Int)) ?_
   refine sv (v := (vI .i64 ((j : Int) + 1))) (x_bin rfl rfl (ib_add (IntWalk.i64_in _ (by omega)))) ?_
   refine sv (v := (vI .i64 ((j : Int) + 1))) (x_assign rfl) ?_
   refine wpList_nil (X_then ?_)
   exact ⟨⟨j + 1, List.set Z (i + j) (vP none)⟩, ⟨_, congrArg (fun e => mkA 29 e []) (ch (ch (ch rfl rfl) rfl) (congrArg (vI .i64) ((by first | rfl | omega | (simp; done) | (simp; omega)) : (j : Int) + 1 = ((j + 1 : Nat) : Int)))), H22_, S24_, (by omega), ((List.length_set ..).trans hZ), ((List.take_set_of_le (by omega)).trans hT)⟩, by first | omega | (dsimp only; omega) | (simp; omega)⟩
  ·have c19_fp : ¬ ((j : Int) < (((List.length cs) - i : Nat) : Int)) := of_decide_eq_false c19_f
   refine C_exit (X_thenX (X_thenX (X_blkHit ?_)))
   refine R_0 rfl ?_
   have H25_ := Holds.sl_trunc (k := i) H14_ 2 rfl (by omega)
   have H26_ := Holds.resl H25_ 2 rfl (hT : List.take (i * 1) Z = pBs (cs.take i)) ((by simp; omega) : i = (List.length (cs.take i)))
   exact ⟨_, _, rfl, ⟨rfl, rfl⟩, S15_, H26_⟩
 refine AllR.cons ?_ AllR.nil
 refine A_op (ls' := #[true, true, true, false, true, false, true, true, true, true, false, false, false, false]) rfl (by kernel_rfl) (T_val (v := cv) (x_load1 rfl underlying77 rfl ((Holds.rd H3_ 1 rfl) 1 cv rfl)) ?_)
 refine ⟨⟨Holds.slrd H3_ 2 rfl, (Holds.ro_at H3_ 0 rfl)⟩, ?_⟩
 have hr27_ := Holds.sl_RSw H3_ 2 rfl
 refine A_tk 10 (v := ((slc cv i (List.length cs) 1))) rfl (by kernel_rfl) (fun w hS => x_sliceRS (l := i) (h := (List.length cs)) rfl hr27_ underlying77 z59 (by omega) rfl ⟨_, _, rfl, by omega, by omega, by omega⟩) hq4_ ?_
 refine A_ready (i := 3) (rs := []) (by kernel_rfl) ?_
 refine AllR.cons ?_ AllR.nil
 refine A_op (ls' := #[true, true, true, true, true, false, true, true, true, true, true, false, false, false]) rfl (by kernel_rfl) (T_val (v := cv) (x_load1 rfl underlying77 rfl ((Holds.rd H3_ 1 rfl) 1 cv rfl)) ?_)
 refine ⟨⟨Holds.slrd H3_ 2 rfl, (Holds.ro_at H3_ 0 rfl)⟩, ?_⟩
 refine A_tk 5 (v := ((slc cv 0 i 1))) rfl (by kernel_rfl) (fun w hS => x_sliceRS (l := 0) (h := i) rfl hr27_ underlying77 z59 (by omega) ⟨_, _, rfl, by omega, by omega, by omega⟩ rfl) hq4_ ?_
 refine A_tk 11 (v := (vP (some ⟨a, 1, none⟩))) rfl (by kernel_rfl) (fun w hS => by kernel_rfl) hq4_ ?_
 refine A_ready (i := 12) (rs := []) (by kernel_rfl) ?_
 refine AllR.cons ?_ AllR.nil
 refine A_op0 (ls' := #[true, true, true, true, true, true, true, true, true, true, true, true, true, false]) rfl (by kernel_rfl) (T_store1 (v := ((slc cv 0 i 1))) rfl rfl z77 ho_ H3_ 1 rfl (Nat.le_of_ble_eq_true (by rfl)) ?_)
 intro w28_ S30_ H29_
 have S31_ := Same.trans (Same.trans (Same.refl w) (Same.drew _)) S30_
 refine ⟨⟨Holds.slrd H29_ 2 rfl, (Holds.ro_at H29_ 0 rfl)⟩, ?_⟩
 have hq32_ := And.intro (Holds.slrd H29_ 2 rfl) ((Holds.ro_at H29_ 0 rfl))
 refine A_tk 13 (v := ((slc cv i (List.length cs) 1))) rfl (by kernel_rfl) (fun w hS => x_assign rfl) hq32_ ?_
 refine A_done (by kernel_rfl) ?_
 refine (X_then (hK2_ _ _ ?_))
 refine cR fun _ hK33_ => ?_
 refine sv (v := (vP none)) (x_assign rfl) ?_
 refine wn (hK33_ _ _ ?_)
 refine cR fun _ hK34_ => ?_
 refine sv (v := (vI .i64 0)) (x_assign rfl) ?_
 refine wn (hK34_ _ _ ?_)
 refine C_block ?_
 refine C_loop (γ := Nat × (List Value)) (fun x__ a__ w1__ => match x__ with | ⟨j, Z⟩ => ∃ h : Env, a__ = mkA 29 (upd (upd (upd h 4 ((slc cv i (List.length cs) 1))) 5 (vP none)) 6 (vI .i64 (j : Int))) [] ∧ Holds w1__ (ro R :: cl a 79 [iv, ((slc cv 0 i 1)), pv] :: sl 59 1 cv (List.length cs) Z :: F) ∧ Same w w1__ ∧ (j ≤ cs.length - i) ∧ (Z.length = cs.length) ∧ (Z.take (i * 1) = pBs (cs.take i))) (fun x__ => match x__ with | ⟨j, Z⟩ => cs.length - i - j) (⟨0, (pBs cs)⟩) ⟨_, congrArg (fun e => mkA 29 e []) (ch (ch (ch rfl rfl) rfl) (congrArg (vI .i64) ((by first | rfl | omega | (simp; done) | (simp; omega)) : 0 = (0 : Int)))), H29_, S31_, (Nat.zero_le _), (pbs_len cs), (by rw [Nat.mul_one, pbs_take])⟩ ?_
 rintro ⟨j, Z⟩ _ w35_ ⟨h, rfl, H36_, S37_, hj, hZ, hT⟩
 refine C_seq (fun _ hK38_ => ?_)
 refine cR fun _ hK39_ => ?_
 refine sm (vI .i64 (j : Int)) ?_
 refine sm ((slc cv i (List.length cs) 1)) ?_
 have hr40_ := Holds.sl_RSw H36_ 2 rfl
 refine sv (v := .int .i64 (((List.length cs) - i : Nat) : Int)) (x_lenRS rfl (RS.slc hr40_ (by omega : i ≤ (List.length cs)) (Nat.le_refl _)) underlying77) ?_
 refine sv (v := (vB (decide ((j : Int) < (((List.length cs) - i : Nat) : Int))))) (x_bin rfl rfl rfl) ?_
 refine wn (hK39_ _ _ ?_)
 refine C_cond (b := decide ((j : Int) < (((List.length cs) - i : Nat) : Int))) rfl (fun c41_t => ?_) (fun c41_f => ?_)
 ·have c41_tp : (j : Int) < (((List.length cs) - i : Nat) : Int) := of_decide_eq_true c41_t
  refine C_skip (X_then (hK38_ _ _ ?_))
  refine C_seq (fun _ hK42_ => ?_)
  refine C_block ?_
  refine C_reg ?_
  refine sm ((slc cv i (List.length cs) 1)) ?_
  refine sm (vI .i64 (j : Int)) ?_
  refine sm (vP none) ?_
  refine sv (x_idxSlc (v := cv) (a := i) (m := (List.length cs)) rfl hr40_ rfl underlying77 z59 (by omega) (by omega) (by omega) (by omega : _ = j) (by rw [Nat.mul_one])) ?_
  refine S_list0 (T_storeSl (v := cv) (u := (vP none)) rfl rfl z59 rfl H36_ 2 rfl (by omega) rfl rfl ?_)
  intro w43_ S45_ H44_
  have S46_ := Same.trans S37_ S45_
  refine wpList_nil (X_blkN (X_then (hK42_ _ _ ?_)))
  refine C_reg ?_
  refine sm (vI .i64 (j : Int)) ?_
  refine sv (v := (vI .i64 ((j : Int) + 1))) (x_bin rfl rfl (ib_add (IntWalk.i64_in _ (by omega)))) ?_
  refine sv (v := (vI .i64 ((j : Int) + 1))) (x_assign rfl) ?_
  refine wpList_nil (X_then ?_)
  exact ⟨⟨j + 1, List.set Z (i + j) (vP none)⟩, ⟨_, congrArg (fun e => mkA 29 e []) (ch (ch (ch rfl rfl) rfl) (congrArg (vI .i64) ((by first | rfl | omega | (simp; done) | (simp; omega)) : (j : Int) + 1 = ((j + 1 : Nat) : Int)))), H44_, S46_, (by omega), ((List.length_set ..).trans hZ), ((List.take_set_of_le (by omega)).trans hT)⟩, by first | omega | (dsimp only; omega) | (simp; omega)⟩
 ·have c41_fp : ¬ ((j : Int) < (((List.length cs) - i : Nat) : Int)) := of_decide_eq_false c41_f
  refine C_exit (X_thenX (X_thenX (X_blkHit ?_)))
  refine R_0 rfl ?_
  have H47_ := Holds.sl_trunc (k := i) H36_ 2 rfl (by omega)
  have H48_ := Holds.resl H47_ 2 rfl (hT : List.take (i * 1) Z = pBs (cs.take i)) ((by simp; omega) : i = (List.length (cs.take i)))
  exact ⟨_, _, rfl, ⟨rfl, rfl⟩, S37_, H48_⟩
end Go.Proofs.Ytdfjdmmmlidamaa
set_option linter.unusedVariables false
set_option linter.unusedSimpArgs false
namespace Go.Proofs.Ytdfjdmmmlidamaa
open Go Go.RowKit Gw Try
open Go.Value renaming int → vI, bool → vB, slice → vS, pointer → vP, agg → vA, tuple → vT

/-! ### A node of any height -/
def BT.cv : {h : Nat} → BT h → Value
  | 0, _ => .slice none 0 0
  | _ + 1, t => t.1.cv
def rest (c : Nat) : {h : Nat} → BT h → SP
  | 0, _ => grp []
  | _ + 1, t => grp [sl 59 1 t.1.cv (t.2.map BT.a).length (pBs (t.2.map BT.a)), kids c t.2]
def leafB (t : BN) : BT 0 := t
def nodeB {h : Nat} (t : BN) (ks : List (BT h)) : BT (h + 1) := (t, ks)
section
variable {c h : Nat} {w : World} {l : List SP}
theorem Holds.leafO {t : BN} (H : Holds w (btp c (leafB t) :: l)) : Holds w (cl t.a 79 [t.iv, .slice none 0 0, pB c] :: sl 24 2 t.iv t.xs.length (t.xs.flatMap EL.cells) :: l) := Holds.leaf_out H
theorem Holds.leafI {a : Nat} {iv : Value} {xs : List EL} (H : Holds w (cl a 79 [iv, .slice none 0 0, pB c] :: sl 24 2 iv xs.length (xs.flatMap EL.cells) :: l)) : Holds w (btp c (leafB ⟨a, iv, .slice none 0 0, xs⟩) :: l) := Holds.leaf_in (t := ⟨a, iv, .slice none 0 0, xs⟩) H
theorem Holds.nodeO {t : BN} {ks : List (BT h)} (H : Holds w (btp c (nodeB t ks) :: l)) :
    Holds w (cl t.a 79 [t.iv, t.cv, pB c] :: sl 24 2 t.iv t.xs.length (t.xs.flatMap EL.cells) :: sl 59 1 t.cv (ks.map BT.a).length (pBs (ks.map BT.a)) :: kids c ks :: l) := Holds.node_out H
theorem Holds.nodeI {a : Nat} {iv cv : Value} {xs : List EL} {ks : List (BT h)} (H : Holds w (cl a 79 [iv, cv, pB c] :: sl 24 2 iv xs.length (xs.flatMap EL.cells) :: sl 59 1 cv (ks.map BT.a).length (pBs (ks.map BT.a)) :: kids c ks :: l)) :
    Holds w (btp c (nodeB ⟨a, iv, cv, xs⟩ ks) :: l) := Holds.node_in (t := ⟨a, iv, cv, xs⟩) H
theorem Holds.kids_cut {ks : List (BT h)} (i : Nat) (H : Holds w (kids c ks :: l)) : Holds w (kids c (ks.take i) :: kids c (ks.drop i) :: l) := Holds.kids_split (by rw [List.take_append_drop]; exact H)
theorem Holds.nil_in (H : Holds w l) : Holds w (grp [] :: l) := Holds.grp (l := []) H
theorem Holds.bt_out : ∀ {h : Nat} {k : BT h} {l : List SP}, Holds w (btp c k :: l) → Holds w (cl k.a 79 [k.n.iv, k.cv, pB c] :: sl 24 2 k.n.iv k.n.xs.length (k.n.xs.flatMap EL.cells) :: rest c k :: l)
  | 0, k, l, H => by
    have h1 := Holds.leaf_out H
    exact Sat.cons_map (fun _ q => Sat.cons_map (fun _ q => Sat.grp' (l := []) q) q) h1
  | h + 1, (t, ks), l, H => by
    have h1 := Holds.node_out H
    exact Sat.cons_map (fun _ q => Sat.cons_map (fun _ q => Sat.grp' (l := [_, _]) q) q) h1
theorem Holds.bt_in : ∀ {h : Nat} {k : BT h} {l : List SP}, Holds w (cl k.a 79 [k.n.iv, k.cv, pB c] :: sl 24 2 k.n.iv k.n.xs.length (k.n.xs.flatMap EL.cells) :: rest c k :: l) → Holds w (btp c k :: l)
  | 0, k, l, H => Holds.leaf_in (Sat.cons_map (fun _ q => Sat.cons_map (fun _ q => Sat.ungrp' (l := []) q) q) H)
  | h + 1, (t, ks), l, H => Holds.node_in (Sat.cons_map (fun _ q => Sat.cons_map (fun _ q => Sat.ungrp' (l := [_, _]) q) q) H)
end
theorem kid_a {h : Nat} {ks : List (BT h)} {i : Nat} {k : BT h} (hk : ks[i]? = some k) : (ks.map BT.a)[i]? = some k.a := map_at2 (f := BT.a) hk
theorem kids_set_a {h : Nat} {ks : List (BT h)} {i : Nat} {k k' : BT h} (hk : ks[i]? = some k) (ha : k'.n.a = k.n.a) : (ks.set i k').map BT.a = ks.map BT.a := by
  rw [List.map_set, show BT.a k' = BT.a k from ha]
  obtain ⟨hl, e⟩ := List.getElem?_eq_some_iff.1 hk
  rw [← e]
  have : (ks.map BT.a)[i]'(by simpa using hl) = BT.a ks[i] := List.getElem_map ..
  rw [← this, List.set_getElem_self]
theorem kids_two_a {h : Nat} {ks : List (BT h)} {i : Nat} {k k1 k2 : BT h} (hk : ks[i]? = some k) (ha : k1.n.a = k.n.a) : ((ks.map BT.a).take (i + 1) ++ k2.a :: (ks.map BT.a).drop (i + 1)) = (ks.take i ++ k1 :: k2 :: ks.drop (i + 1)).map BT.a := by
  have h1 : (ks.map BT.a).take (i + 1) = (ks.map BT.a).take i ++ [k1.a] := by rw [List.take_add_one, kid_a hk, show k1.a = k.a from ha]; rfl
  rw [h1]
  simp
theorem at_mid {α : Type _} {xs ys : List α} {i : Nat} {m : α} (h : i ≤ xs.length) : (xs.take i ++ m :: ys)[i]? = some m := by
  rw [List.getElem?_append_right (by rw [List.length_take]; omega), List.length_take, Nat.min_eq_left h, Nat.sub_self]; rfl
theorem at_mid1 {α : Type _} {xs ys : List α} {i : Nat} {m k : α} (h : i ≤ xs.length) : (xs.take i ++ m :: k :: ys)[i + 1]? = some k := by
  rw [List.getElem?_append_right (by rw [List.length_take]; omega), List.length_take, Nat.min_eq_left h, show i + 1 - i = 1 by omega]; rfl
theorem Ins.via {h : Nat} {e o : EL} {b : Bool} {t t2 t' : BT h} (hi : Ins e t2 t' o b) (he : t2.el = t.el) (ha : t2.n.a = t.n.a) : Ins e t t' o b := ⟨hi.w, hi.a.trans ha, he ▸ hi.el, he ▸ hi.t⟩
theorem BT.top_len : ∀ {h : Nat} {k : BT h}, k.Wf → k.n.xs.length ≤ k.el.length
  | 0, _, _ => Nat.le_refl _
  | _ + 1, (t, ks), hw => (inter_sub (xs := t.xs) (ks := ks.map BT.el) (by rw [List.length_map]; exact ((BT.wfS t ks).1 hw).1)).length_le

end Go.Proofs.Ytdfjdmmmlidamaa
set_option linter.unusedVariables false
set_option linter.unusedSimpArgs false
namespace Go.Proofs.Ytdfjdmmmlidamaa
open Go Go.RowKit Gw Try
open Go.Value renaming int → vI, bool → vB, slice → vS, pointer → vP, agg → vA, tuple → vT

set_option maxHeartbeats 1600000 in
theorem btSplit0 (R : HP) (c fl fc : Nat) (fa : Option Addr) (t : BN) (j : Nat) (m : EL) (hj : t.xs[j]? = some m) (hn : t.xs.length ≤ 1000000) :
    Tri Try.prog 37 #[(vP (some ⟨t.a, 0, none⟩)), (vI .i64 (j : Int))] R [btp c (leafB t), cl c 58 [(vP (some ⟨fl, 0, none⟩)), (Value.func (.func 16) #[] #[])], cl fl 74 [(vS fa 0 fc)]] (fun v__ post__ => ∃ (k1 k2 : BT 0), v__ = (vT #[(vA #[(vI .i64 m.key), (vI .i64 m.val)]), (vP (some ⟨k2.a, 0, none⟩))]) ∧ post__ = [btp c k1, btp c k2, cl c 58 [(vP (some ⟨fl, 0, none⟩)), (Value.func (.func 16) #[] #[])], cl fl 74 [(vS fa 0 fc)]] ∧ (Spl (leafB t) k1 k2 m)) := by
 have hjl := (List.getElem?_eq_some_iff.1 hj).1
 refine Tri.into (n := 69) (al := [(vP (some ⟨t.a, 0, none⟩)), (vI .i64 (j : Int))]) func37 rfl ntmps37 rfl rfl fun w F H => ?_
 have H1_ := ((Holds.bring H 1 rfl) :)
 have H2_ := Holds.leafO H1_
 refine cR fun _ hK3_ => ?_
 refine S_list (T_alloc z24 H2_ ?_)
 intro b4_ w5_ S7_ H6_
 have S8_ := Same.trans (Same.refl w) S7_
 refine sv (v := (vP none)) (x_assign rfl) ?_
 refine wn (hK3_ _ _ ?_)
 refine cR fun _ hK9_ => ?_
 refine sm (vP (some ⟨t.a, 0, none⟩)) ?_
 refine sv (v := (vP (some ⟨t.a, 0, none⟩))) (by kernel_rfl) ?_
 refine sv (v := (vP (some ⟨t.a, 0, none⟩))) (by kernel_rfl) ?_
 refine sv (v := t.iv) (x_load1 rfl underlying76 rfl ((Holds.rd H6_ 1 rfl) 0 t.iv rfl)) ?_
 refine sm (vI .i64 (j : Int)) ?_
 have hr10_ := Holds.sl_RSw H6_ 2 rfl
 refine sv (v := (vP (some ⟨(sb t.iv), so t.iv + (j * 2 + 0), none⟩))) (x_idxSlR (v := t.iv) rfl hr10_ rfl underlying76 z24 (by omega) (by omega) (by omega : _ = j) rfl) ?_
 refine sv (v := (vA #[(vI .i64 m.key), (vI .i64 m.val)])) (x_loadN (vs := [(vI .i64 m.key), (vI .i64 m.val)]) rfl underlying24 rfl z24 rfl (SlRd.cells (Holds.slrd H6_ 2 rfl) (j * 2 + 0) (fm_cells EL.len hj (i := 0) rfl))) ?_
 refine S_list (T_alloc z24 H6_ ?_)
 intro b11_ w12_ S14_ H13_
 have S15_ := Same.trans S8_ S14_
 refine S_list0 (T_storeN (vs := [(vI .i64 m.key), (vI .i64 m.val)]) rfl rfl z24 rfl (by simp [Value.oneCell']) H13_ 0 rfl (Nat.le_of_ble_eq_true (by rfl)) ?_)
 intro w16_ S18_ H17_
 have S19_ := Same.trans S15_ S18_
 refine wn (hK9_ _ _ ?_)
 refine cR fun _ hK20_ => ?_
 refine sm (vP (some ⟨t.a, 0, none⟩)) ?_
 refine sv (v := (vP (some ⟨t.a, 0, none⟩))) (by kernel_rfl) ?_
 refine sv (v := (vP (some ⟨t.a, 2, none⟩))) (by kernel_rfl) ?_
 refine sv (v := (vP (some ⟨c, 0, none⟩))) (x_load1 rfl underlying60 rfl ((Holds.rd H17_ 2 rfl) 2 (vP (some ⟨c, 0, none⟩)) rfl)) ?_
 have H23_ := ((Holds.bring (Holds.bring (Holds.bring H17_ 6 rfl) 6 rfl) 6 rfl) :)
 refine S_list (T_call (al := [(vP (some ⟨c, 0, none⟩))]) (pre := [cl c 58 [(vP (some ⟨fl, 0, none⟩)), (Value.func (.func 16) #[] #[])], cl fl 74 [(vS fa 0 fc)]]) rfl rfl cb34 (btNew R c fl fc fa) H23_ ?_)
 rintro v21_ p27_ w24_ ⟨a22_, rfl, rfl⟩ S26_ H25_
 have S28_ := Same.trans S19_ S26_
 refine sv (v := (vP (some ⟨a22_, 0, none⟩))) (x_assign rfl) ?_
 refine wn (hK20_ _ _ ?_)
 refine C_seq (fun _ hK29_ => ?_)
 refine A_start (S := fun w => Rd c [(vP (some ⟨fl, 0, none⟩)), (Value.func (.func 16) #[] #[])] w ∧ Rd fl [(vS fa 0 fc)] w ∧ Rd t.a [t.iv, (vS none 0 0), (vP (some ⟨c, 0, none⟩))] w ∧ SlRd t.iv (t.xs.flatMap EL.cells) w ∧ Sub R (hp w)) (N := 16) foll rfl rfl ?_
 have H30_ := Holds.drew_ H25_
 have hq31_ := And.intro (Holds.rd H30_ 2 rfl) (And.intro (Holds.rd H30_ 3 rfl) (And.intro (Holds.rd H30_ 6 rfl) (And.intro (Holds.slrd H30_ 7 rfl) ((Holds.ro_at H30_ 0 rfl)))))
 refine A_tk 0 (v := (vP (some ⟨a22_, 0, none⟩))) rfl (by kernel_rfl) (fun w hS => x_move rfl) hq31_ ?_
 refine A_tk 1 (v := (vP (some ⟨a22_, 0, none⟩))) rfl (by kernel_rfl) (fun w hS => x_move rfl) hq31_ ?_
 refine A_tk 2 (v := (vP (some ⟨a22_, 0, none⟩))) rfl (by kernel_rfl) (fun w hS => by kernel_rfl) hq31_ ?_
 refine A_tk 3 (v := (vP (some ⟨a22_, 0, none⟩))) rfl (by kernel_rfl) (fun w hS => by kernel_rfl) hq31_ ?_
 refine A_tk 5 (v := (vP (some ⟨t.a, 0, none⟩))) rfl (by kernel_rfl) (fun w hS => x_move rfl) hq31_ ?_
 refine A_tk 6 (v := (vP (some ⟨t.a, 0, none⟩))) rfl (by kernel_rfl) (fun w hS => by kernel_rfl) hq31_ ?_
 refine A_tk 7 (v := (vP (some ⟨t.a, 0, none⟩))) rfl (by kernel_rfl) (fun w hS => by kernel_rfl) hq31_ ?_
 refine A_tk 8 (v := t.iv) rfl (by kernel_rfl) (fun w hS => x_load1 rfl underlying76 rfl (hS.2.2.1 0 t.iv rfl)) hq31_ ?_
 refine A_tk 9 (v := (vI .i64 (j : Int))) rfl (by kernel_rfl) (fun w hS => x_move rfl) hq31_ ?_
 refine A_tk 10 (v := (vI .i64 ((j : Int) + 1))) rfl (by kernel_rfl) (fun w hS => x_bin rfl rfl (ib_add (IntWalk.i64_in _ (by omega)))) hq31_ ?_
 refine A_tk 11 (v := ((slc t.iv (j + 1) (List.length t.xs) 2))) rfl (by kernel_rfl) (fun w hS => x_sliceRS (l := j + 1) (h := (List.length t.xs)) rfl hr10_ underlying76 z24 (by omega) rfl ⟨_, _, rfl, by omega, by omega, by omega⟩) hq31_ ?_
 refine A_ready (i := 4) (rs := []) (by kernel_rfl) ?_
 refine AllR.cons ?_ AllR.nil
 refine A_op (ls' := #[true, true, true, true, true, true, true, true, true, true, true, true, false, false, false, false]) rfl (by kernel_rfl) (T_val (v := (vS none 0 0)) (x_load1 rfl underlying76 rfl ((Holds.rd H30_ 1 rfl) 0 (vS none 0 0) rfl)) ?_)
 refine ⟨⟨Holds.rd H30_ 2 rfl, Holds.rd H30_ 3 rfl, Holds.rd H30_ 6 rfl, Holds.slrd H30_ 7 rfl, (Holds.ro_at H30_ 0 rfl)⟩, ?_⟩
 refine A_ready (i := 12) (rs := []) (by kernel_rfl) ?_
 refine AllR.cons ?_ AllR.nil
 have H32_ : Holds w24_.drew (sl 24 2 (.slice none 0 0) 0 [] :: ro R :: cl a22_ 79 [(vS none 0 0), (vS none 0 0), (vP (some ⟨c, 0, none⟩))] :: cl c 58 [(vP (some ⟨fl, 0, none⟩)), (Value.func (.func 16) #[] #[])] :: cl fl 74 [(vS fa 0 fc)] :: cl b11_ 24 [(vI .i64 m.key), (vI .i64 m.val)] :: cl b4_ 24 [(vI .i64 0), (vI .i64 0)] :: cl t.a 79 [t.iv, (vS none 0 0), (vP (some ⟨c, 0, none⟩))] :: sl 24 2 t.iv (List.length t.xs) (t.xs.flatMap EL.cells) :: F) := Holds.add_nil H30_ 24 2
 have H33_ : Holds w24_.drew (sl 24 2 (.slice none 0 0) 0 [] :: sl 24 2 (.slice none 0 0) 0 [] :: ro R :: cl a22_ 79 [(vS none 0 0), (vS none 0 0), (vP (some ⟨c, 0, none⟩))] :: cl c 58 [(vP (some ⟨fl, 0, none⟩)), (Value.func (.func 16) #[] #[])] :: cl fl 74 [(vS fa 0 fc)] :: cl b11_ 24 [(vI .i64 m.key), (vI .i64 m.val)] :: cl b4_ 24 [(vI .i64 0), (vI .i64 0)] :: cl t.a 79 [t.iv, (vS none 0 0), (vP (some ⟨c, 0, none⟩))] :: sl 24 2 t.iv (List.length t.xs) (t.xs.flatMap EL.cells) :: F) := Holds.add_nil H32_ 24 2
 refine A_op (ls' := #[true, true, true, true, true, true, true, true, true, true, true, true, true, false, false, false]) rfl (by kernel_rfl) (T_append rfl rfl underlying76 z24 rfl (by decide) H33_ 0 rfl (Holds.sl_srcD H32_ 8 rfl (by omega) underlying76 (el_one _)) (by first | omega | (simp only [List.length_append, List.length_cons, List.length_nil]; omega)) ?_)
 intro v34_ w35_ S37_ H36_
 have S38_ := Same.trans (Same.trans S28_ (Same.drew _)) S37_
 refine ⟨⟨Holds.rd H36_ 4 rfl, Holds.rd H36_ 5 rfl, Holds.rd H36_ 8 rfl, Holds.slrd H36_ 9 rfl, (Holds.ro_at H36_ 2 rfl)⟩, ?_⟩
 have hq39_ := And.intro (Holds.rd H36_ 4 rfl) (And.intro (Holds.rd H36_ 5 rfl) (And.intro (Holds.rd H36_ 8 rfl) (And.intro (Holds.slrd H36_ 9 rfl) ((Holds.ro_at H36_ 2 rfl)))))
 refine A_tk 13 (v := (vP (some ⟨a22_, 0, none⟩))) rfl (by kernel_rfl) (fun w hS => by kernel_rfl) hq39_ ?_
 refine A_tk 14 (v := (vP (some ⟨a22_, 0, none⟩))) rfl (by kernel_rfl) (fun w hS => by kernel_rfl) hq39_ ?_
 refine A_ready (i := 15) (rs := []) (by kernel_rfl) ?_
 refine AllR.cons ?_ AllR.nil
 refine A_op0 (ls' := #[true, true, true, true, true, true, true, true, true, true, true, true, true, true, true, true]) rfl (by kernel_rfl) (T_store1 (v := v34_) rfl rfl z76 (Holds.sl_one H36_ 0 rfl) H36_ 3 rfl (Nat.le_of_ble_eq_true (by rfl)) ?_)
 intro w40_ S42_ H41_
 have S43_ := Same.trans S38_ S42_
 refine ⟨⟨Holds.rd H41_ 4 rfl, Holds.rd H41_ 5 rfl, Holds.rd H41_ 8 rfl, Holds.slrd H41_ 9 rfl, (Holds.ro_at H41_ 2 rfl)⟩, ?_⟩
 refine A_done (by kernel_rfl) ?_
 refine (X_then (hK29_ _ _ ?_))
 refine cR fun _ hK44_ => ?_
 refine sm (vP (some ⟨t.a, 0, none⟩)) ?_
 refine sv (v := (vP (some ⟨t.a, 0, none⟩))) (by kernel_rfl) ?_
 refine sv (v := (vP (some ⟨t.a, 0, none⟩))) (by kernel_rfl) ?_
 refine sm (vI .i64 (j : Int)) ?_
 have H46_ := ((Holds.bring (Holds.bring (Holds.bring H41_ 9 rfl) 9 rfl) 4 rfl) :)
 refine S_list (T_call (al := [(vP (some ⟨t.a, 0, none⟩)), (vI .i64 (j : Int))]) (pre := [cl t.a 79 [t.iv, (vS none 0 0), (vP (some ⟨c, 0, none⟩))], sl 24 2 t.iv (List.length t.xs) (t.xs.flatMap EL.cells)]) rfl rfl cb54 (btTruncE R t.a j t.iv (vS none 0 0) (vP (some ⟨c, 0, none⟩)) t.xs (by first | assumption | omega) (by first | assumption | omega)) H46_ ?_)
 rintro v45_ p50_ w47_ ⟨rfl, rfl⟩ S49_ H48_
 have S51_ := Same.trans S43_ S49_
 refine wn (hK44_ _ _ ?_)
 refine C_seq (fun _ hK52_ => ?_)
 refine cR fun _ hK53_ => ?_
 refine sm (vP (some ⟨t.a, 0, none⟩)) ?_
 refine sv (v := (vP (some ⟨t.a, 0, none⟩))) (by kernel_rfl) ?_
 refine sv (v := (vP (some ⟨t.a, 1, none⟩))) (by kernel_rfl) ?_
 refine sv (v := (vS none 0 0)) (x_load1 rfl underlying77 rfl ((Holds.rd H48_ 1 rfl) 1 (vS none 0 0) rfl)) ?_
 refine sv (v := (vI .i64 0)) (x_lenS rfl underlying77) ?_
 refine sv (v := (vB false)) (x_bin rfl rfl rfl) ?_
 refine wn (hK53_ _ _ ?_)
 refine C_condF rfl ?_
 refine C_skip (X_then (hK52_ _ _ ?_))
 refine cR fun _ hK54_ => ?_
 refine sv (v := (vA #[(vI .i64 m.key), (vI .i64 m.val)])) (x_loadN (vs := [(vI .i64 m.key), (vI .i64 m.val)]) rfl underlying24 rfl z24 rfl (Rd.cells (Holds.rd H48_ 8 rfl) 0 rfl)) ?_
 refine sm (vP (some ⟨a22_, 0, none⟩)) ?_
 refine S_list0 (T_storeN (vs := [(vI .i64 m.key), (vI .i64 m.val)]) rfl rfl z24 rfl (by simp [Value.oneCell']) H48_ 9 rfl (Nat.le_of_ble_eq_true (by rfl)) ?_)
 intro w55_ S57_ H56_
 have S58_ := Same.trans S51_ S57_
 refine sv (v := (vP (some ⟨a22_, 0, none⟩))) (x_assign rfl) ?_
 refine wn (hK54_ _ _ ?_)
 refine C_ret ?_
 refine R_any (v := (vT #[(vA #[(vI .i64 m.key), (vI .i64 m.val)]), (vP (some ⟨a22_, 0, none⟩))])) (run_results2 rfl ⟨_, rfl, load_resN underlying24 rfl z24 rfl (vs := [(vI .i64 m.key), (vI .i64 m.val)]) (Holds.cl_cells H56_ 9 rfl 0 rfl)⟩ rfl) ?_
 have H59_ := Holds.resl H56_ 3 rfl (by rw [List.nil_append, fr_drop EL.len, List.take_of_length_le (by rw [fr_len EL.len, List.length_drop]; exact Nat.le_refl _)] : [] ++ (List.take (((List.length t.xs) - (j + 1)) * 2) (List.drop ((j + 1) * 2) (t.xs.flatMap EL.cells))) = (t.xs.drop (j + 1)).flatMap EL.cells) (by first | (simp; done) | (simp; omega) : 0 + ((List.length t.xs) - (j + 1)) = (List.length (t.xs.drop (j + 1))))
 have H60_ := ((Holds.bring (Holds.bring H59_ 3 rfl) 5 rfl) :)
 have H61_ := Holds.leafI H60_
 have H62_ := ((Holds.bring (Holds.bring H61_ 3 rfl) 3 rfl) :)
 have H63_ := Holds.leafI H62_
 have H64_ := Holds.pkF H63_ [2, 0, 0, 1, 1] 3
 exact ⟨_, _, rfl, ⟨(leafB ⟨t.a, ((slc t.iv 0 j 2)), (vS none 0 0), (t.xs.take j)⟩), (leafB ⟨a22_, v34_, (vS none 0 0), (t.xs.drop (j + 1))⟩), (congrArg (fun l => vT (List.toArray l)) (lcons rfl (lcons ((by first | rfl | omega | (simp; done) | (simp; omega)) : (vP (some ⟨a22_, 0, none⟩)) = (vP (some ⟨(leafB ⟨a22_, v34_, (vS none 0 0), (t.xs.drop (j + 1))⟩).a, 0, none⟩))) rfl))), rfl, (spl_leaf (t := t) hj)⟩, S58_, H64_⟩

set_option maxHeartbeats 1600000 in
theorem btSplitS (R : HP) (c fl fc : Nat) (fa : Option Addr) (h : Nat) (t : BN) (ks : List (BT h)) (j : Nat) (m : EL) (hw : (nodeB t ks).Wf) (hj : t.xs[j]? = some m) (hn : t.xs.length ≤ 1000000) :
    Tri Try.prog 37 #[(vP (some ⟨t.a, 0, none⟩)), (vI .i64 (j : Int))] R [btp c (nodeB t ks), cl c 58 [(vP (some ⟨fl, 0, none⟩)), (Value.func (.func 16) #[] #[])], cl fl 74 [(vS fa 0 fc)]] (fun v__ post__ => ∃ (k1 k2 : BT (h + 1)), v__ = (vT #[(vA #[(vI .i64 m.key), (vI .i64 m.val)]), (vP (some ⟨k2.a, 0, none⟩))]) ∧ post__ = [btp c k1, btp c k2, cl c 58 [(vP (some ⟨fl, 0, none⟩)), (Value.func (.func 16) #[] #[])], cl fl 74 [(vS fa 0 fc)]] ∧ (Spl (nodeB t ks) k1 k2 m)) := by
 have hjl := (List.getElem?_eq_some_iff.1 hj).1
 have hkl := ((BT.wfS t ks).1 hw).1
 have hkm : (ks.map BT.a).length = ks.length := List.length_map ..
 refine Tri.into (n := 69) (al := [(vP (some ⟨t.a, 0, none⟩)), (vI .i64 (j : Int))]) func37 rfl ntmps37 rfl rfl fun w F H => ?_
 have H1_ := ((Holds.bring H 1 rfl) :)
 have H2_ := Holds.nodeO H1_
 refine cR fun _ hK3_ => ?_
 refine S_list (T_alloc z24 H2_ ?_)
 intro b4_ w5_ S7_ H6_
 have S8_ := Same.trans (Same.refl w) S7_
 refine sv (v := (vP none)) (x_assign rfl) ?_
 refine wn (hK3_ _ _ ?_)
 refine cR fun _ hK9_ => ?_
 refine sm (vP (some ⟨t.a, 0, none⟩)) ?_
 refine sv (v := (vP (some ⟨t.a, 0, none⟩))) (by kernel_rfl) ?_
 refine sv (v := (vP (some ⟨t.a, 0, none⟩))) (by kernel_rfl) ?_
 refine sv (v := t.iv) (x_load1 rfl underlying76 rfl ((Holds.rd H6_ 1 rfl) 0 t.iv rfl)) ?_
 refine sm (vI .i64 (j : Int)) ?_
 have hr10_ := Holds.sl_RSw H6_ 2 rfl
 refine sv (v := (vP (some ⟨(sb t.iv), so t.iv + (j * 2 + 0), none⟩))) (x_idxSlR (v := t.iv) rfl hr10_ rfl underlying76 z24 (by omega) (by omega) (by omega : _ = j) rfl) ?_
 refine sv (v := (vA #[(vI .i64 m.key), (vI .i64 m.val)])) (x_loadN (vs := [(vI .i64 m.key), (vI .i64 m.val)]) rfl underlying24 rfl z24 rfl (SlRd.cells (Holds.slrd H6_ 2 rfl) (j * 2 + 0) (fm_cells EL.len hj (i := 0) rfl))) ?_
 refine S_list (T_alloc z24 H6_ ?_)
 intro b11_ w12_ S14_ H13_
 have S15_ := Same.trans S8_ S14_
 refine S_list0 (T_storeN (vs := [(vI .i64 m.key), (vI .i64 m.val)]) rfl rfl z24 rfl (by simp [Value.oneCell']) H13_ 0 rfl (Nat.le_of_ble_eq_true (by rfl)) ?_)
 intro w16_ S18_ H17_
 have S19_ := Same.trans S15_ S18_
 refine wn (hK9_ _ _ ?_)
 refine cR fun _ hK20_ => ?_
 refine sm (vP (some ⟨t.a, 0, none⟩)) ?_
 refine sv (v := (vP (some ⟨t.a, 0, none⟩))) (by kernel_rfl) ?_
 refine sv (v := (vP (some ⟨t.a, 2, none⟩))) (by kernel_rfl) ?_
 refine sv (v := (vP (some ⟨c, 0, none⟩))) (x_load1 rfl underlying60 rfl ((Holds.rd H17_ 2 rfl) 2 (vP (some ⟨c, 0, none⟩)) rfl)) ?_
 have H23_ := ((Holds.bring (Holds.bring (Holds.bring H17_ 8 rfl) 8 rfl) 8 rfl) :)
 refine S_list (T_call (al := [(vP (some ⟨c, 0, none⟩))]) (pre := [cl c 58 [(vP (some ⟨fl, 0, none⟩)), (Value.func (.func 16) #[] #[])], cl fl 74 [(vS fa 0 fc)]]) rfl rfl cb34 (btNew R c fl fc fa) H23_ ?_)
 rintro v21_ p27_ w24_ ⟨a22_, rfl, rfl⟩ S26_ H25_
 have S28_ := Same.trans S19_ S26_
 refine sv (v := (vP (some ⟨a22_, 0, none⟩))) (x_assign rfl) ?_
 refine wn (hK20_ _ _ ?_)
 refine C_seq (fun _ hK29_ => ?_)
 refine A_start (S := fun w => Rd c [(vP (some ⟨fl, 0, none⟩)), (Value.func (.func 16) #[] #[])] w ∧ Rd fl [(vS fa 0 fc)] w ∧ Rd t.a [t.iv, t.cv, (vP (some ⟨c, 0, none⟩))] w ∧ SlRd t.iv (t.xs.flatMap EL.cells) w ∧ SlRd t.cv (pBs (ks.map BT.a)) w ∧ Sub R (hp w)) (N := 16) foll rfl rfl ?_
 have H30_ := Holds.drew_ H25_
 have hq31_ := And.intro (Holds.rd H30_ 2 rfl) (And.intro (Holds.rd H30_ 3 rfl) (And.intro (Holds.rd H30_ 6 rfl) (And.intro (Holds.slrd H30_ 7 rfl) (And.intro (Holds.slrd H30_ 8 rfl) ((Holds.ro_at H30_ 0 rfl))))))
 refine A_tk 0 (v := (vP (some ⟨a22_, 0, none⟩))) rfl (by kernel_rfl) (fun w hS => x_move rfl) hq31_ ?_
 refine A_tk 1 (v := (vP (some ⟨a22_, 0, none⟩))) rfl (by kernel_rfl) (fun w hS => x_move rfl) hq31_ ?_
 refine A_tk 2 (v := (vP (some ⟨a22_, 0, none⟩))) rfl (by kernel_rfl) (fun w hS => by kernel_rfl) hq31_ ?_
 refine A_tk 3 (v := (vP (some ⟨a22_, 0, none⟩))) rfl (by kernel_rfl) (fun w hS => by kernel_rfl) hq31_ ?_
 refine A_tk 5 (v := (vP (some ⟨t.a, 0, none⟩))) rfl (by kernel_rfl) (fun w hS => x_move rfl) hq31_ ?_
 refine A_tk 6 (v := (vP (some ⟨t.a, 0, none⟩))) rfl (by kernel_rfl) (fun w hS => by kernel_rfl) hq31_ ?_
 refine A_tk 7 (v := (vP (some ⟨t.a, 0, none⟩))) rfl (by kernel_rfl) (fun w hS => by kernel_rfl) hq31_ ?_
 refine A_tk 8 (v := t.iv) rfl (by kernel_rfl) (fun w hS => x_load1 rfl underlying76 rfl (hS.2.2.1 0 t.iv rfl)) hq31_ ?_
 refine A_tk 9 (v := (vI .i64 (j : Int))) rfl (by kernel_rfl) (fun w hS => x_move rfl) hq31_ ?_
 refine A_tk 10 (v := (vI .i64 ((j : Int) + 1))) rfl (by kernel_rfl) (fun w hS => x_bin rfl rfl (ib_add (IntWalk.i64_in _ (by omega)))) hq31_ ?_
 refine A_tk 11 (v := ((slc t.iv (j + 1) (List.length t.xs) 2))) rfl (by kernel_rfl) (fun w hS => x_sliceRS (l := j + 1) (h := (List.length t.xs)) rfl hr10_ underlying76 z24 (by omega) rfl ⟨_, _, rfl, by omega, by omega, by omega⟩) hq31_ ?_
 refine A_ready (i := 4) (rs := []) (by kernel_rfl) ?_
 refine AllR.cons ?_ AllR.nil
 refine A_op (ls' := #[true, true, true, true, true, true, true, true, true, true, true, true, false, false, false, false]) rfl (by kernel_rfl) (T_val (v := (vS none 0 0)) (x_load1 rfl underlying76 rfl ((Holds.rd H30_ 1 rfl) 0 (vS none 0 0) rfl)) ?_)
 refine ⟨⟨Holds.rd H30_ 2 rfl, Holds.rd H30_ 3 rfl, Holds.rd H30_ 6 rfl, Holds.slrd H30_ 7 rfl, Holds.slrd H30_ 8 rfl, (Holds.ro_at H30_ 0 rfl)⟩, ?_⟩
 refine A_ready (i := 12) (rs := []) (by kernel_rfl) ?_
 refine AllR.cons ?_ AllR.nil
 have H32_ : Holds w24_.drew (sl 24 2 (.slice none 0 0) 0 [] :: ro R :: cl a22_ 79 [(vS none 0 0), (vS none 0 0), (vP (some ⟨c, 0, none⟩))] :: cl c 58 [(vP (some ⟨fl, 0, none⟩)), (Value.func (.func 16) #[] #[])] :: cl fl 74 [(vS fa 0 fc)] :: cl b11_ 24 [(vI .i64 m.key), (vI .i64 m.val)] :: cl b4_ 24 [(vI .i64 0), (vI .i64 0)] :: cl t.a 79 [t.iv, t.cv, (vP (some ⟨c, 0, none⟩))] :: sl 24 2 t.iv (List.length t.xs) (t.xs.flatMap EL.cells) :: sl 59 1 t.cv (List.length (ks.map BT.a)) (pBs (ks.map BT.a)) :: kids c ks :: F) := Holds.add_nil H30_ 24 2
 have H33_ : Holds w24_.drew (sl 24 2 (.slice none 0 0) 0 [] :: sl 24 2 (.slice none 0 0) 0 [] :: ro R :: cl a22_ 79 [(vS none 0 0), (vS none 0 0), (vP (some ⟨c, 0, none⟩))] :: cl c 58 [(vP (some ⟨fl, 0, none⟩)), (Value.func (.func 16) #[] #[])] :: cl fl 74 [(vS fa 0 fc)] :: cl b11_ 24 [(vI .i64 m.key), (vI .i64 m.val)] :: cl b4_ 24 [(vI .i64 0), (vI .i64 0)] :: cl t.a 79 [t.iv, t.cv, (vP (some ⟨c, 0, none⟩))] :: sl 24 2 t.iv (List.length t.xs) (t.xs.flatMap EL.cells) :: sl 59 1 t.cv (List.length (ks.map BT.a)) (pBs (ks.map BT.a)) :: kids c ks :: F) := Holds.add_nil H32_ 24 2
 refine A_op (ls' := #[true, true, true, true, true, true, true, true, true, true, true, true, true, false, false, false]) rfl (by kernel_rfl) (T_append rfl rfl underlying76 z24 rfl (by decide) H33_ 0 rfl (Holds.sl_srcD H32_ 8 rfl (by omega) underlying76 (el_one _)) (by first | omega | (simp only [List.length_append, List.length_cons, List.length_nil]; omega)) ?_)
 intro v34_ w35_ S37_ H36_
 have S38_ := Same.trans (Same.trans S28_ (Same.drew _)) S37_
 refine ⟨⟨Holds.rd H36_ 4 rfl, Holds.rd H36_ 5 rfl, Holds.rd H36_ 8 rfl, Holds.slrd H36_ 9 rfl, Holds.slrd H36_ 10 rfl, (Holds.ro_at H36_ 2 rfl)⟩, ?_⟩
 have hq39_ := And.intro (Holds.rd H36_ 4 rfl) (And.intro (Holds.rd H36_ 5 rfl) (And.intro (Holds.rd H36_ 8 rfl) (And.intro (Holds.slrd H36_ 9 rfl) (And.intro (Holds.slrd H36_ 10 rfl) ((Holds.ro_at H36_ 2 rfl))))))
 refine A_tk 13 (v := (vP (some ⟨a22_, 0, none⟩))) rfl (by kernel_rfl) (fun w hS => by kernel_rfl) hq39_ ?_
 refine A_tk 14 (v := (vP (some ⟨a22_, 0, none⟩))) rfl (by kernel_rfl) (fun w hS => by kernel_rfl) hq39_ ?_
 refine A_ready (i := 15) (rs := []) (by kernel_rfl) ?_
 refine AllR.cons ?_ AllR.nil
 refine A_op0 (ls' := #[true, true, true, true, true, true, true, true, true, true, true, true, true, true, true, true]) rfl (by kernel_rfl) (T_store1 (v := v34_) rfl rfl z76 (Holds.sl_one H36_ 0 rfl) H36_ 3 rfl (Nat.le_of_ble_eq_true (by rfl)) ?_)
 intro w40_ S42_ H41_
 have S43_ := Same.trans S38_ S42_
 refine ⟨⟨Holds.rd H41_ 4 rfl, Holds.rd H41_ 5 rfl, Holds.rd H41_ 8 rfl, Holds.slrd H41_ 9 rfl, Holds.slrd H41_ 10 rfl, (Holds.ro_at H41_ 2 rfl)⟩, ?_⟩
 refine A_done (by kernel_rfl) ?_
 refine (X_then (hK29_ _ _ ?_))
 refine cR fun _ hK44_ => ?_
 refine sm (vP (some ⟨t.a, 0, none⟩)) ?_
 refine sv (v := (vP (some ⟨t.a, 0, none⟩))) (by kernel_rfl) ?_
 refine sv (v := (vP (some ⟨t.a, 0, none⟩))) (by kernel_rfl) ?_
 refine sm (vI .i64 (j : Int)) ?_
 have H46_ := ((Holds.bring (Holds.bring (Holds.bring H41_ 9 rfl) 9 rfl) 4 rfl) :)
 refine S_list (T_call (al := [(vP (some ⟨t.a, 0, none⟩)), (vI .i64 (j : Int))]) (pre := [cl t.a 79 [t.iv, t.cv, (vP (some ⟨c, 0, none⟩))], sl 24 2 t.iv (List.length t.xs) (t.xs.flatMap EL.cells)]) rfl rfl cb54 (btTruncE R t.a j t.iv t.cv (vP (some ⟨c, 0, none⟩)) t.xs (by first | assumption | omega) (by first | assumption | omega)) H46_ ?_)
 rintro v45_ p50_ w47_ ⟨rfl, rfl⟩ S49_ H48_
 have S51_ := Same.trans S43_ S49_
 refine wn (hK44_ _ _ ?_)
 refine C_seq (fun _ hK52_ => ?_)
 refine cR fun _ hK53_ => ?_
 refine sm (vP (some ⟨t.a, 0, none⟩)) ?_
 refine sv (v := (vP (some ⟨t.a, 0, none⟩))) (by kernel_rfl) ?_
 refine sv (v := (vP (some ⟨t.a, 1, none⟩))) (by kernel_rfl) ?_
 refine sv (v := t.cv) (x_load1 rfl underlying77 rfl ((Holds.rd H48_ 1 rfl) 1 t.cv rfl)) ?_
 refine sv (v := (vI .i64 ((List.length (ks.map BT.a)) : Int))) (x_lenSl rfl H48_ 10 rfl underlying77) ?_
 refine sv (v := (vB (decide (0 < ((List.length (ks.map BT.a)) : Int))))) (x_bin rfl rfl rfl) ?_
 refine wn (hK53_ _ _ ?_)
 refine C_cond (b := decide (0 < ((List.length (ks.map BT.a)) : Int))) rfl (fun c54_t => ?_) (fun c54_f => ?_)
 ·have c54_tp : 0 < ((List.length (ks.map BT.a)) : Int) := of_decide_eq_true c54_t
  refine C_seq (fun _ hK55_ => ?_)
  refine A_start (S := fun w => Rd t.a [((slc t.iv 0 j 2)), t.cv, (vP (some ⟨c, 0, none⟩))] w ∧ SlRd (slc t.iv 0 j 2) ((t.xs.take j).flatMap EL.cells) w ∧ SlRd v34_ ([] ++ (List.take (((List.length t.xs) - (j + 1)) * 2) (List.drop ((j + 1) * 2) (t.xs.flatMap EL.cells)))) w ∧ SlRd (.slice none 0 0) [] w ∧ Rd c [(vP (some ⟨fl, 0, none⟩)), (Value.func (.func 16) #[] #[])] w ∧ Rd fl [(vS fa 0 fc)] w ∧ SlRd t.cv (pBs (ks.map BT.a)) w ∧ Sub R (hp w)) (N := 16) foll rfl rfl ?_
  have H56_ := Holds.drew_ H48_
  have hq57_ := And.intro (Holds.rd H56_ 1 rfl) (And.intro (Holds.slrd H56_ 2 rfl) (And.intro (Holds.slrd H56_ 3 rfl) (And.intro (Holds.slrd H56_ 4 rfl) (And.intro (Holds.rd H56_ 6 rfl) (And.intro (Holds.rd H56_ 7 rfl) (And.intro (Holds.slrd H56_ 10 rfl) ((Holds.ro_at H56_ 0 rfl))))))))
  refine A_tk 0 (v := (vP (some ⟨a22_, 0, none⟩))) rfl (by kernel_rfl) (fun w hS => x_move rfl) hq57_ ?_
  refine A_tk 1 (v := (vP (some ⟨a22_, 0, none⟩))) rfl (by kernel_rfl) (fun w hS => x_move rfl) hq57_ ?_
  refine A_tk 2 (v := (vP (some ⟨a22_, 0, none⟩))) rfl (by kernel_rfl) (fun w hS => by kernel_rfl) hq57_ ?_
  refine A_tk 3 (v := (vP (some ⟨a22_, 1, none⟩))) rfl (by kernel_rfl) (fun w hS => by kernel_rfl) hq57_ ?_
  refine A_tk 5 (v := (vP (some ⟨t.a, 0, none⟩))) rfl (by kernel_rfl) (fun w hS => x_move rfl) hq57_ ?_
  refine A_tk 6 (v := (vP (some ⟨t.a, 0, none⟩))) rfl (by kernel_rfl) (fun w hS => by kernel_rfl) hq57_ ?_
  refine A_tk 7 (v := (vP (some ⟨t.a, 1, none⟩))) rfl (by kernel_rfl) (fun w hS => by kernel_rfl) hq57_ ?_
  refine A_tk 8 (v := t.cv) rfl (by kernel_rfl) (fun w hS => x_load1 rfl underlying77 rfl (hS.1 1 t.cv rfl)) hq57_ ?_
  refine A_tk 9 (v := (vI .i64 (j : Int))) rfl (by kernel_rfl) (fun w hS => x_move rfl) hq57_ ?_
  refine A_tk 10 (v := (vI .i64 ((j : Int) + 1))) rfl (by kernel_rfl) (fun w hS => x_bin rfl rfl (ib_add (IntWalk.i64_in _ (by omega)))) hq57_ ?_
  have hr58_ := Holds.sl_RSw H56_ 10 rfl
  refine A_tk 11 (v := ((slc t.cv (j + 1) (List.length (ks.map BT.a)) 1))) rfl (by kernel_rfl) (fun w hS => x_sliceRS (l := j + 1) (h := (List.length (ks.map BT.a))) rfl hr58_ underlying77 z59 (by omega) rfl ⟨_, _, rfl, by omega, by omega, by omega⟩) hq57_ ?_
  refine A_ready (i := 4) (rs := []) (by kernel_rfl) ?_
  refine AllR.cons ?_ AllR.nil
  refine A_op (ls' := #[true, true, true, true, true, true, true, true, true, true, true, true, false, false, false, false]) rfl (by kernel_rfl) (T_val (v := (vS none 0 0)) (x_load1 rfl underlying77 rfl ((Holds.rd H56_ 5 rfl) 1 (vS none 0 0) rfl)) ?_)
  refine ⟨⟨Holds.rd H56_ 1 rfl, Holds.slrd H56_ 2 rfl, Holds.slrd H56_ 3 rfl, Holds.slrd H56_ 4 rfl, Holds.rd H56_ 6 rfl, Holds.rd H56_ 7 rfl, Holds.slrd H56_ 10 rfl, (Holds.ro_at H56_ 0 rfl)⟩, ?_⟩
  refine A_ready (i := 12) (rs := []) (by kernel_rfl) ?_
  refine AllR.cons ?_ AllR.nil
  have H59_ : Holds w47_.drew (sl 59 1 (.slice none 0 0) 0 [] :: ro R :: cl t.a 79 [((slc t.iv 0 j 2)), t.cv, (vP (some ⟨c, 0, none⟩))] :: sl 24 2 (slc t.iv 0 j 2) (List.length (t.xs.take j)) ((t.xs.take j).flatMap EL.cells) :: sl 24 2 v34_ (0 + ((List.length t.xs) - (j + 1))) ([] ++ (List.take (((List.length t.xs) - (j + 1)) * 2) (List.drop ((j + 1) * 2) (t.xs.flatMap EL.cells)))) :: sl 24 2 (.slice none 0 0) 0 [] :: cl a22_ 79 [v34_, (vS none 0 0), (vP (some ⟨c, 0, none⟩))] :: cl c 58 [(vP (some ⟨fl, 0, none⟩)), (Value.func (.func 16) #[] #[])] :: cl fl 74 [(vS fa 0 fc)] :: cl b11_ 24 [(vI .i64 m.key), (vI .i64 m.val)] :: cl b4_ 24 [(vI .i64 0), (vI .i64 0)] :: sl 59 1 t.cv (List.length (ks.map BT.a)) (pBs (ks.map BT.a)) :: kids c ks :: F) := Holds.add_nil H56_ 59 1
  have H60_ : Holds w47_.drew (sl 59 1 (.slice none 0 0) 0 [] :: sl 59 1 (.slice none 0 0) 0 [] :: ro R :: cl t.a 79 [((slc t.iv 0 j 2)), t.cv, (vP (some ⟨c, 0, none⟩))] :: sl 24 2 (slc t.iv 0 j 2) (List.length (t.xs.take j)) ((t.xs.take j).flatMap EL.cells) :: sl 24 2 v34_ (0 + ((List.length t.xs) - (j + 1))) ([] ++ (List.take (((List.length t.xs) - (j + 1)) * 2) (List.drop ((j + 1) * 2) (t.xs.flatMap EL.cells)))) :: sl 24 2 (.slice none 0 0) 0 [] :: cl a22_ 79 [v34_, (vS none 0 0), (vP (some ⟨c, 0, none⟩))] :: cl c 58 [(vP (some ⟨fl, 0, none⟩)), (Value.func (.func 16) #[] #[])] :: cl fl 74 [(vS fa 0 fc)] :: cl b11_ 24 [(vI .i64 m.key), (vI .i64 m.val)] :: cl b4_ 24 [(vI .i64 0), (vI .i64 0)] :: sl 59 1 t.cv (List.length (ks.map BT.a)) (pBs (ks.map BT.a)) :: kids c ks :: F) := Holds.add_nil H59_ 59 1
  refine A_op (ls' := #[true, true, true, true, true, true, true, true, true, true, true, true, true, false, false, false]) rfl (by kernel_rfl) (T_append rfl rfl underlying77 z59 rfl (by decide) H60_ 0 rfl (Holds.sl_srcD H59_ 11 rfl (by omega) underlying77 (pbs_one _)) (by first | omega | (simp only [List.length_append, List.length_cons, List.length_nil]; omega)) ?_)
  intro v61_ w62_ S64_ H63_
  have S65_ := Same.trans (Same.trans S51_ (Same.drew _)) S64_
  refine ⟨⟨Holds.rd H63_ 3 rfl, Holds.slrd H63_ 4 rfl, Holds.slrd H63_ 5 rfl, Holds.slrd H63_ 1 rfl, Holds.rd H63_ 8 rfl, Holds.rd H63_ 9 rfl, Holds.slrd H63_ 12 rfl, (Holds.ro_at H63_ 2 rfl)⟩, ?_⟩
  have hq66_ := And.intro (Holds.rd H63_ 3 rfl) (And.intro (Holds.slrd H63_ 4 rfl) (And.intro (Holds.slrd H63_ 5 rfl) (And.intro (Holds.slrd H63_ 1 rfl) (And.intro (Holds.rd H63_ 8 rfl) (And.intro (Holds.rd H63_ 9 rfl) (And.intro (Holds.slrd H63_ 12 rfl) ((Holds.ro_at H63_ 2 rfl))))))))
  refine A_tk 13 (v := (vP (some ⟨a22_, 0, none⟩))) rfl (by kernel_rfl) (fun w hS => by kernel_rfl) hq66_ ?_
  refine A_tk 14 (v := (vP (some ⟨a22_, 1, none⟩))) rfl (by kernel_rfl) (fun w hS => by kernel_rfl) hq66_ ?_
  refine A_ready (i := 15) (rs := []) (by kernel_rfl) ?_
  refine AllR.cons ?_ AllR.nil
  refine A_op0 (ls' := #[true, true, true, true, true, true, true, true, true, true, true, true, true, true, true, true]) rfl (by kernel_rfl) (T_store1 (v := v61_) rfl rfl z77 (Holds.sl_one H63_ 0 rfl) H63_ 7 rfl (Nat.le_of_ble_eq_true (by rfl)) ?_)
  intro w67_ S69_ H68_
  have S70_ := Same.trans S65_ S69_
  refine ⟨⟨Holds.rd H68_ 3 rfl, Holds.slrd H68_ 4 rfl, Holds.slrd H68_ 5 rfl, Holds.slrd H68_ 1 rfl, Holds.rd H68_ 8 rfl, Holds.rd H68_ 9 rfl, Holds.slrd H68_ 12 rfl, (Holds.ro_at H68_ 2 rfl)⟩, ?_⟩
  refine A_done (by kernel_rfl) ?_
  refine (X_then (hK55_ _ _ ?_))
  refine C_reg ?_
  refine sm (vP (some ⟨t.a, 0, none⟩)) ?_
  refine sv (v := (vP (some ⟨t.a, 0, none⟩))) (by kernel_rfl) ?_
  refine sv (v := (vP (some ⟨t.a, 1, none⟩))) (by kernel_rfl) ?_
  refine sm (vI .i64 (j : Int)) ?_
  refine sv (v := (vI .i64 ((j : Int) + 1))) (x_bin rfl rfl (ib_add (IntWalk.i64_in _ (by omega)))) ?_
  have H72_ := ((Holds.bring (Holds.bring (Holds.bring H68_ 12 rfl) 4 rfl) 4 rfl) :)
  refine S_list (T_call (al := [(vP (some ⟨t.a, 1, none⟩)), (vI .i64 ((j + 1 : Nat) : Int))]) (pre := [cl t.a 79 [((slc t.iv 0 j 2)), t.cv, (vP (some ⟨c, 0, none⟩))], sl 59 1 t.cv (List.length (ks.map BT.a)) (pBs (ks.map BT.a))]) rfl (lcons rfl (lcons (congrArg (vI .i64) ((by first | rfl | omega | (simp; done) | (simp; omega)) : (j : Int) + 1 = ((j + 1 : Nat) : Int))) rfl)) cb55 (btTruncP R t.a (j + 1) (slc t.iv 0 j 2) t.cv (vP (some ⟨c, 0, none⟩)) (ks.map BT.a) (by first | assumption | omega) (by first | assumption | omega)) H72_ ?_)
  rintro v71_ p76_ w73_ ⟨rfl, rfl⟩ S75_ H74_
  have S77_ := Same.trans S70_ S75_
  refine wn (hK52_ _ _ ?_)
  refine cR fun _ hK78_ => ?_
  refine sv (v := (vA #[(vI .i64 m.key), (vI .i64 m.val)])) (x_loadN (vs := [(vI .i64 m.key), (vI .i64 m.val)]) rfl underlying24 rfl z24 rfl (Rd.cells (Holds.rd H74_ 11 rfl) 0 rfl)) ?_
  refine sm (vP (some ⟨a22_, 0, none⟩)) ?_
  refine S_list0 (T_storeN (vs := [(vI .i64 m.key), (vI .i64 m.val)]) rfl rfl z24 rfl (by simp [Value.oneCell']) H74_ 12 rfl (Nat.le_of_ble_eq_true (by rfl)) ?_)
  intro w79_ S81_ H80_
  have S82_ := Same.trans S77_ S81_
  refine sv (v := (vP (some ⟨a22_, 0, none⟩))) (x_assign rfl) ?_
  refine wn (hK78_ _ _ ?_)
  refine C_ret ?_
  refine R_any (v := (vT #[(vA #[(vI .i64 m.key), (vI .i64 m.val)]), (vP (some ⟨a22_, 0, none⟩))])) (run_results2 rfl ⟨_, rfl, load_resN underlying24 rfl z24 rfl (vs := [(vI .i64 m.key), (vI .i64 m.val)]) (Holds.cl_cells H80_ 12 rfl 0 rfl)⟩ rfl) ?_
  have H83_ := Holds.resl H80_ 6 rfl (by rw [List.nil_append, fr_drop EL.len, List.take_of_length_le (by rw [fr_len EL.len, List.length_drop]; exact Nat.le_refl _)] : [] ++ (List.take (((List.length t.xs) - (j + 1)) * 2) (List.drop ((j + 1) * 2) (t.xs.flatMap EL.cells))) = (t.xs.drop (j + 1)).flatMap EL.cells) (by first | (simp; done) | (simp; omega) : 0 + ((List.length t.xs) - (j + 1)) = (List.length (t.xs.drop (j + 1))))
  have H84_ := Holds.resl H83_ 3 rfl (by simp only [List.nil_append, Nat.mul_one, pbs_drop]; rw [List.take_of_length_le (by rw [pbs_len, List.length_drop]; exact Nat.le_refl _)]; rw [List.map_drop] : [] ++ (List.take (((List.length (ks.map BT.a)) - (j + 1)) * 1) (List.drop ((j + 1) * 1) (pBs (ks.map BT.a)))) = pBs ((ks.drop (j + 1)).map BT.a)) (by first | (simp; done) | (simp; omega) : 0 + ((List.length (ks.map BT.a)) - (j + 1)) = (List.length ((ks.drop (j + 1)).map BT.a)))
  have H85_ := Holds.resl H84_ 2 rfl (by rw [List.map_take] : pBs ((ks.map BT.a).take (j + 1)) = pBs ((ks.take (j + 1)).map BT.a)) (by first | (simp; done) | (simp; omega) : (List.length ((ks.map BT.a).take (j + 1))) = (List.length ((ks.take (j + 1)).map BT.a)))
  have H86_ := ((Holds.bring H85_ 13 rfl) :)
  have H87_ := Holds.kids_cut (j + 1) H86_
  have H88_ := ((Holds.bring (Holds.bring (Holds.bring (Holds.bring H87_ 1 rfl) 5 rfl) 8 rfl) 10 rfl) :)
  have H89_ := Holds.nodeI H88_
  have H90_ := ((Holds.bring (Holds.bring (Holds.bring (Holds.bring H89_ 1 rfl) 4 rfl) 6 rfl) 5 rfl) :)
  have H91_ := Holds.nodeI H90_
  have H92_ := Holds.pkF H91_ [2, 0, 0, 2, 2] 4
  exact ⟨_, _, rfl, ⟨(nodeB ⟨t.a, ((slc t.iv 0 j 2)), ((slc t.cv 0 (j + 1) 1)), (t.xs.take j)⟩ (ks.take (j + 1))), (nodeB ⟨a22_, v34_, v61_, (t.xs.drop (j + 1))⟩ (ks.drop (j + 1))), (congrArg (fun l => vT (List.toArray l)) (lcons rfl (lcons ((by first | rfl | omega | (simp; done) | (simp; omega)) : (vP (some ⟨a22_, 0, none⟩)) = (vP (some ⟨(nodeB ⟨a22_, v34_, v61_, (t.xs.drop (j + 1))⟩ (ks.drop (j + 1))).a, 0, none⟩))) rfl))), rfl, (spl_node hw hj)⟩, S82_, H92_⟩
 ·have c54_fp : ¬ (0 < ((List.length (ks.map BT.a)) : Int)) := of_decide_eq_false c54_f
  simp only [List.length_map] at c54_fp; omega

theorem btSplit (R : HP) (c fl fc : Nat) (fa : Option Addr) (h : Nat) (k : BT h) (j : Nat) (m : EL) (hw : k.Wf) (hj : k.n.xs[j]? = some m) (hn : k.n.xs.length ≤ 1000000) :
    Tri Try.prog 37 #[(vP (some ⟨k.a, 0, none⟩)), (vI .i64 (j : Int))] R [btp c k, cl c 58 [(vP (some ⟨fl, 0, none⟩)), (Value.func (.func 16) #[] #[])], cl fl 74 [(vS fa 0 fc)]] (fun v__ post__ => ∃ (k1 k2 : BT h), v__ = (vT #[(vA #[(vI .i64 m.key), (vI .i64 m.val)]), (vP (some ⟨k2.a, 0, none⟩))]) ∧ post__ = [btp c k1, btp c k2, cl c 58 [(vP (some ⟨fl, 0, none⟩)), (Value.func (.func 16) #[] #[])], cl fl 74 [(vS fa 0 fc)]] ∧ (Spl k k1 k2 m)) := by
  cases h with
  | zero => exact btSplit0 R c fl fc fa k j m hj hn
  | succ h => exact btSplitS R c fl fc fa h k.1 k.2 j m hw hj hn
end Go.Proofs.Ytdfjdmmmlidamaa
set_option linter.unusedVariables false
set_option linter.unusedSimpArgs false
namespace Go.Proofs.Ytdfjdmmmlidamaa
open Go Go.RowKit Gw Try
open Go.Value renaming int → vI, bool → vB, slice → vS, pointer → vP, agg → vA, tuple → vT

set_option maxHeartbeats 1600000 in
theorem btMF (R : HP) (a c : Nat) (iv cv : Value) :
    Tri Try.prog 35 #[(vP (some ⟨a, 0, none⟩)), (vP (some ⟨c, 0, none⟩))] R [cl a 79 [iv, cv, (vP (some ⟨c, 0, none⟩))]] (fun v__ post__ => v__ = (vP (some ⟨a, 0, none⟩)) ∧ post__ = [cl a 79 [iv, cv, (vP (some ⟨c, 0, none⟩))]]) := by
 refine Tri.into (n := 110) (al := [(vP (some ⟨a, 0, none⟩)), (vP (some ⟨c, 0, none⟩))]) func35 rfl ntmps35 rfl rfl fun w F H => ?_
 refine cR fun _ hK1_ => ?_
 refine sv (v := (vP none)) (x_assign rfl) ?_
 refine wn (hK1_ _ _ ?_)
 refine C_seq (fun _ hK2_ => ?_)
 refine cR fun _ hK3_ => ?_
 refine sm (vP (some ⟨a, 0, none⟩)) ?_
 refine sv (v := (vP (some ⟨a, 0, none⟩))) (by kernel_rfl) ?_
 refine sv (v := (vP (some ⟨a, 2, none⟩))) (by kernel_rfl) ?_
 refine sv (v := (vP (some ⟨c, 0, none⟩))) (x_load1 rfl underlying60 rfl ((Holds.rd H 1 rfl) 2 (vP (some ⟨c, 0, none⟩)) rfl)) ?_
 refine sm (vP (some ⟨c, 0, none⟩)) ?_
 refine sv (v := (vB true)) (x_eqP rfl rfl underlying60 z58) ?_
 refine wn (hK3_ _ _ ?_)
 refine C_condT rfl ?_
 refine cR fun _ hK4_ => ?_
 refine sm (vP (some ⟨a, 0, none⟩)) ?_
 refine sv (v := (vP (some ⟨a, 0, none⟩))) (x_assign rfl) ?_
 refine wn (hK4_ _ _ ?_)
 refine C_ret (X_thenR ?_)
 refine R_any (v := (vP (some ⟨a, 0, none⟩))) (run_results1 rfl rfl) ?_
 exact ⟨_, _, rfl, ⟨rfl, rfl⟩, (Same.refl w), H⟩

set_option maxHeartbeats 1600000 in
theorem btMC (R : HP) (c h a i : Nat) (iv cv : Value) (ks : List (BT h)) (k : BT h) (hk : ks[i]? = some k) :
    Tri Try.prog 59 #[(vP (some ⟨a, 0, none⟩)), (vI .i64 (i : Int))] R [cl a 79 [iv, cv, (vP (some ⟨c, 0, none⟩))], sl 59 1 cv (List.length (ks.map BT.a)) (pBs (ks.map BT.a)), kids c ks] (fun v__ post__ => v__ = (vP (some ⟨k.a, 0, none⟩)) ∧ post__ = [cl a 79 [iv, cv, (vP (some ⟨c, 0, none⟩))], sl 59 1 cv (List.length (ks.map BT.a)) (pBs (ks.map BT.a)), kids c ks]) := by
 have hil : i < (ks.map BT.a).length := (List.getElem?_eq_some_iff.1 (kid_a hk)).1
 have hpl := pbs_len (ks.map BT.a)
 refine Tri.into (n := 26) (al := [(vP (some ⟨a, 0, none⟩)), (vI .i64 (i : Int))]) func59 rfl ntmps59 rfl rfl fun w F H => ?_
 have H1_ := ((Holds.bring H 3 rfl) :)
 have H2_ := Holds.kids_out hk H1_
 have H3_ := Holds.bt_out H2_
 refine cR fun _ hK4_ => ?_
 refine sv (v := (vP none)) (x_assign rfl) ?_
 refine wn (hK4_ _ _ ?_)
 refine C_seq (fun _ hK5_ => ?_)
 refine A_start (S := fun w => SlRd k.n.iv (k.n.xs.flatMap EL.cells) w ∧ Rd a [iv, cv, (vP (some ⟨c, 0, none⟩))] w ∧ SlRd cv (pBs (ks.map BT.a)) w ∧ Sub R (hp w)) (N := 13) foll rfl rfl ?_
 have H6_ := Holds.drew_ H3_
 have hq7_ := And.intro (Holds.slrd H6_ 1 rfl) (And.intro (Holds.rd H6_ 5 rfl) (And.intro (Holds.slrd H6_ 6 rfl) ((Holds.ro_at H6_ 4 rfl))))
 refine A_tk 0 (v := (vP (some ⟨a, 0, none⟩))) rfl (by kernel_rfl) (fun w hS => x_move rfl) hq7_ ?_
 refine A_tk 1 (v := (vP (some ⟨a, 0, none⟩))) rfl (by kernel_rfl) (fun w hS => by kernel_rfl) hq7_ ?_
 refine A_tk 2 (v := (vP (some ⟨a, 1, none⟩))) rfl (by kernel_rfl) (fun w hS => by kernel_rfl) hq7_ ?_
 refine A_tk 3 (v := cv) rfl (by kernel_rfl) (fun w hS => x_load1 rfl underlying77 rfl (hS.2.1 1 cv rfl)) hq7_ ?_
 refine A_tk 4 (v := (vI .i64 (i : Int))) rfl (by kernel_rfl) (fun w hS => x_move rfl) hq7_ ?_
 have hr8_ := Holds.sl_RSw H6_ 6 rfl
 refine A_tk 5 (v := (vP (some ⟨(sb cv), so cv + i, none⟩))) rfl (by kernel_rfl) (fun w hS => x_idxSlR (v := cv) rfl hr8_ rfl underlying77 z59 (by omega) (by omega) (by omega : _ = i) (by rw [Nat.mul_one])) hq7_ ?_
 refine A_tk 6 (v := (vP (some ⟨k.a, 0, none⟩))) rfl (by kernel_rfl) (fun w hS => x_load1 rfl underlying59 rfl (hS.2.2.1 _ _ (pbs_at (kid_a hk)))) hq7_ ?_
 refine A_tk 7 (v := (vP (some ⟨a, 0, none⟩))) rfl (by kernel_rfl) (fun w hS => x_move rfl) hq7_ ?_
 refine A_tk 8 (v := (vP (some ⟨a, 0, none⟩))) rfl (by kernel_rfl) (fun w hS => by kernel_rfl) hq7_ ?_
 refine A_tk 9 (v := (vP (some ⟨a, 2, none⟩))) rfl (by kernel_rfl) (fun w hS => by kernel_rfl) hq7_ ?_
 refine A_tk 10 (v := (vP (some ⟨c, 0, none⟩))) rfl (by kernel_rfl) (fun w hS => x_load1 rfl underlying60 rfl (hS.2.1 2 (vP (some ⟨c, 0, none⟩)) rfl)) hq7_ ?_
 refine A_ready (i := 11) (rs := []) (by kernel_rfl) ?_
 refine AllR.cons ?_ AllR.nil
 have H10_ := ((Holds.bring H6_ 4 rfl) :)
 refine A_op (ls' := #[true, true, true, true, true, true, true, true, true, true, true, true, false]) rfl (by kernel_rfl) (T_call (al := [(vP (some ⟨k.a, 0, none⟩)), (vP (some ⟨c, 0, none⟩))]) (pre := [cl k.a 79 [k.n.iv, k.cv, (vP (some ⟨c, 0, none⟩))]]) rfl rfl cb35 (btMF R k.a c k.n.iv k.cv) H10_ ?_)
 rintro v9_ p14_ w11_ ⟨rfl, rfl⟩ S13_ H12_
 have S15_ := Same.trans (Same.trans (Same.refl w) (Same.drew _)) S13_
 refine ⟨⟨Holds.slrd H12_ 2 rfl, Holds.rd H12_ 5 rfl, Holds.slrd H12_ 6 rfl, (Holds.ro_at H12_ 0 rfl)⟩, ?_⟩
 have hq16_ := And.intro (Holds.slrd H12_ 2 rfl) (And.intro (Holds.rd H12_ 5 rfl) (And.intro (Holds.slrd H12_ 6 rfl) ((Holds.ro_at H12_ 0 rfl))))
 refine A_tk 12 (v := (vP (some ⟨k.a, 0, none⟩))) rfl (by kernel_rfl) (fun w hS => x_assign rfl) hq16_ ?_
 refine A_done (by kernel_rfl) ?_
 refine (X_then (hK5_ _ _ ?_))
 refine cR fun _ hK17_ => ?_
 refine sm (vP (some ⟨a, 0, none⟩)) ?_
 refine sv (v := (vP (some ⟨a, 0, none⟩))) (by kernel_rfl) ?_
 refine sv (v := (vP (some ⟨a, 1, none⟩))) (by kernel_rfl) ?_
 refine sv (v := cv) (x_load1 rfl underlying77 rfl ((Holds.rd H12_ 5 rfl) 1 cv rfl)) ?_
 refine sm (vI .i64 (i : Int)) ?_
 refine sm (vP (some ⟨k.a, 0, none⟩)) ?_
 refine sv (v := (vP (some ⟨(sb cv), so cv + i, none⟩))) (x_idxSlR (v := cv) rfl hr8_ rfl underlying77 z59 (by omega) (by omega) (by omega : _ = i) (by rw [Nat.mul_one])) ?_
 refine S_list0 (T_storeSl (v := cv) (u := (vP (some ⟨k.a, 0, none⟩))) rfl rfl z59 rfl H12_ 6 rfl (by omega) rfl rfl ?_)
 intro w18_ S20_ H19_
 have S21_ := Same.trans S15_ S20_
 refine wn (hK17_ _ _ ?_)
 refine cR fun _ hK22_ => ?_
 refine sm (vP (some ⟨k.a, 0, none⟩)) ?_
 refine sv (v := (vP (some ⟨k.a, 0, none⟩))) (x_assign rfl) ?_
 refine wn (hK22_ _ _ ?_)
 refine C_ret ?_
 refine R_any (v := (vP (some ⟨k.a, 0, none⟩))) (run_results1 rfl rfl) ?_
 have H23_ := ((Holds.bring (Holds.bring (Holds.bring H19_ 3 rfl) 3 rfl) 3 rfl) :)
 have H24_ := Holds.bt_in (k := k) H23_
 have H25_ := ((Holds.bring (Holds.bring H24_ 2 rfl) 1 rfl) :)
 have H26_ := Holds.kids_back hk H25_
 have H27_ := Holds.resl H26_ 3 rfl ((pbs_same (kid_a hk)) : List.set (pBs (ks.map BT.a)) i (vP (some ⟨k.a, 0, none⟩)) = pBs (ks.map BT.a)) (rfl : (List.length (ks.map BT.a)) = (List.length (ks.map BT.a)))
 have H28_ := Holds.pkF H27_ [1, 1, 1, 0] 0
 exact ⟨_, _, rfl, ⟨rfl, rfl⟩, S21_, H28_⟩
end Go.Proofs.Ytdfjdmmmlidamaa
set_option linter.unusedVariables false
set_option linter.unusedSimpArgs false
namespace Go.Proofs.Ytdfjdmmmlidamaa
open Go Go.RowKit Gw Try
open Go.Value renaming int → vI, bool → vB, slice → vS, pointer → vP, agg → vA, tuple → vT

set_option maxHeartbeats 1600000 in
theorem btMS (R : HP) (c fl fc : Nat) (fa : Option Addr) (h a i mx : Nat) (iv cv : Value) (xs : List EL) (ks : List (BT h)) (k : BT h) (hw : ks.length = xs.length + 1) (hk : ks[i]? = some k) (hkw : k.Wf) (hn : xs.length ≤ 1000000) (hkn : k.n.xs.length ≤ 1000000) (hm : 3 ≤ mx ∧ mx ≤ 1000) :
    Tri Try.prog 58 #[(vP (some ⟨a, 0, none⟩)), (vI .i64 (i : Int)), (vI .i64 (mx : Int))] R [cl a 79 [iv, cv, (vP (some ⟨c, 0, none⟩))], sl 24 2 iv (List.length xs) (xs.flatMap EL.cells), sl 59 1 cv (List.length (ks.map BT.a)) (pBs (ks.map BT.a)), kids c ks, cl c 58 [(vP (some ⟨fl, 0, none⟩)), (Value.func (.func 16) #[] #[])], cl fl 74 [(vS fa 0 fc)]] (fun v__ post__ => (v__ = (vB false) ∧ post__ = [cl a 79 [iv, cv, (vP (some ⟨c, 0, none⟩))], sl 24 2 iv (List.length xs) (xs.flatMap EL.cells), sl 59 1 cv (List.length (ks.map BT.a)) (pBs (ks.map BT.a)), kids c ks, cl c 58 [(vP (some ⟨fl, 0, none⟩)), (Value.func (.func 16) #[] #[])], cl fl 74 [(vS fa 0 fc)]]) ∨ (∃ (iv' cv' : Value) (k1 k2 : BT h) (m : EL), v__ = (vB true) ∧ post__ = [cl a 79 [iv', cv', (vP (some ⟨c, 0, none⟩))], sl 24 2 iv' (List.length (xs.take i ++ m :: xs.drop i)) ((xs.take i ++ m :: xs.drop i).flatMap EL.cells), sl 59 1 cv' (List.length ((ks.take i ++ k1 :: k2 :: ks.drop (i + 1)).map BT.a)) (pBs ((ks.take i ++ k1 :: k2 :: ks.drop (i + 1)).map BT.a)), kids c (ks.take i ++ k1 :: k2 :: ks.drop (i + 1)), cl c 58 [(vP (some ⟨fl, 0, none⟩)), (Value.func (.func 16) #[] #[])], cl fl 74 [(vS fa 0 fc)]] ∧ (Spl k k1 k2 m))) := by
 have hil : i < ks.length := (List.getElem?_eq_some_iff.1 hk).1
 have hkl : (ks.map BT.a).length = ks.length := List.length_map ..
 refine Tri.into (n := 46) (al := [(vP (some ⟨a, 0, none⟩)), (vI .i64 (i : Int)), (vI .i64 (mx : Int))]) func58 rfl ntmps58 rfl rfl fun w F H => ?_
 have H1_ := ((Holds.bring H 4 rfl) :)
 have H2_ := Holds.kids_out hk H1_
 have H3_ := Holds.bt_out H2_
 refine cR fun _ hK4_ => ?_
 refine sv (v := (vB false)) (x_assign rfl) ?_
 refine wn (hK4_ _ _ ?_)
 refine C_seq (fun _ hK5_ => ?_)
 refine cR fun _ hK6_ => ?_
 refine sm (vP (some ⟨a, 0, none⟩)) ?_
 refine sv (v := (vP (some ⟨a, 0, none⟩))) (by kernel_rfl) ?_
 refine sv (v := (vP (some ⟨a, 1, none⟩))) (by kernel_rfl) ?_
 refine sv (v := cv) (x_load1 rfl underlying77 rfl ((Holds.rd H3_ 5 rfl) 1 cv rfl)) ?_
 refine sm (vI .i64 (i : Int)) ?_
 have hr7_ := Holds.sl_RSw H3_ 7 rfl
 refine sv (v := (vP (some ⟨(sb cv), so cv + i, none⟩))) (x_idxSlR (v := cv) rfl hr7_ rfl underlying77 z59 (by omega) (by omega) (by omega : _ = i) (by rw [Nat.mul_one])) ?_
 refine sv (v := (vP (some ⟨k.a, 0, none⟩))) (x_load1 rfl underlying59 rfl ((Holds.slrd H3_ 7 rfl) _ _ (pbs_at (kid_a hk)))) ?_
 refine sv (v := (vP (some ⟨k.a, 0, none⟩))) (by kernel_rfl) ?_
 refine sv (v := (vP (some ⟨k.a, 0, none⟩))) (by kernel_rfl) ?_
 refine sv (v := k.n.iv) (x_load1 rfl underlying76 rfl ((Holds.rd H3_ 0 rfl) 0 k.n.iv rfl)) ?_
 refine sv (v := (vI .i64 ((List.length k.n.xs) : Int))) (x_lenSl rfl H3_ 1 rfl underlying76) ?_
 refine sm (vI .i64 (mx : Int)) ?_
 refine sv (v := (vB (decide (((List.length k.n.xs) : Int) < (mx : Int))))) (x_bin rfl rfl rfl) ?_
 refine wn (hK6_ _ _ ?_)
 refine C_cond (b := decide (((List.length k.n.xs) : Int) < (mx : Int))) rfl (fun c8_t => ?_) (fun c8_f => ?_)
 ·have c8_tp : ((List.length k.n.xs) : Int) < (mx : Int) := of_decide_eq_true c8_t
  refine cR fun _ hK9_ => ?_
  refine sv (v := (vB false)) (x_assign rfl) ?_
  refine wn (hK9_ _ _ ?_)
  refine C_ret (X_thenR ?_)
  refine R_any (v := (vB false)) (run_results1 rfl rfl) ?_
  have H10_ := Holds.bt_in (k := k) H3_
  have H11_ := Holds.kids_back hk H10_
  have H12_ := Holds.pkF H11_ [1, 1, 1, 1, 0, 0, 0] 0
  exact ⟨_, _, rfl, (.inl ⟨rfl, rfl⟩), (Same.refl w), H12_⟩
 ·have c8_fp : ¬ (((List.length k.n.xs) : Int) < (mx : Int)) := of_decide_eq_false c8_f
  refine C_skip (X_then (hK5_ _ _ ?_))
  refine cR fun _ hK13_ => ?_
  refine sm (vP (some ⟨a, 0, none⟩)) ?_
  refine sm (vI .i64 (i : Int)) ?_
  have H14_ := Holds.bt_in (k := k) H3_
  have H15_ := Holds.kids_back hk H14_
  have H17_ := ((Holds.bring (Holds.bring (Holds.bring H15_ 4 rfl) 3 rfl) 3 rfl) :)
  refine S_list (T_call (al := [(vP (some ⟨a, 0, none⟩)), (vI .i64 (i : Int))]) (pre := [cl a 79 [iv, cv, (vP (some ⟨c, 0, none⟩))], sl 59 1 cv (List.length (ks.map BT.a)) (pBs (ks.map BT.a)), kids c ks]) rfl rfl cb59 (btMC R c h a i iv cv ks k (hk)) H17_ ?_)
  rintro v16_ p21_ w18_ ⟨rfl, rfl⟩ S20_ H19_
  have S22_ := Same.trans (Same.refl w) S20_
  refine sv (v := (vP (some ⟨k.a, 0, none⟩))) (x_assign rfl) ?_
  refine wn (hK13_ _ _ ?_)
  refine cR fun _ hK23_ => ?_
  refine sm (vP (some ⟨k.a, 0, none⟩)) ?_
  refine sm (vI .i64 (mx : Int)) ?_
  refine sv (v := (vI .i64 ((mx / 2 : Nat) : Int))) (x_bin rfl rfl (ib_quoN (x := mx) (y := 2) rfl rfl (by decide) (by omega) rfl)) ?_
  obtain ⟨m_, hm_, _⟩ := elem_at k.n.xs (mx / 2) (by omega)
  have H24_ := ((Holds.bring H19_ 3 rfl) :)
  have H25_ := Holds.kids_out hk H24_
  have H30_ := ((Holds.bring (Holds.bring (Holds.bring (Holds.bring H25_ 7 rfl) 7 rfl) 2 rfl) 4 rfl) :)
  refine S_list (T_call (al := [(vP (some ⟨k.a, 0, none⟩)), (vI .i64 ((mx / 2 : Nat) : Int))]) (pre := [btp c k, cl c 58 [(vP (some ⟨fl, 0, none⟩)), (Value.func (.func 16) #[] #[])], cl fl 74 [(vS fa 0 fc)]]) rfl rfl cb37 (btSplit R c fl fc fa h k (mx / 2) m_ (hkw) (hm_) (hkn)) H30_ ?_)
  rintro v26_ p34_ w31_ ⟨k127_, k228_, rfl, rfl, he29_⟩ S33_ H32_
  have S35_ := Same.trans S22_ S33_
  have H36_ := ((Holds.bring (Holds.bring (Holds.bring H32_ 5 rfl) 3 rfl) 3 rfl) :)
  have H37_ := Holds.kids_two (i := i) (by omega) H36_
  refine sm (vT #[(vA #[(vI .i64 m_.key), (vI .i64 m_.val)]), (vP (some ⟨k228_.a, 0, none⟩))]) ?_
  refine sv (v := (vA #[(vI .i64 m_.key), (vI .i64 m_.val)])) (by kernel_rfl) ?_
  refine sv (v := (vP (some ⟨k228_.a, 0, none⟩))) (by kernel_rfl) ?_
  refine S_list (T_alloc z24 H37_ ?_)
  intro b38_ w39_ S41_ H40_
  have S42_ := Same.trans S35_ S41_
  refine S_list0 (T_storeN (vs := [(vI .i64 m_.key), (vI .i64 m_.val)]) rfl rfl z24 rfl (by simp [Value.oneCell']) H40_ 0 rfl (Nat.le_of_ble_eq_true (by rfl)) ?_)
  intro w43_ S45_ H44_
  have S46_ := Same.trans S42_ S45_
  refine sv (v := (vP (some ⟨k228_.a, 0, none⟩))) (x_assign rfl) ?_
  refine wn (hK23_ _ _ ?_)
  refine C_seq (fun _ hK47_ => ?_)
  refine A_start (S := fun w => Rd b38_ [(vI .i64 m_.key), (vI .i64 m_.val)] w ∧ Rd c [(vP (some ⟨fl, 0, none⟩)), (Value.func (.func 16) #[] #[])] w ∧ Rd fl [(vS fa 0 fc)] w ∧ SlRd cv (pBs (ks.map BT.a)) w ∧ Sub R (hp w)) (N := 6) foll rfl rfl ?_
  have H48_ := Holds.drew_ H44_
  have hq49_ := And.intro (Holds.rd H48_ 0 rfl) (And.intro (Holds.rd H48_ 3 rfl) (And.intro (Holds.rd H48_ 4 rfl) (And.intro (Holds.slrd H48_ 6 rfl) ((Holds.ro_at H48_ 2 rfl)))))
  refine A_tk 0 (v := (vP (some ⟨a, 0, none⟩))) rfl (by kernel_rfl) (fun w hS => x_move rfl) hq49_ ?_
  refine A_tk 1 (v := (vP (some ⟨a, 0, none⟩))) rfl (by kernel_rfl) (fun w hS => by kernel_rfl) hq49_ ?_
  refine A_tk 2 (v := (vP (some ⟨a, 0, none⟩))) rfl (by kernel_rfl) (fun w hS => by kernel_rfl) hq49_ ?_
  refine A_tk 3 (v := (vI .i64 (i : Int))) rfl (by kernel_rfl) (fun w hS => x_move rfl) hq49_ ?_
  refine A_tk 4 (v := (vA #[(vI .i64 m_.key), (vI .i64 m_.val)])) rfl (by kernel_rfl) (fun w hS => x_loadN (vs := [(vI .i64 m_.key), (vI .i64 m_.val)]) rfl underlying24 rfl z24 rfl (Rd.cells hS.1 0 rfl)) hq49_ ?_
  refine A_ready (i := 5) (rs := []) (by kernel_rfl) ?_
  refine AllR.cons ?_ AllR.nil
  have H52_ := ((Holds.bring (Holds.bring (Holds.bring H48_ 7 rfl) 6 rfl) 4 rfl) :)
  refine A_op (ls' := #[true, true, true, true, true, true]) rfl (by kernel_rfl) (T_call (al := [(vP (some ⟨a, 0, none⟩)), (vI .i64 (i : Int)), (vA #[(vI .i64 m_.key), (vI .i64 m_.val)])]) (pre := [cl a 79 [iv, cv, (vP (some ⟨c, 0, none⟩))], sl 24 2 iv (List.length xs) (xs.flatMap EL.cells)]) rfl rfl cb57 (btInsE R a i iv cv (vP (some ⟨c, 0, none⟩)) xs m_ (by omega) (hn)) H52_ ?_)
  rintro v50_ p56_ w53_ ⟨iv51_, rfl, rfl⟩ S55_ H54_
  have S57_ := Same.trans (Same.trans S46_ (Same.drew _)) S55_
  refine ⟨⟨Holds.rd H54_ 3 rfl, Holds.rd H54_ 5 rfl, Holds.rd H54_ 6 rfl, Holds.slrd H54_ 7 rfl, (Holds.ro_at H54_ 0 rfl)⟩, ?_⟩
  refine A_done (by kernel_rfl) ?_
  refine (X_then (hK47_ _ _ ?_))
  refine cR fun _ hK58_ => ?_
  refine sm (vP (some ⟨a, 0, none⟩)) ?_
  refine sv (v := (vP (some ⟨a, 0, none⟩))) (by kernel_rfl) ?_
  refine sv (v := (vP (some ⟨a, 1, none⟩))) (by kernel_rfl) ?_
  refine sm (vI .i64 (i : Int)) ?_
  refine sv (v := (vI .i64 ((i : Int) + 1))) (x_bin rfl rfl (ib_add (IntWalk.i64_in _ (by omega)))) ?_
  refine sm (vP (some ⟨k228_.a, 0, none⟩)) ?_
  have H61_ := ((Holds.bring (Holds.bring (Holds.bring H54_ 7 rfl) 2 rfl) 2 rfl) :)
  refine S_list (T_call (al := [(vP (some ⟨a, 1, none⟩)), (vI .i64 ((i + 1 : Nat) : Int)), (vP (some ⟨k228_.a, 0, none⟩))]) (pre := [cl a 79 [iv51_, cv, (vP (some ⟨c, 0, none⟩))], sl 59 1 cv (List.length (ks.map BT.a)) (pBs (ks.map BT.a))]) rfl (lcons rfl (lcons (congrArg (vI .i64) ((by first | rfl | omega | (simp; done) | (simp; omega)) : (i : Int) + 1 = ((i + 1 : Nat) : Int))) rfl)) cb70 (btInsP R a (i + 1) k228_.a iv51_ cv (vP (some ⟨c, 0, none⟩)) (ks.map BT.a) (by omega) (by omega)) H61_ ?_)
  rintro v59_ p65_ w62_ ⟨cv60_, rfl, rfl⟩ S64_ H63_
  have S66_ := Same.trans S57_ S64_
  refine wn (hK58_ _ _ ?_)
  refine cR fun _ hK67_ => ?_
  refine sv (v := (vB true)) (x_assign rfl) ?_
  refine wn (hK67_ _ _ ?_)
  refine C_ret ?_
  refine R_any (v := (vB true)) (run_results1 rfl rfl) ?_
  have H68_ := Holds.resl H63_ 2 rfl (congrArg pBs (kids_two_a hk he29_.a) : pBs ((ks.map BT.a).take (i + 1) ++ k228_.a :: (ks.map BT.a).drop (i + 1)) = pBs ((ks.take i ++ k127_ :: k228_ :: ks.drop (i + 1)).map BT.a)) (by first | (simp; done) | (simp; omega) : (List.length ((ks.map BT.a).take (i + 1) ++ k228_.a :: (ks.map BT.a).drop (i + 1))) = (List.length ((ks.take i ++ k127_ :: k228_ :: ks.drop (i + 1)).map BT.a)))
  have H69_ := Holds.pkF H68_ [0, 0, 1, 0, 1, 1, 1] 1
  exact ⟨_, _, rfl, (.inr ⟨iv51_, cv60_, k127_, k228_, m_, rfl, rfl, (he29_)⟩), S66_, H69_⟩
end Go.Proofs.Ytdfjdmmmlidamaa
set_option linter.unusedVariables false
set_option linter.unusedSimpArgs false
namespace Go.Proofs.Ytdfjdmmmlidamaa
open Go Go.RowKit Gw Try
open Go.Value renaming int → vI, bool → vB, slice → vS, pointer → vP, agg → vA, tuple → vT

set_option maxHeartbeats 1600000 in
theorem btIns0 (R : HP) (c fl fc : Nat) (fa : Option Addr) (t : BN) (e : EL) (mx : Nat) (hs : SrtE t.xs) (hn : t.xs.length ≤ 1000000) (hm : 3 ≤ mx ∧ mx ≤ 1000) :
    Tri Try.prog 38 #[(vP (some ⟨t.a, 0, none⟩)), (vA #[(vI .i64 e.key), (vI .i64 e.val)]), (vI .i64 (mx : Int))] R [btp c (leafB t), cl c 58 [(vP (some ⟨fl, 0, none⟩)), (Value.func (.func 16) #[] #[])], cl fl 74 [(vS fa 0 fc)]] (fun v__ post__ => ∃ (t' : BT 0) (o : EL) (b : Bool), v__ = (vT #[(vA #[(vI .i64 o.key), (vI .i64 o.val)]), (vB b)]) ∧ post__ = [btp c t', cl c 58 [(vP (some ⟨fl, 0, none⟩)), (Value.func (.func 16) #[] #[])], cl fl 74 [(vS fa 0 fc)]] ∧ (Ins e (leafB t) t' o b)) := by
 refine Tri.into (n := 115) (al := [(vP (some ⟨t.a, 0, none⟩)), (vA #[(vI .i64 e.key), (vI .i64 e.val)]), (vI .i64 (mx : Int))]) func38 rfl ntmps38 rfl rfl fun w F H => ?_
 have H1_ := ((Holds.bring H 1 rfl) :)
 have H2_ := Holds.leafO H1_
 refine cR fun _ hK3_ => ?_
 refine S_list (T_box (v := (vA #[(vI .i64 e.key), (vI .i64 e.val)])) rfl H2_ ?_)
 intro b4_ w5_ S7_ H6_
 have S8_ := Same.trans (Same.refl w) S7_
 refine S_list (T_alloc z24 H6_ ?_)
 intro b9_ w10_ S12_ H11_
 have S13_ := Same.trans S8_ S12_
 refine sv (v := (vB false)) (x_assign rfl) ?_
 refine wn (hK3_ _ _ ?_)
 refine C_seq (fun _ hK14_ => ?_)
 refine A_start (S := fun w => Rd b4_ [(vI .i64 e.key), (vI .i64 e.val)] w ∧ Rd t.a [t.iv, (vS none 0 0), (vP (some ⟨c, 0, none⟩))] w ∧ SlRd t.iv (t.xs.flatMap EL.cells) w ∧ Rd c [(vP (some ⟨fl, 0, none⟩)), (Value.func (.func 16) #[] #[])] w ∧ Rd fl [(vS fa 0 fc)] w ∧ Sub R (hp w)) (N := 18) foll rfl rfl ?_
 have H15_ := Holds.drew_ H11_
 have hq16_ := And.intro (Holds.rd H15_ 1 rfl) (And.intro (Holds.rd H15_ 2 rfl) (And.intro (Holds.slrd H15_ 3 rfl) (And.intro (Holds.rd H15_ 5 rfl) (And.intro (Holds.rd H15_ 6 rfl) ((Holds.ro_at H15_ 4 rfl))))))
 refine A_tk 0 (v := (vP (some ⟨t.a, 0, none⟩))) rfl (by kernel_rfl) (fun w hS => x_move rfl) hq16_ ?_
 refine A_tk 1 (v := (vP (some ⟨t.a, 0, none⟩))) rfl (by kernel_rfl) (fun w hS => by kernel_rfl) hq16_ ?_
 refine A_tk 2 (v := (vP (some ⟨t.a, 0, none⟩))) rfl (by kernel_rfl) (fun w hS => by kernel_rfl) hq16_ ?_
 refine A_tk 3 (v := t.iv) rfl (by kernel_rfl) (fun w hS => x_load1 rfl underlying76 rfl (hS.2.1 0 t.iv rfl)) hq16_ ?_
 refine A_tk 4 (v := (vA #[(vI .i64 e.key), (vI .i64 e.val)])) rfl (by kernel_rfl) (fun w hS => x_loadN (vs := [(vI .i64 e.key), (vI .i64 e.val)]) rfl underlying24 rfl z24 rfl (Rd.cells hS.1 0 rfl)) hq16_ ?_
 refine A_tk 5 (v := (vP (some ⟨t.a, 0, none⟩))) rfl (by kernel_rfl) (fun w hS => x_move rfl) hq16_ ?_
 refine A_tk 6 (v := (vP (some ⟨t.a, 0, none⟩))) rfl (by kernel_rfl) (fun w hS => by kernel_rfl) hq16_ ?_
 refine A_tk 7 (v := (vP (some ⟨t.a, 2, none⟩))) rfl (by kernel_rfl) (fun w hS => by kernel_rfl) hq16_ ?_
 refine A_tk 8 (v := (vP (some ⟨c, 0, none⟩))) rfl (by kernel_rfl) (fun w hS => x_load1 rfl underlying60 rfl (hS.2.1 2 (vP (some ⟨c, 0, none⟩)) rfl)) hq16_ ?_
 refine A_tk 9 (v := (vP (some ⟨c, 0, none⟩))) rfl (by kernel_rfl) (fun w hS => by kernel_rfl) hq16_ ?_
 refine A_tk 10 (v := (vP (some ⟨c, 1, none⟩))) rfl (by kernel_rfl) (fun w hS => by kernel_rfl) hq16_ ?_
 refine A_tk 11 (v := (Value.func (.func 16) #[] #[])) rfl (by kernel_rfl) (fun w hS => x_load1 rfl underlying53 rfl (hS.2.2.2.1 1 (Value.func (.func 16) #[] #[]) rfl)) hq16_ ?_
 refine A_ready (i := 12) (rs := []) (by kernel_rfl) ?_
 refine AllR.cons ?_ AllR.nil
 have H21_ := ((Holds.bring (Holds.bring H15_ 3 rfl) 4 rfl) :)
 refine A_op (ls' := #[true, true, true, true, true, true, true, true, true, true, true, true, true, false, false, false, false, false]) rfl (by kernel_rfl) (T_call (al := [t.iv, (vA #[(vI .i64 e.key), (vI .i64 e.val)]), (Value.func (.func 16) #[] #[])]) (pre := [sl 24 2 t.iv (List.length t.xs) (t.xs.flatMap EL.cells)]) rfl rfl cb56 (btFind R t.iv t.xs e (by first | assumption | omega) (by first | assumption | omega)) H21_ ?_)
 rintro v17_ p25_ w22_ ⟨i18_, b19_, rfl, rfl, he20_⟩ S24_ H23_
 have S26_ := Same.trans (Same.trans S13_ (Same.drew _)) S24_
 refine ⟨⟨Holds.rd H23_ 3 rfl, Holds.rd H23_ 4 rfl, Holds.slrd H23_ 1 rfl, Holds.rd H23_ 5 rfl, Holds.rd H23_ 6 rfl, (Holds.ro_at H23_ 0 rfl)⟩, ?_⟩
 have hq27_ := And.intro (Holds.rd H23_ 3 rfl) (And.intro (Holds.rd H23_ 4 rfl) (And.intro (Holds.slrd H23_ 1 rfl) (And.intro (Holds.rd H23_ 5 rfl) (And.intro (Holds.rd H23_ 6 rfl) ((Holds.ro_at H23_ 0 rfl))))))
 refine A_tk 13 (v := (vT #[(vI .i64 (i18_ : Int)), (vB b19_)])) rfl (by kernel_rfl) (fun w hS => x_move rfl) hq27_ ?_
 refine A_tk 14 (v := (vI .i64 (i18_ : Int))) rfl (by kernel_rfl) (fun w hS => by kernel_rfl) hq27_ ?_
 refine A_tk 15 (v := (vB b19_)) rfl (by kernel_rfl) (fun w hS => by kernel_rfl) hq27_ ?_
 refine A_tk 16 (v := (vI .i64 (i18_ : Int))) rfl (by kernel_rfl) (fun w hS => x_assign rfl) hq27_ ?_
 refine A_tk 17 (v := (vB b19_)) rfl (by kernel_rfl) (fun w hS => x_assign rfl) hq27_ ?_
 refine A_done (by kernel_rfl) ?_
 refine (X_then (hK14_ _ _ ?_))
 refine C_seq (fun _ hK28_ => ?_)
 refine cR fun _ hK29_ => ?_
 refine sm (vB b19_) ?_
 refine wn (hK29_ _ _ ?_)
 refine C_cond (b := b19_) rfl (fun c30_t => ?_) (fun c30_f => ?_)
 ·skip
  obtain ⟨x_, hx_, hxk_⟩ := he20_.1 c30_t
  have hxl_ := (List.getElem?_eq_some_iff.1 hx_).1
  refine cR fun _ hK31_ => ?_
  refine sm (vP (some ⟨t.a, 0, none⟩)) ?_
  refine sv (v := (vP (some ⟨t.a, 0, none⟩))) (by kernel_rfl) ?_
  refine sv (v := (vP (some ⟨t.a, 0, none⟩))) (by kernel_rfl) ?_
  refine sv (v := t.iv) (x_load1 rfl underlying76 rfl ((Holds.rd H23_ 4 rfl) 0 t.iv rfl)) ?_
  refine sm (vI .i64 (i18_ : Int)) ?_
  have hr32_ := Holds.sl_RSw H23_ 1 rfl
  refine sv (v := (vP (some ⟨(sb t.iv), so t.iv + (i18_ * 2 + 0), none⟩))) (x_idxSlR (v := t.iv) rfl hr32_ rfl underlying76 z24 (by omega) (by omega) (by omega : _ = i18_) rfl) ?_
  refine sv (v := (vA #[(vI .i64 x_.key), (vI .i64 x_.val)])) (x_loadN (vs := [(vI .i64 x_.key), (vI .i64 x_.val)]) rfl underlying24 rfl z24 rfl (SlRd.cells (Holds.slrd H23_ 1 rfl) (i18_ * 2 + 0) (fm_cells EL.len hx_ (i := 0) rfl))) ?_
  refine S_list (T_alloc z24 H23_ ?_)
  intro b33_ w34_ S36_ H35_
  have S37_ := Same.trans S26_ S36_
  refine S_list0 (T_storeN (vs := [(vI .i64 x_.key), (vI .i64 x_.val)]) rfl rfl z24 rfl (by simp [Value.oneCell']) H35_ 0 rfl (Nat.le_of_ble_eq_true (by rfl)) ?_)
  intro w38_ S40_ H39_
  have S41_ := Same.trans S37_ S40_
  refine wn (hK31_ _ _ ?_)
  refine C_seq (fun _ hK42_ => ?_)
  refine A_start (S := fun w => Rd b4_ [(vI .i64 e.key), (vI .i64 e.val)] w ∧ Rd t.a [t.iv, (vS none 0 0), (vP (some ⟨c, 0, none⟩))] w ∧ Rd c [(vP (some ⟨fl, 0, none⟩)), (Value.func (.func 16) #[] #[])] w ∧ Rd fl [(vS fa 0 fc)] w ∧ Sub R (hp w)) (N := 8) foll rfl rfl ?_
  have H43_ := Holds.drew_ H39_
  have hq44_ := And.intro (Holds.rd H43_ 4 rfl) (And.intro (Holds.rd H43_ 5 rfl) (And.intro (Holds.rd H43_ 6 rfl) (And.intro (Holds.rd H43_ 7 rfl) ((Holds.ro_at H43_ 1 rfl)))))
  refine A_tk 0 (v := (vP (some ⟨t.a, 0, none⟩))) rfl (by kernel_rfl) (fun w hS => x_move rfl) hq44_ ?_
  refine A_tk 1 (v := (vP (some ⟨t.a, 0, none⟩))) rfl (by kernel_rfl) (fun w hS => by kernel_rfl) hq44_ ?_
  refine A_tk 2 (v := (vP (some ⟨t.a, 0, none⟩))) rfl (by kernel_rfl) (fun w hS => by kernel_rfl) hq44_ ?_
  refine A_tk 3 (v := t.iv) rfl (by kernel_rfl) (fun w hS => x_load1 rfl underlying76 rfl (hS.2.1 0 t.iv rfl)) hq44_ ?_
  refine A_tk 4 (v := (vI .i64 (i18_ : Int))) rfl (by kernel_rfl) (fun w hS => x_move rfl) hq44_ ?_
  refine A_tk 5 (v := (vA #[(vI .i64 e.key), (vI .i64 e.val)])) rfl (by kernel_rfl) (fun w hS => x_loadN (vs := [(vI .i64 e.key), (vI .i64 e.val)]) rfl underlying24 rfl z24 rfl (Rd.cells hS.1 0 rfl)) hq44_ ?_
  refine A_tk 6 (v := (vP (some ⟨(sb t.iv), so t.iv + (i18_ * 2 + 0), none⟩))) rfl (by kernel_rfl) (fun w hS => x_idxSlR (v := t.iv) rfl hr32_ rfl underlying76 z24 (by omega) (by omega) (by omega : _ = i18_) rfl) hq44_ ?_
  refine A_ready (i := 7) (rs := []) (by kernel_rfl) ?_
  refine AllR.cons ?_ AllR.nil
  refine A_op0 (ls' := #[true, true, true, true, true, true, true, true]) rfl (by kernel_rfl) (T_storeSlN (vs := [(vI .i64 e.key), (vI .i64 e.val)]) (k := i18_ * 2 + 0) rfl rfl z24 rfl (by simp [Value.oneCell']) H43_ 2 rfl (by rw [fr_len EL.len]; simp only [List.length_cons, List.length_nil]; omega) (Nat.zero_lt_succ _) rfl rfl ?_)
  intro w45_ S47_ H46_
  have S48_ := Same.trans (Same.trans S41_ (Same.drew _)) S47_
  refine ⟨⟨Holds.rd H46_ 4 rfl, Holds.rd H46_ 5 rfl, Holds.rd H46_ 6 rfl, Holds.rd H46_ 7 rfl, (Holds.ro_at H46_ 1 rfl)⟩, ?_⟩
  refine A_done (by kernel_rfl) ?_
  refine (X_then (hK42_ _ _ ?_))
  refine cR fun _ hK49_ => ?_
  refine sv (v := (vA #[(vI .i64 x_.key), (vI .i64 x_.val)])) (x_loadN (vs := [(vI .i64 x_.key), (vI .i64 x_.val)]) rfl underlying24 rfl z24 rfl (Rd.cells (Holds.rd H46_ 0 rfl) 0 rfl)) ?_
  refine S_list0 (T_storeN (vs := [(vI .i64 x_.key), (vI .i64 x_.val)]) rfl rfl z24 rfl (by simp [Value.oneCell']) H46_ 3 rfl (Nat.le_of_ble_eq_true (by rfl)) ?_)
  intro w50_ S52_ H51_
  have S53_ := Same.trans S48_ S52_
  refine sv (v := (vB true)) (x_assign rfl) ?_
  refine wn (hK49_ _ _ ?_)
  refine C_ret (X_thenR ?_)
  refine R_any (v := (vT #[(vA #[(vI .i64 x_.key), (vI .i64 x_.val)]), (vB true)])) (run_results2 rfl ⟨_, rfl, load_resN underlying24 rfl z24 rfl (vs := [(vI .i64 x_.key), (vI .i64 x_.val)]) (Holds.cl_cells H51_ 3 rfl 0 rfl)⟩ rfl) ?_
  have H54_ := Holds.resl H51_ 2 rfl (el_put hx_ : List.take (i18_ * 2 + 0) (t.xs.flatMap EL.cells) ++ [(vI .i64 e.key), (vI .i64 e.val)] ++ List.drop (i18_ * 2 + 0 + List.length [(vI .i64 e.key), (vI .i64 e.val)]) (t.xs.flatMap EL.cells) = (t.xs.set i18_ e).flatMap EL.cells) (by first | (simp; done) | (simp; omega) : (List.length t.xs) = (List.length (t.xs.set i18_ e)))
  have H55_ := ((Holds.bring (Holds.bring H54_ 2 rfl) 5 rfl) :)
  have H56_ := Holds.leafI H55_
  have H57_ := Holds.pkF H56_ [2, 0, 3, 3] 3
  exact ⟨_, _, rfl, ⟨(leafB ⟨t.a, t.iv, (vS none 0 0), (t.xs.set i18_ e)⟩), x_, true, rfl, rfl, (ins_leaf_set (t := t) hx_ hs hxk_)⟩, S53_, H57_⟩
 ·skip
  obtain ⟨hil_, hlo_, hhi_⟩ := he20_.2 c30_f
  refine C_skip (X_then (hK28_ _ _ ?_))
  refine C_seq (fun _ hK58_ => ?_)
  refine cR fun _ hK59_ => ?_
  refine sm (vP (some ⟨t.a, 0, none⟩)) ?_
  refine sv (v := (vP (some ⟨t.a, 0, none⟩))) (by kernel_rfl) ?_
  refine sv (v := (vP (some ⟨t.a, 1, none⟩))) (by kernel_rfl) ?_
  refine sv (v := (vS none 0 0)) (x_load1 rfl underlying77 rfl ((Holds.rd H23_ 4 rfl) 1 (vS none 0 0) rfl)) ?_
  refine sv (v := (vI .i64 0)) (x_lenS rfl underlying77) ?_
  refine sv (v := (vB true)) (x_bin rfl rfl rfl) ?_
  refine wn (hK59_ _ _ ?_)
  refine C_condT rfl ?_
  refine C_seq (fun _ hK60_ => ?_)
  refine A_start (S := fun w => Rd b4_ [(vI .i64 e.key), (vI .i64 e.val)] w ∧ Rd c [(vP (some ⟨fl, 0, none⟩)), (Value.func (.func 16) #[] #[])] w ∧ Rd fl [(vS fa 0 fc)] w ∧ Sub R (hp w)) (N := 6) foll rfl rfl ?_
  have H61_ := Holds.drew_ H23_
  have hq62_ := And.intro (Holds.rd H61_ 3 rfl) (And.intro (Holds.rd H61_ 5 rfl) (And.intro (Holds.rd H61_ 6 rfl) ((Holds.ro_at H61_ 0 rfl))))
  refine A_tk 0 (v := (vP (some ⟨t.a, 0, none⟩))) rfl (by kernel_rfl) (fun w hS => x_move rfl) hq62_ ?_
  refine A_tk 1 (v := (vP (some ⟨t.a, 0, none⟩))) rfl (by kernel_rfl) (fun w hS => by kernel_rfl) hq62_ ?_
  refine A_tk 2 (v := (vP (some ⟨t.a, 0, none⟩))) rfl (by kernel_rfl) (fun w hS => by kernel_rfl) hq62_ ?_
  refine A_tk 3 (v := (vI .i64 (i18_ : Int))) rfl (by kernel_rfl) (fun w hS => x_move rfl) hq62_ ?_
  refine A_tk 4 (v := (vA #[(vI .i64 e.key), (vI .i64 e.val)])) rfl (by kernel_rfl) (fun w hS => x_loadN (vs := [(vI .i64 e.key), (vI .i64 e.val)]) rfl underlying24 rfl z24 rfl (Rd.cells hS.1 0 rfl)) hq62_ ?_
  refine A_ready (i := 5) (rs := []) (by kernel_rfl) ?_
  refine AllR.cons ?_ AllR.nil
  have H65_ := ((Holds.bring (Holds.bring (Holds.bring H61_ 1 rfl) 4 rfl) 2 rfl) :)
  refine A_op (ls' := #[true, true, true, true, true, true]) rfl (by kernel_rfl) (T_call (al := [(vP (some ⟨t.a, 0, none⟩)), (vI .i64 (i18_ : Int)), (vA #[(vI .i64 e.key), (vI .i64 e.val)])]) (pre := [cl t.a 79 [t.iv, (vS none 0 0), (vP (some ⟨c, 0, none⟩))], sl 24 2 t.iv (List.length t.xs) (t.xs.flatMap EL.cells)]) rfl rfl cb57 (btInsE R t.a i18_ t.iv (vS none 0 0) (vP (some ⟨c, 0, none⟩)) t.xs e (hil_) (hn)) H65_ ?_)
  rintro v63_ p69_ w66_ ⟨iv64_, rfl, rfl⟩ S68_ H67_
  have S70_ := Same.trans (Same.trans S26_ (Same.drew _)) S68_
  refine ⟨⟨Holds.rd H67_ 4 rfl, Holds.rd H67_ 5 rfl, Holds.rd H67_ 6 rfl, (Holds.ro_at H67_ 0 rfl)⟩, ?_⟩
  refine A_done (by kernel_rfl) ?_
  refine (X_then (hK60_ _ _ ?_))
  refine C_ret (X_thenR ?_)
  refine R_any (v := (vT #[(vA #[(vI .i64 0), (vI .i64 0)]), (vB false)])) (run_results2 rfl ⟨_, rfl, load_resN underlying24 rfl z24 rfl (vs := [(vI .i64 0), (vI .i64 0)]) (Holds.cl_cells H67_ 3 rfl 0 rfl)⟩ rfl) ?_
  have H71_ := ((Holds.bring (Holds.bring H67_ 2 rfl) 2 rfl) :)
  have H72_ := Holds.leafI H71_
  have H73_ := Holds.pkF H72_ [1, 0, 2, 2] 2
  exact ⟨_, _, rfl, ⟨(leafB ⟨t.a, iv64_, (vS none 0 0), (t.xs.take i18_ ++ e :: t.xs.drop i18_)⟩), zE, false, (congrArg (fun l => vT (List.toArray l)) (lcons (congrArg (fun l => vA (List.toArray l)) (lcons (congrArg (vI .i64) ((by first | rfl | omega | (simp; done) | (simp; omega)) : 0 = zE.key)) (lcons (congrArg (vI .i64) ((by first | rfl | omega | (simp; done) | (simp; omega)) : 0 = zE.val)) rfl))) rfl)), rfl, (ins_leaf (t := t) hlo_ hhi_)⟩, S70_, H73_⟩
end Go.Proofs.Ytdfjdmmmlidamaa
set_option linter.unusedVariables false
set_option linter.unusedSimpArgs false
namespace Go.Proofs.Ytdfjdmmmlidamaa
open Go Go.RowKit Gw Try
open Go.Value renaming int → vI, bool → vB, slice → vS, pointer → vP, agg → vA, tuple → vT

set_option maxHeartbeats 16000000 in
theorem btInsN (R : HP) (c fl fc : Nat) (fa : Option Addr) (h : Nat) (t : BN) (ks : List (BT h)) (e : EL) (mx : Nat) (hw : (nodeB t ks).Wf) (hs : SrtE (nodeB t ks).el) (hn : (nodeB t ks).el.length ≤ 1000000) (hm : 3 ≤ mx ∧ mx ≤ 1000) (ih : ∀ (R : HP) (c fl fc : Nat) (fa : Option Addr) (k : BT h) (e : EL) (mx : Nat) (hwk : k.Wf) (hsk : SrtE k.el) (hnk : k.el.length ≤ 1000000) (hmk : 3 ≤ mx ∧ mx ≤ 1000), Tri Try.prog 38 #[(vP (some ⟨k.a, 0, none⟩)), (vA #[(vI .i64 e.key), (vI .i64 e.val)]), (vI .i64 (mx : Int))] R [btp c k, cl c 58 [(vP (some ⟨fl, 0, none⟩)), (Value.func (.func 16) #[] #[])], cl fl 74 [(vS fa 0 fc)]] (fun v__ post__ => ∃ (k' : BT h) (o : EL) (b : Bool), v__ = (vT #[(vA #[(vI .i64 o.key), (vI .i64 o.val)]), (vB b)]) ∧ post__ = [btp c k', cl c 58 [(vP (some ⟨fl, 0, none⟩)), (Value.func (.func 16) #[] #[])], cl fl 74 [(vS fa 0 fc)]] ∧ (Ins e k k' o b))) :
    Tri Try.prog 38 #[(vP (some ⟨t.a, 0, none⟩)), (vA #[(vI .i64 e.key), (vI .i64 e.val)]), (vI .i64 (mx : Int))] R [btp c (nodeB t ks), cl c 58 [(vP (some ⟨fl, 0, none⟩)), (Value.func (.func 16) #[] #[])], cl fl 74 [(vS fa 0 fc)]] (fun v__ post__ => ∃ (t' : BT (h + 1)) (o : EL) (b : Bool), v__ = (vT #[(vA #[(vI .i64 o.key), (vI .i64 o.val)]), (vB b)]) ∧ post__ = [btp c t', cl c 58 [(vP (some ⟨fl, 0, none⟩)), (Value.func (.func 16) #[] #[])], cl fl 74 [(vS fa 0 fc)]] ∧ (Ins e (nodeB t ks) t' o b)) := by
 have hkl := ((BT.wfS t ks).1 hw).1
 have hkm : (ks.map BT.a).length = ks.length := List.length_map ..
 obtain ⟨hso, hno⟩ := own_srt (t := t) (ks := ks) hw hs
 have hn2 : t.xs.length ≤ 1000000 := Nat.le_trans hno hn
 refine Tri.into (n := 115) (al := [(vP (some ⟨t.a, 0, none⟩)), (vA #[(vI .i64 e.key), (vI .i64 e.val)]), (vI .i64 (mx : Int))]) func38 rfl ntmps38 rfl rfl fun w F H => ?_
 have H1_ := ((Holds.bring H 1 rfl) :)
 have H2_ := Holds.nodeO H1_
 refine cR fun _ hK3_ => ?_
 refine S_list (T_box (v := (vA #[(vI .i64 e.key), (vI .i64 e.val)])) rfl H2_ ?_)
 intro b4_ w5_ S7_ H6_
 have S8_ := Same.trans (Same.refl w) S7_
 refine S_list (T_alloc z24 H6_ ?_)
 intro b9_ w10_ S12_ H11_
 have S13_ := Same.trans S8_ S12_
 refine sv (v := (vB false)) (x_assign rfl) ?_
 refine wn (hK3_ _ _ ?_)
 refine C_seq (fun _ hK14_ => ?_)
 refine A_start (S := fun w => Rd b4_ [(vI .i64 e.key), (vI .i64 e.val)] w ∧ Rd t.a [t.iv, t.cv, (vP (some ⟨c, 0, none⟩))] w ∧ SlRd t.iv (t.xs.flatMap EL.cells) w ∧ SlRd t.cv (pBs (ks.map BT.a)) w ∧ Rd c [(vP (some ⟨fl, 0, none⟩)), (Value.func (.func 16) #[] #[])] w ∧ Rd fl [(vS fa 0 fc)] w ∧ Sub R (hp w)) (N := 18) foll rfl rfl ?_
 have H15_ := Holds.drew_ H11_
 have hq16_ := And.intro (Holds.rd H15_ 1 rfl) (And.intro (Holds.rd H15_ 2 rfl) (And.intro (Holds.slrd H15_ 3 rfl) (And.intro (Holds.slrd H15_ 4 rfl) (And.intro (Holds.rd H15_ 7 rfl) (And.intro (Holds.rd H15_ 8 rfl) ((Holds.ro_at H15_ 6 rfl)))))))
 refine A_tk 0 (v := (vP (some ⟨t.a, 0, none⟩))) rfl (by kernel_rfl) (fun w hS => x_move rfl) hq16_ ?_
 refine A_tk 1 (v := (vP (some ⟨t.a, 0, none⟩))) rfl (by kernel_rfl) (fun w hS => by kernel_rfl) hq16_ ?_
 refine A_tk 2 (v := (vP (some ⟨t.a, 0, none⟩))) rfl (by kernel_rfl) (fun w hS => by kernel_rfl) hq16_ ?_
 refine A_tk 3 (v := t.iv) rfl (by kernel_rfl) (fun w hS => x_load1 rfl underlying76 rfl (hS.2.1 0 t.iv rfl)) hq16_ ?_
 refine A_tk 4 (v := (vA #[(vI .i64 e.key), (vI .i64 e.val)])) rfl (by kernel_rfl) (fun w hS => x_loadN (vs := [(vI .i64 e.key), (vI .i64 e.val)]) rfl underlying24 rfl z24 rfl (Rd.cells hS.1 0 rfl)) hq16_ ?_
 refine A_tk 5 (v := (vP (some ⟨t.a, 0, none⟩))) rfl (by kernel_rfl) (fun w hS => x_move rfl) hq16_ ?_
 refine A_tk 6 (v := (vP (some ⟨t.a, 0, none⟩))) rfl (by kernel_rfl) (fun w hS => by kernel_rfl) hq16_ ?_
 refine A_tk 7 (v := (vP (some ⟨t.a, 2, none⟩))) rfl (by kernel_rfl) (fun w hS => by kernel_rfl) hq16_ ?_
 refine A_tk 8 (v := (vP (some ⟨c, 0, none⟩))) rfl (by kernel_rfl) (fun w hS => x_load1 rfl underlying60 rfl (hS.2.1 2 (vP (some ⟨c, 0, none⟩)) rfl)) hq16_ ?_
 refine A_tk 9 (v := (vP (some ⟨c, 0, none⟩))) rfl (by kernel_rfl) (fun w hS => by kernel_rfl) hq16_ ?_
 refine A_tk 10 (v := (vP (some ⟨c, 1, none⟩))) rfl (by kernel_rfl) (fun w hS => by kernel_rfl) hq16_ ?_
 refine A_tk 11 (v := (Value.func (.func 16) #[] #[])) rfl (by kernel_rfl) (fun w hS => x_load1 rfl underlying53 rfl (hS.2.2.2.2.1 1 (Value.func (.func 16) #[] #[]) rfl)) hq16_ ?_
 refine A_ready (i := 12) (rs := []) (by kernel_rfl) ?_
 refine AllR.cons ?_ AllR.nil
 have H21_ := ((Holds.bring (Holds.bring H15_ 3 rfl) 6 rfl) :)
 refine A_op (ls' := #[true, true, true, true, true, true, true, true, true, true, true, true, true, false, false, false, false, false]) rfl (by kernel_rfl) (T_call (al := [t.iv, (vA #[(vI .i64 e.key), (vI .i64 e.val)]), (Value.func (.func 16) #[] #[])]) (pre := [sl 24 2 t.iv (List.length t.xs) (t.xs.flatMap EL.cells)]) rfl rfl cb56 (btFind R t.iv t.xs e (hso) (hn2)) H21_ ?_)
 rintro v17_ p25_ w22_ ⟨i18_, b19_, rfl, rfl, he20_⟩ S24_ H23_
 have S26_ := Same.trans (Same.trans S13_ (Same.drew _)) S24_
 refine ⟨⟨Holds.rd H23_ 3 rfl, Holds.rd H23_ 4 rfl, Holds.slrd H23_ 1 rfl, Holds.slrd H23_ 5 rfl, Holds.rd H23_ 7 rfl, Holds.rd H23_ 8 rfl, (Holds.ro_at H23_ 0 rfl)⟩, ?_⟩
 have hq27_ := And.intro (Holds.rd H23_ 3 rfl) (And.intro (Holds.rd H23_ 4 rfl) (And.intro (Holds.slrd H23_ 1 rfl) (And.intro (Holds.slrd H23_ 5 rfl) (And.intro (Holds.rd H23_ 7 rfl) (And.intro (Holds.rd H23_ 8 rfl) ((Holds.ro_at H23_ 0 rfl)))))))
 refine A_tk 13 (v := (vT #[(vI .i64 (i18_ : Int)), (vB b19_)])) rfl (by kernel_rfl) (fun w hS => x_move rfl) hq27_ ?_
 refine A_tk 14 (v := (vI .i64 (i18_ : Int))) rfl (by kernel_rfl) (fun w hS => by kernel_rfl) hq27_ ?_
 refine A_tk 15 (v := (vB b19_)) rfl (by kernel_rfl) (fun w hS => by kernel_rfl) hq27_ ?_
 refine A_tk 16 (v := (vI .i64 (i18_ : Int))) rfl (by kernel_rfl) (fun w hS => x_assign rfl) hq27_ ?_
 refine A_tk 17 (v := (vB b19_)) rfl (by kernel_rfl) (fun w hS => x_assign rfl) hq27_ ?_
 refine A_done (by kernel_rfl) ?_
 refine (X_then (hK14_ _ _ ?_))
 refine C_seq (fun _ hK28_ => ?_)
 refine cR fun _ hK29_ => ?_
 refine sm (vB b19_) ?_
 refine wn (hK29_ _ _ ?_)
 refine C_cond (b := b19_) rfl (fun c30_t => ?_) (fun c30_f => ?_)
 ·skip
  obtain ⟨x_, hx_, hxk_⟩ := he20_.1 c30_t
  have hxl_ := (List.getElem?_eq_some_iff.1 hx_).1
  refine cR fun _ hK31_ => ?_
  refine sm (vP (some ⟨t.a, 0, none⟩)) ?_
  refine sv (v := (vP (some ⟨t.a, 0, none⟩))) (by kernel_rfl) ?_
  refine sv (v := (vP (some ⟨t.a, 0, none⟩))) (by kernel_rfl) ?_
  refine sv (v := t.iv) (x_load1 rfl underlying76 rfl ((Holds.rd H23_ 4 rfl) 0 t.iv rfl)) ?_
  refine sm (vI .i64 (i18_ : Int)) ?_
  have hr32_ := Holds.sl_RSw H23_ 1 rfl
  refine sv (v := (vP (some ⟨(sb t.iv), so t.iv + (i18_ * 2 + 0), none⟩))) (x_idxSlR (v := t.iv) rfl hr32_ rfl underlying76 z24 (by omega) (by omega) (by omega : _ = i18_) rfl) ?_
  refine sv (v := (vA #[(vI .i64 x_.key), (vI .i64 x_.val)])) (x_loadN (vs := [(vI .i64 x_.key), (vI .i64 x_.val)]) rfl underlying24 rfl z24 rfl (SlRd.cells (Holds.slrd H23_ 1 rfl) (i18_ * 2 + 0) (fm_cells EL.len hx_ (i := 0) rfl))) ?_
  refine S_list (T_alloc z24 H23_ ?_)
  intro b33_ w34_ S36_ H35_
  have S37_ := Same.trans S26_ S36_
  refine S_list0 (T_storeN (vs := [(vI .i64 x_.key), (vI .i64 x_.val)]) rfl rfl z24 rfl (by simp [Value.oneCell']) H35_ 0 rfl (Nat.le_of_ble_eq_true (by rfl)) ?_)
  intro w38_ S40_ H39_
  have S41_ := Same.trans S37_ S40_
  refine wn (hK31_ _ _ ?_)
  refine C_seq (fun _ hK42_ => ?_)
  refine A_start (S := fun w => Rd b4_ [(vI .i64 e.key), (vI .i64 e.val)] w ∧ Rd t.a [t.iv, t.cv, (vP (some ⟨c, 0, none⟩))] w ∧ SlRd t.cv (pBs (ks.map BT.a)) w ∧ Rd c [(vP (some ⟨fl, 0, none⟩)), (Value.func (.func 16) #[] #[])] w ∧ Rd fl [(vS fa 0 fc)] w ∧ Sub R (hp w)) (N := 8) foll rfl rfl ?_
  have H43_ := Holds.drew_ H39_
  have hq44_ := And.intro (Holds.rd H43_ 4 rfl) (And.intro (Holds.rd H43_ 5 rfl) (And.intro (Holds.slrd H43_ 6 rfl) (And.intro (Holds.rd H43_ 8 rfl) (And.intro (Holds.rd H43_ 9 rfl) ((Holds.ro_at H43_ 1 rfl))))))
  refine A_tk 0 (v := (vP (some ⟨t.a, 0, none⟩))) rfl (by kernel_rfl) (fun w hS => x_move rfl) hq44_ ?_
  refine A_tk 1 (v := (vP (some ⟨t.a, 0, none⟩))) rfl (by kernel_rfl) (fun w hS => by kernel_rfl) hq44_ ?_
  refine A_tk 2 (v := (vP (some ⟨t.a, 0, none⟩))) rfl (by kernel_rfl) (fun w hS => by kernel_rfl) hq44_ ?_
  refine A_tk 3 (v := t.iv) rfl (by kernel_rfl) (fun w hS => x_load1 rfl underlying76 rfl (hS.2.1 0 t.iv rfl)) hq44_ ?_
  refine A_tk 4 (v := (vI .i64 (i18_ : Int))) rfl (by kernel_rfl) (fun w hS => x_move rfl) hq44_ ?_
  refine A_tk 5 (v := (vA #[(vI .i64 e.key), (vI .i64 e.val)])) rfl (by kernel_rfl) (fun w hS => x_loadN (vs := [(vI .i64 e.key), (vI .i64 e.val)]) rfl underlying24 rfl z24 rfl (Rd.cells hS.1 0 rfl)) hq44_ ?_
  refine A_tk 6 (v := (vP (some ⟨(sb t.iv), so t.iv + (i18_ * 2 + 0), none⟩))) rfl (by kernel_rfl) (fun w hS => x_idxSlR (v := t.iv) rfl hr32_ rfl underlying76 z24 (by omega) (by omega) (by omega : _ = i18_) rfl) hq44_ ?_
  refine A_ready (i := 7) (rs := []) (by kernel_rfl) ?_
  refine AllR.cons ?_ AllR.nil
  refine A_op0 (ls' := #[true, true, true, true, true, true, true, true]) rfl (by kernel_rfl) (T_storeSlN (vs := [(vI .i64 e.key), (vI .i64 e.val)]) (k := i18_ * 2 + 0) rfl rfl z24 rfl (by simp [Value.oneCell']) H43_ 2 rfl (by rw [fr_len EL.len]; simp only [List.length_cons, List.length_nil]; omega) (Nat.zero_lt_succ _) rfl rfl ?_)
  intro w45_ S47_ H46_
  have S48_ := Same.trans (Same.trans S41_ (Same.drew _)) S47_
  refine ⟨⟨Holds.rd H46_ 4 rfl, Holds.rd H46_ 5 rfl, Holds.slrd H46_ 6 rfl, Holds.rd H46_ 8 rfl, Holds.rd H46_ 9 rfl, (Holds.ro_at H46_ 1 rfl)⟩, ?_⟩
  refine A_done (by kernel_rfl) ?_
  refine (X_then (hK42_ _ _ ?_))
  refine cR fun _ hK49_ => ?_
  refine sv (v := (vA #[(vI .i64 x_.key), (vI .i64 x_.val)])) (x_loadN (vs := [(vI .i64 x_.key), (vI .i64 x_.val)]) rfl underlying24 rfl z24 rfl (Rd.cells (Holds.rd H46_ 0 rfl) 0 rfl)) ?_
  refine S_list0 (T_storeN (vs := [(vI .i64 x_.key), (vI .i64 x_.val)]) rfl rfl z24 rfl (by simp [Value.oneCell']) H46_ 3 rfl (Nat.le_of_ble_eq_true (by rfl)) ?_)
  intro w50_ S52_ H51_
  have S53_ := Same.trans S48_ S52_
  refine sv (v := (vB true)) (x_assign rfl) ?_
  refine wn (hK49_ _ _ ?_)
  refine C_ret (X_thenR ?_)
  refine R_any (v := (vT #[(vA #[(vI .i64 x_.key), (vI .i64 x_.val)]), (vB true)])) (run_results2 rfl ⟨_, rfl, load_resN underlying24 rfl z24 rfl (vs := [(vI .i64 x_.key), (vI .i64 x_.val)]) (Holds.cl_cells H51_ 3 rfl 0 rfl)⟩ rfl) ?_
  have H54_ := Holds.resl H51_ 2 rfl (el_put hx_ : List.take (i18_ * 2 + 0) (t.xs.flatMap EL.cells) ++ [(vI .i64 e.key), (vI .i64 e.val)] ++ List.drop (i18_ * 2 + 0 + List.length [(vI .i64 e.key), (vI .i64 e.val)]) (t.xs.flatMap EL.cells) = (t.xs.set i18_ e).flatMap EL.cells) (by first | (simp; done) | (simp; omega) : (List.length t.xs) = (List.length (t.xs.set i18_ e)))
  have H55_ := ((Holds.bring (Holds.bring (Holds.bring (Holds.bring H54_ 7 rfl) 7 rfl) 4 rfl) 7 rfl) :)
  have H56_ := Holds.nodeI H55_
  have H57_ := Holds.pkF H56_ [2, 0, 3, 3] 3
  exact ⟨_, _, rfl, ⟨(nodeB ⟨t.a, t.iv, t.cv, (t.xs.set i18_ e)⟩ ks), x_, true, rfl, rfl, (ins_node_set (t := t) hw hx_ hs hxk_)⟩, S53_, H57_⟩
 ·skip
  obtain ⟨hil_, hlo_, hhi_⟩ := he20_.2 c30_f
  obtain ⟨k_, hk_, _⟩ := elem_at ks i18_ (by omega)
  obtain ⟨hsk_, hnk_, hwk_⟩ := kid_srt (t := t) hw hk_ hs
  refine C_skip (X_then (hK28_ _ _ ?_))
  refine C_seq (fun _ hK58_ => ?_)
  refine cR fun _ hK59_ => ?_
  refine sm (vP (some ⟨t.a, 0, none⟩)) ?_
  refine sv (v := (vP (some ⟨t.a, 0, none⟩))) (by kernel_rfl) ?_
  refine sv (v := (vP (some ⟨t.a, 1, none⟩))) (by kernel_rfl) ?_
  refine sv (v := t.cv) (x_load1 rfl underlying77 rfl ((Holds.rd H23_ 4 rfl) 1 t.cv rfl)) ?_
  refine sv (v := (vI .i64 ((List.length (ks.map BT.a)) : Int))) (x_lenSl rfl H23_ 5 rfl underlying77) ?_
  refine sv (v := (vB (decide (((List.length (ks.map BT.a)) : Int) = 0)))) (x_bin rfl rfl rfl) ?_
  refine wn (hK59_ _ _ ?_)
  refine C_cond (b := decide (((List.length (ks.map BT.a)) : Int) = 0)) rfl (fun c60_t => ?_) (fun c60_f => ?_)
  ·have c60_tp : ((List.length (ks.map BT.a)) : Int) = 0 := of_decide_eq_true c60_t
   simp only [List.length_map] at c60_tp; omega
  ·have c60_fp : ¬ (((List.length (ks.map BT.a)) : Int) = 0) := of_decide_eq_false c60_f
   refine C_skip (X_then (hK58_ _ _ ?_))
   refine C_seq (fun _ hK61_ => ?_)
   refine cR fun _ hK62_ => ?_
   refine sm (vP (some ⟨t.a, 0, none⟩)) ?_
   refine sm (vI .i64 (i18_ : Int)) ?_
   refine sm (vI .i64 (mx : Int)) ?_
   have H70_ := ((Holds.bring (Holds.bring (Holds.bring (Holds.bring (Holds.bring (Holds.bring (Holds.bring H23_ 8 rfl) 8 rfl) 8 rfl) 8 rfl) 5 rfl) 8 rfl) 6 rfl) :)
   refine S_list (T_call (al := [(vP (some ⟨t.a, 0, none⟩)), (vI .i64 (i18_ : Int)), (vI .i64 (mx : Int))]) (pre := [cl t.a 79 [t.iv, t.cv, (vP (some ⟨c, 0, none⟩))], sl 24 2 t.iv (List.length t.xs) (t.xs.flatMap EL.cells), sl 59 1 t.cv (List.length (ks.map BT.a)) (pBs (ks.map BT.a)), kids c ks, cl c 58 [(vP (some ⟨fl, 0, none⟩)), (Value.func (.func 16) #[] #[])], cl fl 74 [(vS fa 0 fc)]]) rfl rfl cb58 (btMS R c fl fc fa h t.a i18_ mx t.iv t.cv t.xs ks k_ (hkl) (hk_) (hwk_) (hn2) (Nat.le_trans (BT.top_len hwk_) (Nat.le_trans hnk_ hn)) (hm)) H70_ ?_)
   rintro v63_ p74_ w71_ hq75_ S73_ H72_
   rcases hq75_ with ⟨rfl, rfl⟩ | ⟨iv64_, cv65_, k166_, k267_, m68_, rfl, rfl, he69_⟩
   ·skip
    have S76_ := Same.trans S26_ S73_
    refine wn (hK62_ _ _ ?_)
    refine C_condF rfl ?_
    refine C_skip (X_then (hK61_ _ _ ?_))
    refine C_seq (fun _ hK78_ => ?_)
    refine A_start (S := fun w => Rd t.a [t.iv, t.cv, (vP (some ⟨c, 0, none⟩))] w ∧ SlRd t.iv (t.xs.flatMap EL.cells) w ∧ SlRd t.cv (pBs (ks.map BT.a)) w ∧ Rd c [(vP (some ⟨fl, 0, none⟩)), (Value.func (.func 16) #[] #[])] w ∧ Rd fl [(vS fa 0 fc)] w ∧ Rd b4_ [(vI .i64 e.key), (vI .i64 e.val)] w ∧ Sub R (hp w)) (N := 10) foll rfl rfl ?_
    have H79_ := Holds.drew_ H72_
    have hq80_ := And.intro (Holds.rd H79_ 1 rfl) (And.intro (Holds.slrd H79_ 2 rfl) (And.intro (Holds.slrd H79_ 3 rfl) (And.intro (Holds.rd H79_ 5 rfl) (And.intro (Holds.rd H79_ 6 rfl) (And.intro (Holds.rd H79_ 8 rfl) ((Holds.ro_at H79_ 0 rfl)))))))
    refine A_tk 0 (v := (vP (some ⟨t.a, 0, none⟩))) rfl (by kernel_rfl) (fun w hS => x_move rfl) hq80_ ?_
    refine A_tk 1 (v := (vI .i64 (i18_ : Int))) rfl (by kernel_rfl) (fun w hS => x_move rfl) hq80_ ?_
    refine A_tk 3 (v := (vA #[(vI .i64 e.key), (vI .i64 e.val)])) rfl (by kernel_rfl) (fun w hS => x_loadN (vs := [(vI .i64 e.key), (vI .i64 e.val)]) rfl underlying24 rfl z24 rfl (Rd.cells hS.2.2.2.2.2.1 0 rfl)) hq80_ ?_
    refine A_tk 4 (v := (vI .i64 (mx : Int))) rfl (by kernel_rfl) (fun w hS => x_move rfl) hq80_ ?_
    refine A_ready (i := 2) (rs := []) (by kernel_rfl) ?_
    refine AllR.cons ?_ AllR.nil
    have H82_ := ((Holds.bring (Holds.bring (Holds.bring (Holds.bring H79_ 4 rfl) 4 rfl) 3 rfl) 3 rfl) :)
    refine A_op (ls' := #[true, true, true, true, true, false, false, false, false, false]) rfl (by kernel_rfl) (T_call (al := [(vP (some ⟨t.a, 0, none⟩)), (vI .i64 (i18_ : Int))]) (pre := [cl t.a 79 [t.iv, t.cv, (vP (some ⟨c, 0, none⟩))], sl 59 1 t.cv (List.length (ks.map BT.a)) (pBs (ks.map BT.a)), kids c ks]) rfl rfl cb59 (btMC R c h t.a i18_ t.iv t.cv ks k_ (hk_)) H82_ ?_)
    rintro v81_ p86_ w83_ ⟨rfl, rfl⟩ S85_ H84_
    have S87_ := Same.trans (Same.trans S76_ (Same.drew _)) S85_
    refine ⟨⟨Holds.rd H84_ 1 rfl, Holds.slrd H84_ 4 rfl, Holds.slrd H84_ 2 rfl, Holds.rd H84_ 5 rfl, Holds.rd H84_ 6 rfl, Holds.rd H84_ 8 rfl, (Holds.ro_at H84_ 0 rfl)⟩, ?_⟩
    refine A_ready (i := 5) (rs := []) (by kernel_rfl) ?_
    refine AllR.cons ?_ AllR.nil
    have H88_ := ((Holds.bring H84_ 3 rfl) :)
    have H89_ := Holds.kids_out hk_ H88_
    have H95_ := ((Holds.bring (Holds.bring (Holds.bring (Holds.bring H89_ 7 rfl) 7 rfl) 2 rfl) 4 rfl) :)
    refine A_op (ls' := #[true, true, true, true, true, true, false, false, false, false]) rfl (by kernel_rfl) (T_call (al := [(vP (some ⟨k_.a, 0, none⟩)), (vA #[(vI .i64 e.key), (vI .i64 e.val)]), (vI .i64 (mx : Int))]) (pre := [btp c k_, cl c 58 [(vP (some ⟨fl, 0, none⟩)), (Value.func (.func 16) #[] #[])], cl fl 74 [(vS fa 0 fc)]]) rfl rfl cb38 (ih R c fl fc fa k_ e mx (hwk_) (hsk_) (Nat.le_trans hnk_ hn) (hm)) H95_ ?_)
    rintro v90_ p99_ w96_ ⟨k91_, o92_, b93_, rfl, rfl, he94_⟩ S98_ H97_
    have S100_ := Same.trans S87_ S98_
    have H101_ := ((Holds.bring (Holds.bring H97_ 4 rfl) 2 rfl) :)
    have H102_ := Holds.kids_in (i := i18_) (List.getElem?_eq_some_iff.1 hk_).1 H101_
    refine ⟨⟨Holds.rd H102_ 4 rfl, Holds.slrd H102_ 6 rfl, Holds.slrd H102_ 5 rfl, Holds.rd H102_ 2 rfl, Holds.rd H102_ 3 rfl, Holds.rd H102_ 8 rfl, (Holds.ro_at H102_ 1 rfl)⟩, ?_⟩
    have hq103_ := And.intro (Holds.rd H102_ 4 rfl) (And.intro (Holds.slrd H102_ 6 rfl) (And.intro (Holds.slrd H102_ 5 rfl) (And.intro (Holds.rd H102_ 2 rfl) (And.intro (Holds.rd H102_ 3 rfl) (And.intro (Holds.rd H102_ 8 rfl) ((Holds.ro_at H102_ 1 rfl)))))))
    refine A_tk 6 (v := (vA #[(vI .i64 o92_.key), (vI .i64 o92_.val)])) rfl (by kernel_rfl) (fun w hS => by kernel_rfl) hq103_ ?_
    refine A_tk 7 (v := (vB b93_)) rfl (by kernel_rfl) (fun w hS => by kernel_rfl) hq103_ ?_
    refine A_ready (i := 8) (rs := []) (by kernel_rfl) ?_
    refine AllR.cons ?_ AllR.nil
    refine A_op0 (ls' := #[true, true, true, true, true, true, true, true, true, false]) rfl (by kernel_rfl) (T_storeN (vs := [(vI .i64 o92_.key), (vI .i64 o92_.val)]) rfl rfl z24 rfl (by simp [Value.oneCell']) H102_ 7 rfl (Nat.le_of_ble_eq_true (by rfl)) ?_)
    intro w104_ S106_ H105_
    have S107_ := Same.trans S100_ S106_
    refine ⟨⟨Holds.rd H105_ 4 rfl, Holds.slrd H105_ 6 rfl, Holds.slrd H105_ 5 rfl, Holds.rd H105_ 2 rfl, Holds.rd H105_ 3 rfl, Holds.rd H105_ 8 rfl, (Holds.ro_at H105_ 1 rfl)⟩, ?_⟩
    have hq108_ := And.intro (Holds.rd H105_ 4 rfl) (And.intro (Holds.slrd H105_ 6 rfl) (And.intro (Holds.slrd H105_ 5 rfl) (And.intro (Holds.rd H105_ 2 rfl) (And.intro (Holds.rd H105_ 3 rfl) (And.intro (Holds.rd H105_ 8 rfl) ((Holds.ro_at H105_ 1 rfl)))))))
    refine A_tk 9 (v := (vB b93_)) rfl (by kernel_rfl) (fun w hS => x_assign rfl) hq108_ ?_
    refine A_done (by kernel_rfl) ?_
    refine (X_then (hK78_ _ _ ?_))
    refine C_ret ?_
    refine R_any (v := (vT #[(vA #[(vI .i64 o92_.key), (vI .i64 o92_.val)]), (vB b93_)])) (run_results2 rfl ⟨_, rfl, load_resN underlying24 rfl z24 rfl (vs := [(vI .i64 o92_.key), (vI .i64 o92_.val)]) (Holds.cl_cells H105_ 7 rfl 0 rfl)⟩ rfl) ?_
    have H109_ := Holds.resl H105_ 5 rfl (by rw [kids_set_a hk_ he94_.a] : pBs (ks.map BT.a) = pBs ((ks.set i18_ k91_).map BT.a)) (by first | (simp; done) | (simp; omega) : (List.length (ks.map BT.a)) = (List.length ((ks.set i18_ k91_).map BT.a)))
    have H110_ := ((Holds.bring (Holds.bring (Holds.bring H109_ 5 rfl) 6 rfl) 6 rfl) :)
    have H111_ := Holds.nodeI H110_
    have H112_ := Holds.pkF H111_ [1, 0, 0, 0] 2
    exact ⟨_, _, rfl, ⟨(nodeB ⟨t.a, t.iv, t.cv, t.xs⟩ (ks.set i18_ k91_)), o92_, b93_, rfl, rfl, (ins_node (t := t) hw hk_ hs hlo_ hhi_ he94_)⟩, S107_, H112_⟩
   ·skip
    have S77_ := Same.trans S26_ S73_
    obtain ⟨hw2_, he2_⟩ := two_el (t := t) (iv := iv64_) (cv := cv65_) hw hk_ he69_
    have hp2_ := pl_two (m := m68_) hil_ hlo_ hhi_
    have hs2_ := (congrArg SrtE he2_).mpr hs
    have hn3_ := (congrArg (fun l : List EL => l.length ≤ 1000000) he2_).mpr hn
    have hx2_ : (t.xs.take i18_ ++ m68_ :: t.xs.drop i18_)[i18_]? = some m68_ := at_mid hil_
    have hxl2_ := (List.getElem?_eq_some_iff.1 hx2_).1
    have hk1_ : (ks.take i18_ ++ k166_ :: k267_ :: ks.drop (i18_ + 1))[i18_]? = some k166_ := at_mid (by omega)
    have hk2_ : (ks.take i18_ ++ k166_ :: k267_ :: ks.drop (i18_ + 1))[i18_ + 1]? = some k267_ := at_mid1 (by omega)
    have hn4_ := Nat.le_trans (own_srt (t := (⟨t.a, iv64_, cv65_, (t.xs.take i18_ ++ m68_ :: t.xs.drop i18_)⟩ : BN)) hw2_ hs2_).2 hn3_
    dsimp only at hn4_
    refine wn (hK62_ _ _ ?_)
    refine C_condT rfl ?_
    refine cR fun _ hK113_ => ?_
    refine sm (vP (some ⟨t.a, 0, none⟩)) ?_
    refine sv (v := (vP (some ⟨t.a, 0, none⟩))) (by kernel_rfl) ?_
    refine sv (v := (vP (some ⟨t.a, 0, none⟩))) (by kernel_rfl) ?_
    refine sv (v := iv64_) (x_load1 rfl underlying76 rfl ((Holds.rd H72_ 1 rfl) 0 iv64_ rfl)) ?_
    refine sm (vI .i64 (i18_ : Int)) ?_
    have hr114_ := Holds.sl_RSw H72_ 2 rfl
    refine sv (v := (vP (some ⟨(sb iv64_), so iv64_ + (i18_ * 2 + 0), none⟩))) (x_idxSlR (v := iv64_) rfl hr114_ rfl underlying76 z24 (by omega) (by omega) (by omega : _ = i18_) rfl) ?_
    refine sv (v := (vA #[(vI .i64 m68_.key), (vI .i64 m68_.val)])) (x_loadN (vs := [(vI .i64 m68_.key), (vI .i64 m68_.val)]) rfl underlying24 rfl z24 rfl (SlRd.cells (Holds.slrd H72_ 2 rfl) (i18_ * 2 + 0) (fm_cells EL.len hx2_ (i := 0) rfl))) ?_
    refine S_list (T_alloc z24 H72_ ?_)
    intro b115_ w116_ S118_ H117_
    have S119_ := Same.trans S77_ S118_
    refine S_list0 (T_storeN (vs := [(vI .i64 m68_.key), (vI .i64 m68_.val)]) rfl rfl z24 rfl (by simp [Value.oneCell']) H117_ 0 rfl (Nat.le_of_ble_eq_true (by rfl)) ?_)
    intro w120_ S122_ H121_
    have S123_ := Same.trans S119_ S122_
    refine wn (hK113_ _ _ ?_)
    refine C_block ?_
    refine C_seq (fun _ hK124_ => ?_)
    refine A_start (S := fun w => Rd b115_ [(vI .i64 m68_.key), (vI .i64 m68_.val)] w ∧ Rd t.a [iv64_, cv65_, (vP (some ⟨c, 0, none⟩))] w ∧ SlRd iv64_ ((t.xs.take i18_ ++ m68_ :: t.xs.drop i18_).flatMap EL.cells) w ∧ SlRd cv65_ (pBs ((ks.take i18_ ++ k166_ :: k267_ :: ks.drop (i18_ + 1)).map BT.a)) w ∧ Rd c [(vP (some ⟨fl, 0, none⟩)), (Value.func (.func 16) #[] #[])] w ∧ Rd fl [(vS fa 0 fc)] w ∧ Rd b4_ [(vI .i64 e.key), (vI .i64 e.val)] w ∧ Sub R (hp w)) (N := 11) foll rfl rfl ?_
    have H125_ := Holds.drew_ H121_
    have hq126_ := And.intro (Holds.rd H125_ 0 rfl) (And.intro (Holds.rd H125_ 2 rfl) (And.intro (Holds.slrd H125_ 3 rfl) (And.intro (Holds.slrd H125_ 4 rfl) (And.intro (Holds.rd H125_ 6 rfl) (And.intro (Holds.rd H125_ 7 rfl) (And.intro (Holds.rd H125_ 9 rfl) ((Holds.ro_at H125_ 1 rfl))))))))
    refine A_tk 0 (v := (vP (some ⟨t.a, 0, none⟩))) rfl (by kernel_rfl) (fun w hS => x_move rfl) hq126_ ?_
    refine A_tk 1 (v := (vP (some ⟨t.a, 0, none⟩))) rfl (by kernel_rfl) (fun w hS => by kernel_rfl) hq126_ ?_
    refine A_tk 2 (v := (vP (some ⟨t.a, 2, none⟩))) rfl (by kernel_rfl) (fun w hS => by kernel_rfl) hq126_ ?_
    refine A_tk 3 (v := (vP (some ⟨c, 0, none⟩))) rfl (by kernel_rfl) (fun w hS => x_load1 rfl underlying60 rfl (hS.2.1 2 (vP (some ⟨c, 0, none⟩)) rfl)) hq126_ ?_
    refine A_tk 4 (v := (vP (some ⟨c, 0, none⟩))) rfl (by kernel_rfl) (fun w hS => by kernel_rfl) hq126_ ?_
    refine A_tk 5 (v := (vP (some ⟨c, 1, none⟩))) rfl (by kernel_rfl) (fun w hS => by kernel_rfl) hq126_ ?_
    refine A_tk 6 (v := (Value.func (.func 16) #[] #[])) rfl (by kernel_rfl) (fun w hS => x_load1 rfl underlying53 rfl (hS.2.2.2.2.1 1 (Value.func (.func 16) #[] #[]) rfl)) hq126_ ?_
    refine A_tk 7 (v := (vA #[(vI .i64 e.key), (vI .i64 e.val)])) rfl (by kernel_rfl) (fun w hS => x_loadN (vs := [(vI .i64 e.key), (vI .i64 e.val)]) rfl underlying24 rfl z24 rfl (Rd.cells hS.2.2.2.2.2.2.1 0 rfl)) hq126_ ?_
    refine A_tk 8 (v := (vA #[(vI .i64 m68_.key), (vI .i64 m68_.val)])) rfl (by kernel_rfl) (fun w hS => x_loadN (vs := [(vI .i64 m68_.key), (vI .i64 m68_.val)]) rfl underlying24 rfl z24 rfl (Rd.cells hS.1 0 rfl)) hq126_ ?_
    refine A_ready (i := 9) (rs := []) (by kernel_rfl) ?_
    refine AllR.cons ?_ AllR.nil
    have H128_ := ((Holds.bring H125_ 1 rfl) :)
    refine A_op (ls' := #[true, true, true, true, true, true, true, true, true, true, false]) rfl (by kernel_rfl) (T_call (al := [(vA #[(vI .i64 e.key), (vI .i64 e.val)]), (vA #[(vI .i64 m68_.key), (vI .i64 m68_.val)])]) (pre := []) rfl rfl cb16 (btLess R e m68_) H128_ ?_)
    rintro v127_ p132_ w129_ ⟨rfl, rfl⟩ S131_ H130_
    have S133_ := Same.trans (Same.trans S123_ (Same.drew _)) S131_
    refine ⟨⟨Holds.rd H130_ 1 rfl, Holds.rd H130_ 2 rfl, Holds.slrd H130_ 3 rfl, Holds.slrd H130_ 4 rfl, Holds.rd H130_ 6 rfl, Holds.rd H130_ 7 rfl, Holds.rd H130_ 9 rfl, (Holds.ro_at H130_ 0 rfl)⟩, ?_⟩
    have hq134_ := And.intro (Holds.rd H130_ 1 rfl) (And.intro (Holds.rd H130_ 2 rfl) (And.intro (Holds.slrd H130_ 3 rfl) (And.intro (Holds.slrd H130_ 4 rfl) (And.intro (Holds.rd H130_ 6 rfl) (And.intro (Holds.rd H130_ 7 rfl) (And.intro (Holds.rd H130_ 9 rfl) ((Holds.ro_at H130_ 0 rfl))))))))
    refine A_tk 10 (v := (vB (decide (e.key < m68_.key)))) rfl (by kernel_rfl) (fun w hS => x_assign rfl) hq134_ ?_
    refine A_done (by kernel_rfl) ?_
    refine (X_then (hK124_ _ _ ?_))
    refine C_cond (b := decide (e.key < m68_.key)) rfl (fun c135_t => ?_) (fun c135_f => ?_)
    ·have c135_tp : e.key < m68_.key := of_decide_eq_true c135_t
     refine C_skip (X_blkN (X_then (hK61_ _ _ ?_)))
     refine C_seq (fun _ hK136_ => ?_)
     refine A_start (S := fun w => Rd t.a [iv64_, cv65_, (vP (some ⟨c, 0, none⟩))] w ∧ SlRd iv64_ ((t.xs.take i18_ ++ m68_ :: t.xs.drop i18_).flatMap EL.cells) w ∧ SlRd cv65_ (pBs ((ks.take i18_ ++ k166_ :: k267_ :: ks.drop (i18_ + 1)).map BT.a)) w ∧ Rd c [(vP (some ⟨fl, 0, none⟩)), (Value.func (.func 16) #[] #[])] w ∧ Rd fl [(vS fa 0 fc)] w ∧ Rd b4_ [(vI .i64 e.key), (vI .i64 e.val)] w ∧ Sub R (hp w)) (N := 10) foll rfl rfl ?_
     have H137_ := Holds.drew_ H130_
     have hq138_ := And.intro (Holds.rd H137_ 2 rfl) (And.intro (Holds.slrd H137_ 3 rfl) (And.intro (Holds.slrd H137_ 4 rfl) (And.intro (Holds.rd H137_ 6 rfl) (And.intro (Holds.rd H137_ 7 rfl) (And.intro (Holds.rd H137_ 9 rfl) ((Holds.ro_at H137_ 0 rfl)))))))
     refine A_tk 0 (v := (vP (some ⟨t.a, 0, none⟩))) rfl (by kernel_rfl) (fun w hS => x_move rfl) hq138_ ?_
     refine A_tk 1 (v := (vI .i64 (i18_ : Int))) rfl (by kernel_rfl) (fun w hS => x_move rfl) hq138_ ?_
     refine A_tk 3 (v := (vA #[(vI .i64 e.key), (vI .i64 e.val)])) rfl (by kernel_rfl) (fun w hS => x_loadN (vs := [(vI .i64 e.key), (vI .i64 e.val)]) rfl underlying24 rfl z24 rfl (Rd.cells hS.2.2.2.2.2.1 0 rfl)) hq138_ ?_
     refine A_tk 4 (v := (vI .i64 (mx : Int))) rfl (by kernel_rfl) (fun w hS => x_move rfl) hq138_ ?_
     refine A_ready (i := 2) (rs := []) (by kernel_rfl) ?_
     refine AllR.cons ?_ AllR.nil
     have H140_ := ((Holds.bring (Holds.bring (Holds.bring (Holds.bring H137_ 5 rfl) 5 rfl) 4 rfl) 3 rfl) :)
     refine A_op (ls' := #[true, true, true, true, true, false, false, false, false, false]) rfl (by kernel_rfl) (T_call (al := [(vP (some ⟨t.a, 0, none⟩)), (vI .i64 (i18_ : Int))]) (pre := [cl t.a 79 [iv64_, cv65_, (vP (some ⟨c, 0, none⟩))], sl 59 1 cv65_ (List.length ((ks.take i18_ ++ k166_ :: k267_ :: ks.drop (i18_ + 1)).map BT.a)) (pBs ((ks.take i18_ ++ k166_ :: k267_ :: ks.drop (i18_ + 1)).map BT.a)), kids c (ks.take i18_ ++ k166_ :: k267_ :: ks.drop (i18_ + 1))]) rfl rfl cb59 (btMC R c h t.a i18_ iv64_ cv65_ (ks.take i18_ ++ k166_ :: k267_ :: ks.drop (i18_ + 1)) k166_ (hk1_)) H140_ ?_)
     rintro v139_ p144_ w141_ ⟨rfl, rfl⟩ S143_ H142_
     have S145_ := Same.trans (Same.trans S133_ (Same.drew _)) S143_
     refine ⟨⟨Holds.rd H142_ 1 rfl, Holds.slrd H142_ 5 rfl, Holds.slrd H142_ 2 rfl, Holds.rd H142_ 6 rfl, Holds.rd H142_ 7 rfl, Holds.rd H142_ 9 rfl, (Holds.ro_at H142_ 0 rfl)⟩, ?_⟩
     refine A_ready (i := 5) (rs := []) (by kernel_rfl) ?_
     refine AllR.cons ?_ AllR.nil
     have H146_ := ((Holds.bring H142_ 3 rfl) :)
     have H147_ := Holds.kids_out hk1_ H146_
     obtain ⟨hsq_, hnq_, hwq_⟩ := kid_srt (t := (⟨t.a, iv64_, cv65_, (t.xs.take i18_ ++ m68_ :: t.xs.drop i18_)⟩ : BN)) hw2_ hk1_ hs2_
     have H153_ := ((Holds.bring (Holds.bring (Holds.bring (Holds.bring H147_ 8 rfl) 8 rfl) 2 rfl) 4 rfl) :)
     refine A_op (ls' := #[true, true, true, true, true, true, false, false, false, false]) rfl (by kernel_rfl) (T_call (al := [(vP (some ⟨k166_.a, 0, none⟩)), (vA #[(vI .i64 e.key), (vI .i64 e.val)]), (vI .i64 (mx : Int))]) (pre := [btp c k166_, cl c 58 [(vP (some ⟨fl, 0, none⟩)), (Value.func (.func 16) #[] #[])], cl fl 74 [(vS fa 0 fc)]]) rfl rfl cb38 (ih R c fl fc fa k166_ e mx (hwq_) (hsq_) (Nat.le_trans hnq_ hn3_) (hm)) H153_ ?_)
     rintro v148_ p157_ w154_ ⟨k149_, o150_, b151_, rfl, rfl, he152_⟩ S156_ H155_
     have S158_ := Same.trans S145_ S156_
     have H159_ := ((Holds.bring (Holds.bring H155_ 4 rfl) 2 rfl) :)
     have H160_ := Holds.kids_in (i := i18_) (List.getElem?_eq_some_iff.1 hk1_).1 H159_
     refine ⟨⟨Holds.rd H160_ 4 rfl, Holds.slrd H160_ 7 rfl, Holds.slrd H160_ 5 rfl, Holds.rd H160_ 2 rfl, Holds.rd H160_ 3 rfl, Holds.rd H160_ 9 rfl, (Holds.ro_at H160_ 1 rfl)⟩, ?_⟩
     have hq161_ := And.intro (Holds.rd H160_ 4 rfl) (And.intro (Holds.slrd H160_ 7 rfl) (And.intro (Holds.slrd H160_ 5 rfl) (And.intro (Holds.rd H160_ 2 rfl) (And.intro (Holds.rd H160_ 3 rfl) (And.intro (Holds.rd H160_ 9 rfl) ((Holds.ro_at H160_ 1 rfl)))))))
     refine A_tk 6 (v := (vA #[(vI .i64 o150_.key), (vI .i64 o150_.val)])) rfl (by kernel_rfl) (fun w hS => by kernel_rfl) hq161_ ?_
     refine A_tk 7 (v := (vB b151_)) rfl (by kernel_rfl) (fun w hS => by kernel_rfl) hq161_ ?_
     refine A_ready (i := 8) (rs := []) (by kernel_rfl) ?_
     refine AllR.cons ?_ AllR.nil
     refine A_op0 (ls' := #[true, true, true, true, true, true, true, true, true, false]) rfl (by kernel_rfl) (T_storeN (vs := [(vI .i64 o150_.key), (vI .i64 o150_.val)]) rfl rfl z24 rfl (by simp [Value.oneCell']) H160_ 8 rfl (Nat.le_of_ble_eq_true (by rfl)) ?_)
     intro w162_ S164_ H163_
     have S165_ := Same.trans S158_ S164_
     refine ⟨⟨Holds.rd H163_ 4 rfl, Holds.slrd H163_ 7 rfl, Holds.slrd H163_ 5 rfl, Holds.rd H163_ 2 rfl, Holds.rd H163_ 3 rfl, Holds.rd H163_ 9 rfl, (Holds.ro_at H163_ 1 rfl)⟩, ?_⟩
     have hq166_ := And.intro (Holds.rd H163_ 4 rfl) (And.intro (Holds.slrd H163_ 7 rfl) (And.intro (Holds.slrd H163_ 5 rfl) (And.intro (Holds.rd H163_ 2 rfl) (And.intro (Holds.rd H163_ 3 rfl) (And.intro (Holds.rd H163_ 9 rfl) ((Holds.ro_at H163_ 1 rfl)))))))
     refine A_tk 9 (v := (vB b151_)) rfl (by kernel_rfl) (fun w hS => x_assign rfl) hq166_ ?_
     refine A_done (by kernel_rfl) ?_
     refine (X_then (hK136_ _ _ ?_))
     refine C_ret ?_
     refine R_any (v := (vT #[(vA #[(vI .i64 o150_.key), (vI .i64 o150_.val)]), (vB b151_)])) (run_results2 rfl ⟨_, rfl, load_resN underlying24 rfl z24 rfl (vs := [(vI .i64 o150_.key), (vI .i64 o150_.val)]) (Holds.cl_cells H163_ 8 rfl 0 rfl)⟩ rfl) ?_
     have H167_ := Holds.resl H163_ 5 rfl (by rw [kids_set_a hk1_ he152_.a] : pBs ((ks.take i18_ ++ k166_ :: k267_ :: ks.drop (i18_ + 1)).map BT.a) = pBs (((ks.take i18_ ++ k166_ :: k267_ :: ks.drop (i18_ + 1)).set i18_ k149_).map BT.a)) (by first | (simp; done) | (simp; omega) : (List.length ((ks.take i18_ ++ k166_ :: k267_ :: ks.drop (i18_ + 1)).map BT.a)) = (List.length (((ks.take i18_ ++ k166_ :: k267_ :: ks.drop (i18_ + 1)).set i18_ k149_).map BT.a)))
     have H168_ := ((Holds.bring (Holds.bring (Holds.bring H167_ 5 rfl) 7 rfl) 6 rfl) :)
     have H169_ := Holds.nodeI H168_
     have H170_ := Holds.pkF H169_ [1, 0, 0, 0] 3
     exact ⟨_, _, rfl, ⟨(nodeB ⟨t.a, iv64_, cv65_, (t.xs.take i18_ ++ m68_ :: t.xs.drop i18_)⟩ ((ks.take i18_ ++ k166_ :: k267_ :: ks.drop (i18_ + 1)).set i18_ k149_)), o150_, b151_, rfl, rfl, ((ins_node (t := (⟨t.a, iv64_, cv65_, (t.xs.take i18_ ++ m68_ :: t.xs.drop i18_)⟩ : BN)) hw2_ hk1_ hs2_ (hp2_.1 c135_tp).1 (hp2_.1 c135_tp).2 he152_).via he2_ rfl)⟩, S165_, H170_⟩
    ·have c135_fp : ¬ (e.key < m68_.key) := of_decide_eq_false c135_f
     refine C_seq (fun _ hK171_ => ?_)
     refine A_start (S := fun w => Rd b115_ [(vI .i64 m68_.key), (vI .i64 m68_.val)] w ∧ Rd t.a [iv64_, cv65_, (vP (some ⟨c, 0, none⟩))] w ∧ SlRd iv64_ ((t.xs.take i18_ ++ m68_ :: t.xs.drop i18_).flatMap EL.cells) w ∧ SlRd cv65_ (pBs ((ks.take i18_ ++ k166_ :: k267_ :: ks.drop (i18_ + 1)).map BT.a)) w ∧ Rd c [(vP (some ⟨fl, 0, none⟩)), (Value.func (.func 16) #[] #[])] w ∧ Rd fl [(vS fa 0 fc)] w ∧ Rd b4_ [(vI .i64 e.key), (vI .i64 e.val)] w ∧ Sub R (hp w)) (N := 11) foll rfl rfl ?_
     have H172_ := Holds.drew_ H130_
     have hq173_ := And.intro (Holds.rd H172_ 1 rfl) (And.intro (Holds.rd H172_ 2 rfl) (And.intro (Holds.slrd H172_ 3 rfl) (And.intro (Holds.slrd H172_ 4 rfl) (And.intro (Holds.rd H172_ 6 rfl) (And.intro (Holds.rd H172_ 7 rfl) (And.intro (Holds.rd H172_ 9 rfl) ((Holds.ro_at H172_ 0 rfl))))))))
     refine A_tk 0 (v := (vP (some ⟨t.a, 0, none⟩))) rfl (by kernel_rfl) (fun w hS => x_move rfl) hq173_ ?_
     refine A_tk 1 (v := (vP (some ⟨t.a, 0, none⟩))) rfl (by kernel_rfl) (fun w hS => by kernel_rfl) hq173_ ?_
     refine A_tk 2 (v := (vP (some ⟨t.a, 2, none⟩))) rfl (by kernel_rfl) (fun w hS => by kernel_rfl) hq173_ ?_
     refine A_tk 3 (v := (vP (some ⟨c, 0, none⟩))) rfl (by kernel_rfl) (fun w hS => x_load1 rfl underlying60 rfl (hS.2.1 2 (vP (some ⟨c, 0, none⟩)) rfl)) hq173_ ?_
     refine A_tk 4 (v := (vP (some ⟨c, 0, none⟩))) rfl (by kernel_rfl) (fun w hS => by kernel_rfl) hq173_ ?_
     refine A_tk 5 (v := (vP (some ⟨c, 1, none⟩))) rfl (by kernel_rfl) (fun w hS => by kernel_rfl) hq173_ ?_
     refine A_tk 6 (v := (Value.func (.func 16) #[] #[])) rfl (by kernel_rfl) (fun w hS => x_load1 rfl underlying53 rfl (hS.2.2.2.2.1 1 (Value.func (.func 16) #[] #[]) rfl)) hq173_ ?_
     refine A_tk 7 (v := (vA #[(vI .i64 m68_.key), (vI .i64 m68_.val)])) rfl (by kernel_rfl) (fun w hS => x_loadN (vs := [(vI .i64 m68_.key), (vI .i64 m68_.val)]) rfl underlying24 rfl z24 rfl (Rd.cells hS.1 0 rfl)) hq173_ ?_
     refine A_tk 8 (v := (vA #[(vI .i64 e.key), (vI .i64 e.val)])) rfl (by kernel_rfl) (fun w hS => x_loadN (vs := [(vI .i64 e.key), (vI .i64 e.val)]) rfl underlying24 rfl z24 rfl (Rd.cells hS.2.2.2.2.2.2.1 0 rfl)) hq173_ ?_
     refine A_ready (i := 9) (rs := []) (by kernel_rfl) ?_
     refine AllR.cons ?_ AllR.nil
     refine A_op (ls' := #[true, true, true, true, true, true, true, true, true, true, false]) rfl (by kernel_rfl) (T_call (al := [(vA #[(vI .i64 m68_.key), (vI .i64 m68_.val)]), (vA #[(vI .i64 e.key), (vI .i64 e.val)])]) (pre := []) rfl rfl cb16 (btLess R m68_ e) H172_ ?_)
     rintro v174_ p178_ w175_ ⟨rfl, rfl⟩ S177_ H176_
     have S179_ := Same.trans (Same.trans S133_ (Same.drew _)) S177_
     refine ⟨⟨Holds.rd H176_ 1 rfl, Holds.rd H176_ 2 rfl, Holds.slrd H176_ 3 rfl, Holds.slrd H176_ 4 rfl, Holds.rd H176_ 6 rfl, Holds.rd H176_ 7 rfl, Holds.rd H176_ 9 rfl, (Holds.ro_at H176_ 0 rfl)⟩, ?_⟩
     have hq180_ := And.intro (Holds.rd H176_ 1 rfl) (And.intro (Holds.rd H176_ 2 rfl) (And.intro (Holds.slrd H176_ 3 rfl) (And.intro (Holds.slrd H176_ 4 rfl) (And.intro (Holds.rd H176_ 6 rfl) (And.intro (Holds.rd H176_ 7 rfl) (And.intro (Holds.rd H176_ 9 rfl) ((Holds.ro_at H176_ 0 rfl))))))))
     refine A_tk 10 (v := (vB (decide (m68_.key < e.key)))) rfl (by kernel_rfl) (fun w hS => x_assign rfl) hq180_ ?_
     refine A_done (by kernel_rfl) ?_
     refine (X_then (hK171_ _ _ ?_))
     refine C_cond (b := decide (m68_.key < e.key)) rfl (fun c181_t => ?_) (fun c181_f => ?_)
     ·have c181_tp : m68_.key < e.key := of_decide_eq_true c181_t
      refine C_reg ?_
      refine sm (vI .i64 (i18_ : Int)) ?_
      refine sv (v := (vI .i64 ((i18_ : Int) + 1))) (x_bin rfl rfl (ib_add (IntWalk.i64_in _ (by omega)))) ?_
      refine sv (v := (vI .i64 ((i18_ : Int) + 1))) (x_assign rfl) ?_
      refine wpList_nil (X_blkN (X_then (hK61_ _ _ ?_)))
      refine C_seq (fun _ hK182_ => ?_)
      refine A_start (S := fun w => Rd t.a [iv64_, cv65_, (vP (some ⟨c, 0, none⟩))] w ∧ SlRd iv64_ ((t.xs.take i18_ ++ m68_ :: t.xs.drop i18_).flatMap EL.cells) w ∧ SlRd cv65_ (pBs ((ks.take i18_ ++ k166_ :: k267_ :: ks.drop (i18_ + 1)).map BT.a)) w ∧ Rd c [(vP (some ⟨fl, 0, none⟩)), (Value.func (.func 16) #[] #[])] w ∧ Rd fl [(vS fa 0 fc)] w ∧ Rd b4_ [(vI .i64 e.key), (vI .i64 e.val)] w ∧ Sub R (hp w)) (N := 10) foll rfl rfl ?_
      have H183_ := Holds.drew_ H176_
      have hq184_ := And.intro (Holds.rd H183_ 2 rfl) (And.intro (Holds.slrd H183_ 3 rfl) (And.intro (Holds.slrd H183_ 4 rfl) (And.intro (Holds.rd H183_ 6 rfl) (And.intro (Holds.rd H183_ 7 rfl) (And.intro (Holds.rd H183_ 9 rfl) ((Holds.ro_at H183_ 0 rfl)))))))
      refine A_tk 0 (v := (vP (some ⟨t.a, 0, none⟩))) rfl (by kernel_rfl) (fun w hS => x_move rfl) hq184_ ?_
      refine A_tk 1 (v := (vI .i64 ((i18_ : Int) + 1))) rfl (by kernel_rfl) (fun w hS => x_move rfl) hq184_ ?_
      refine A_tk 3 (v := (vA #[(vI .i64 e.key), (vI .i64 e.val)])) rfl (by kernel_rfl) (fun w hS => x_loadN (vs := [(vI .i64 e.key), (vI .i64 e.val)]) rfl underlying24 rfl z24 rfl (Rd.cells hS.2.2.2.2.2.1 0 rfl)) hq184_ ?_
      refine A_tk 4 (v := (vI .i64 (mx : Int))) rfl (by kernel_rfl) (fun w hS => x_move rfl) hq184_ ?_
      refine A_ready (i := 2) (rs := []) (by kernel_rfl) ?_
      refine AllR.cons ?_ AllR.nil
      have H186_ := ((Holds.bring (Holds.bring (Holds.bring (Holds.bring H183_ 5 rfl) 5 rfl) 4 rfl) 3 rfl) :)
      refine A_op (ls' := #[true, true, true, true, true, false, false, false, false, false]) rfl (by kernel_rfl) (T_call (al := [(vP (some ⟨t.a, 0, none⟩)), (vI .i64 ((i18_ + 1 : Nat) : Int))]) (pre := [cl t.a 79 [iv64_, cv65_, (vP (some ⟨c, 0, none⟩))], sl 59 1 cv65_ (List.length ((ks.take i18_ ++ k166_ :: k267_ :: ks.drop (i18_ + 1)).map BT.a)) (pBs ((ks.take i18_ ++ k166_ :: k267_ :: ks.drop (i18_ + 1)).map BT.a)), kids c (ks.take i18_ ++ k166_ :: k267_ :: ks.drop (i18_ + 1))]) rfl (lcons rfl (lcons (congrArg (vI .i64) ((by first | rfl | omega | (simp; done) | (simp; omega)) : (i18_ : Int) + 1 = ((i18_ + 1 : Nat) : Int))) rfl)) cb59 (btMC R c h t.a (i18_ + 1) iv64_ cv65_ (ks.take i18_ ++ k166_ :: k267_ :: ks.drop (i18_ + 1)) k267_ (hk2_)) H186_ ?_)
      rintro v185_ p190_ w187_ ⟨rfl, rfl⟩ S189_ H188_
      have S191_ := Same.trans (Same.trans S179_ (Same.drew _)) S189_
      refine ⟨⟨Holds.rd H188_ 1 rfl, Holds.slrd H188_ 5 rfl, Holds.slrd H188_ 2 rfl, Holds.rd H188_ 6 rfl, Holds.rd H188_ 7 rfl, Holds.rd H188_ 9 rfl, (Holds.ro_at H188_ 0 rfl)⟩, ?_⟩
      refine A_ready (i := 5) (rs := []) (by kernel_rfl) ?_
      refine AllR.cons ?_ AllR.nil
      have H192_ := ((Holds.bring H188_ 3 rfl) :)
      have H193_ := Holds.kids_out hk2_ H192_
      obtain ⟨hsq_, hnq_, hwq_⟩ := kid_srt (t := (⟨t.a, iv64_, cv65_, (t.xs.take i18_ ++ m68_ :: t.xs.drop i18_)⟩ : BN)) hw2_ hk2_ hs2_
      have H199_ := ((Holds.bring (Holds.bring (Holds.bring (Holds.bring H193_ 8 rfl) 8 rfl) 2 rfl) 4 rfl) :)
      refine A_op (ls' := #[true, true, true, true, true, true, false, false, false, false]) rfl (by kernel_rfl) (T_call (al := [(vP (some ⟨k267_.a, 0, none⟩)), (vA #[(vI .i64 e.key), (vI .i64 e.val)]), (vI .i64 (mx : Int))]) (pre := [btp c k267_, cl c 58 [(vP (some ⟨fl, 0, none⟩)), (Value.func (.func 16) #[] #[])], cl fl 74 [(vS fa 0 fc)]]) rfl rfl cb38 (ih R c fl fc fa k267_ e mx (hwq_) (hsq_) (Nat.le_trans hnq_ hn3_) (hm)) H199_ ?_)
      rintro v194_ p203_ w200_ ⟨k195_, o196_, b197_, rfl, rfl, he198_⟩ S202_ H201_
      have S204_ := Same.trans S191_ S202_
      have H205_ := ((Holds.bring (Holds.bring H201_ 4 rfl) 2 rfl) :)
      have H206_ := Holds.kids_in (i := i18_ + 1) (List.getElem?_eq_some_iff.1 hk2_).1 H205_
      refine ⟨⟨Holds.rd H206_ 4 rfl, Holds.slrd H206_ 7 rfl, Holds.slrd H206_ 5 rfl, Holds.rd H206_ 2 rfl, Holds.rd H206_ 3 rfl, Holds.rd H206_ 9 rfl, (Holds.ro_at H206_ 1 rfl)⟩, ?_⟩
      have hq207_ := And.intro (Holds.rd H206_ 4 rfl) (And.intro (Holds.slrd H206_ 7 rfl) (And.intro (Holds.slrd H206_ 5 rfl) (And.intro (Holds.rd H206_ 2 rfl) (And.intro (Holds.rd H206_ 3 rfl) (And.intro (Holds.rd H206_ 9 rfl) ((Holds.ro_at H206_ 1 rfl)))))))
      refine A_tk 6 (v := (vA #[(vI .i64 o196_.key), (vI .i64 o196_.val)])) rfl (by kernel_rfl) (fun w hS => by kernel_rfl) hq207_ ?_
      refine A_tk 7 (v := (vB b197_)) rfl (by kernel_rfl) (fun w hS => by kernel_rfl) hq207_ ?_
      refine A_ready (i := 8) (rs := []) (by kernel_rfl) ?_
      refine AllR.cons ?_ AllR.nil
      refine A_op0 (ls' := #[true, true, true, true, true, true, true, true, true, false]) rfl (by kernel_rfl) (T_storeN (vs := [(vI .i64 o196_.key), (vI .i64 o196_.val)]) rfl rfl z24 rfl (by simp [Value.oneCell']) H206_ 8 rfl (Nat.le_of_ble_eq_true (by rfl)) ?_)
      intro w208_ S210_ H209_
      have S211_ := Same.trans S204_ S210_
      refine ⟨⟨Holds.rd H209_ 4 rfl, Holds.slrd H209_ 7 rfl, Holds.slrd H209_ 5 rfl, Holds.rd H209_ 2 rfl, Holds.rd H209_ 3 rfl, Holds.rd H209_ 9 rfl, (Holds.ro_at H209_ 1 rfl)⟩, ?_⟩
      have hq212_ := And.intro (Holds.rd H209_ 4 rfl) (And.intro (Holds.slrd H209_ 7 rfl) (And.intro (Holds.slrd H209_ 5 rfl) (And.intro (Holds.rd H209_ 2 rfl) (And.intro (Holds.rd H209_ 3 rfl) (And.intro (Holds.rd H209_ 9 rfl) ((Holds.ro_at H209_ 1 rfl)))))))
      refine A_tk 9 (v := (vB b197_)) rfl (by kernel_rfl) (fun w hS => x_assign rfl) hq212_ ?_
      refine A_done (by kernel_rfl) ?_
      refine (X_then (hK182_ _ _ ?_))
      refine C_ret ?_
      refine R_any (v := (vT #[(vA #[(vI .i64 o196_.key), (vI .i64 o196_.val)]), (vB b197_)])) (run_results2 rfl ⟨_, rfl, load_resN underlying24 rfl z24 rfl (vs := [(vI .i64 o196_.key), (vI .i64 o196_.val)]) (Holds.cl_cells H209_ 8 rfl 0 rfl)⟩ rfl) ?_
      have H213_ := Holds.resl H209_ 5 rfl (by rw [kids_set_a hk2_ he198_.a] : pBs ((ks.take i18_ ++ k166_ :: k267_ :: ks.drop (i18_ + 1)).map BT.a) = pBs (((ks.take i18_ ++ k166_ :: k267_ :: ks.drop (i18_ + 1)).set (i18_ + 1) k195_).map BT.a)) (by first | (simp; done) | (simp; omega) : (List.length ((ks.take i18_ ++ k166_ :: k267_ :: ks.drop (i18_ + 1)).map BT.a)) = (List.length (((ks.take i18_ ++ k166_ :: k267_ :: ks.drop (i18_ + 1)).set (i18_ + 1) k195_).map BT.a)))
      have H214_ := ((Holds.bring (Holds.bring (Holds.bring H213_ 5 rfl) 7 rfl) 6 rfl) :)
      have H215_ := Holds.nodeI H214_
      have H216_ := Holds.pkF H215_ [1, 0, 0, 0] 3
      exact ⟨_, _, rfl, ⟨(nodeB ⟨t.a, iv64_, cv65_, (t.xs.take i18_ ++ m68_ :: t.xs.drop i18_)⟩ ((ks.take i18_ ++ k166_ :: k267_ :: ks.drop (i18_ + 1)).set (i18_ + 1) k195_)), o196_, b197_, rfl, rfl, ((ins_node (t := (⟨t.a, iv64_, cv65_, (t.xs.take i18_ ++ m68_ :: t.xs.drop i18_)⟩ : BN)) hw2_ hk2_ hs2_ (hp2_.2 c181_tp).1 (hp2_.2 c181_tp).2 he198_).via he2_ rfl)⟩, S211_, H216_⟩
     ·have c181_fp : ¬ (m68_.key < e.key) := of_decide_eq_false c181_f
      refine cR fun _ hK217_ => ?_
      refine sm (vP (some ⟨t.a, 0, none⟩)) ?_
      refine sv (v := (vP (some ⟨t.a, 0, none⟩))) (by kernel_rfl) ?_
      refine sv (v := (vP (some ⟨t.a, 0, none⟩))) (by kernel_rfl) ?_
      refine sv (v := iv64_) (x_load1 rfl underlying76 rfl ((Holds.rd H176_ 2 rfl) 0 iv64_ rfl)) ?_
      refine sm (vI .i64 (i18_ : Int)) ?_
      refine sv (v := (vP (some ⟨(sb iv64_), so iv64_ + (i18_ * 2 + 0), none⟩))) (x_idxSlR (v := iv64_) rfl hr114_ rfl underlying76 z24 (by omega) (by omega) (by omega : _ = i18_) rfl) ?_
      refine sv (v := (vA #[(vI .i64 m68_.key), (vI .i64 m68_.val)])) (x_loadN (vs := [(vI .i64 m68_.key), (vI .i64 m68_.val)]) rfl underlying24 rfl z24 rfl (SlRd.cells (Holds.slrd H176_ 3 rfl) (i18_ * 2 + 0) (fm_cells EL.len hx2_ (i := 0) rfl))) ?_
      refine S_list (T_alloc z24 H176_ ?_)
      intro b218_ w219_ S221_ H220_
      have S222_ := Same.trans S179_ S221_
      refine S_list0 (T_storeN (vs := [(vI .i64 m68_.key), (vI .i64 m68_.val)]) rfl rfl z24 rfl (by simp [Value.oneCell']) H220_ 0 rfl (Nat.le_of_ble_eq_true (by rfl)) ?_)
      intro w223_ S225_ H224_
      have S226_ := Same.trans S222_ S225_
      refine wn (hK217_ _ _ ?_)
      refine C_seq (fun _ hK227_ => ?_)
      refine A_start (S := fun w => Rd t.a [iv64_, cv65_, (vP (some ⟨c, 0, none⟩))] w ∧ SlRd cv65_ (pBs ((ks.take i18_ ++ k166_ :: k267_ :: ks.drop (i18_ + 1)).map BT.a)) w ∧ Rd c [(vP (some ⟨fl, 0, none⟩)), (Value.func (.func 16) #[] #[])] w ∧ Rd fl [(vS fa 0 fc)] w ∧ Rd b4_ [(vI .i64 e.key), (vI .i64 e.val)] w ∧ Sub R (hp w)) (N := 8) foll rfl rfl ?_
      have H228_ := Holds.drew_ H224_
      have hq229_ := And.intro (Holds.rd H228_ 3 rfl) (And.intro (Holds.slrd H228_ 5 rfl) (And.intro (Holds.rd H228_ 7 rfl) (And.intro (Holds.rd H228_ 8 rfl) (And.intro (Holds.rd H228_ 10 rfl) ((Holds.ro_at H228_ 1 rfl))))))
      refine A_tk 0 (v := (vP (some ⟨t.a, 0, none⟩))) rfl (by kernel_rfl) (fun w hS => x_move rfl) hq229_ ?_
      refine A_tk 1 (v := (vP (some ⟨t.a, 0, none⟩))) rfl (by kernel_rfl) (fun w hS => by kernel_rfl) hq229_ ?_
      refine A_tk 2 (v := (vP (some ⟨t.a, 0, none⟩))) rfl (by kernel_rfl) (fun w hS => by kernel_rfl) hq229_ ?_
      refine A_tk 3 (v := iv64_) rfl (by kernel_rfl) (fun w hS => x_load1 rfl underlying76 rfl (hS.1 0 iv64_ rfl)) hq229_ ?_
      refine A_tk 4 (v := (vI .i64 (i18_ : Int))) rfl (by kernel_rfl) (fun w hS => x_move rfl) hq229_ ?_
      refine A_tk 5 (v := (vA #[(vI .i64 e.key), (vI .i64 e.val)])) rfl (by kernel_rfl) (fun w hS => x_loadN (vs := [(vI .i64 e.key), (vI .i64 e.val)]) rfl underlying24 rfl z24 rfl (Rd.cells hS.2.2.2.2.1 0 rfl)) hq229_ ?_
      refine A_tk 6 (v := (vP (some ⟨(sb iv64_), so iv64_ + (i18_ * 2 + 0), none⟩))) rfl (by kernel_rfl) (fun w hS => x_idxSlR (v := iv64_) rfl hr114_ rfl underlying76 z24 (by omega) (by omega) (by omega : _ = i18_) rfl) hq229_ ?_
      refine A_ready (i := 7) (rs := []) (by kernel_rfl) ?_
      refine AllR.cons ?_ AllR.nil
      refine A_op0 (ls' := #[true, true, true, true, true, true, true, true]) rfl (by kernel_rfl) (T_storeSlN (vs := [(vI .i64 e.key), (vI .i64 e.val)]) (k := i18_ * 2 + 0) rfl rfl z24 rfl (by simp [Value.oneCell']) H228_ 4 rfl (by rw [fr_len EL.len]; simp only [List.length_cons, List.length_nil]; omega) (Nat.zero_lt_succ _) rfl rfl ?_)
      intro w230_ S232_ H231_
      have S233_ := Same.trans (Same.trans S226_ (Same.drew _)) S232_
      refine ⟨⟨Holds.rd H231_ 3 rfl, Holds.slrd H231_ 5 rfl, Holds.rd H231_ 7 rfl, Holds.rd H231_ 8 rfl, Holds.rd H231_ 10 rfl, (Holds.ro_at H231_ 1 rfl)⟩, ?_⟩
      refine A_done (by kernel_rfl) ?_
      refine (X_then (hK227_ _ _ ?_))
      refine cR fun _ hK234_ => ?_
      refine sv (v := (vA #[(vI .i64 m68_.key), (vI .i64 m68_.val)])) (x_loadN (vs := [(vI .i64 m68_.key), (vI .i64 m68_.val)]) rfl underlying24 rfl z24 rfl (Rd.cells (Holds.rd H231_ 0 rfl) 0 rfl)) ?_
      refine S_list0 (T_storeN (vs := [(vI .i64 m68_.key), (vI .i64 m68_.val)]) rfl rfl z24 rfl (by simp [Value.oneCell']) H231_ 9 rfl (Nat.le_of_ble_eq_true (by rfl)) ?_)
      intro w235_ S237_ H236_
      have S238_ := Same.trans S233_ S237_
      refine sv (v := (vB true)) (x_assign rfl) ?_
      refine wn (hK234_ _ _ ?_)
      refine C_ret (X_blkR (X_thenR ?_))
      refine R_any (v := (vT #[(vA #[(vI .i64 m68_.key), (vI .i64 m68_.val)]), (vB true)])) (run_results2 rfl ⟨_, rfl, load_resN underlying24 rfl z24 rfl (vs := [(vI .i64 m68_.key), (vI .i64 m68_.val)]) (Holds.cl_cells H236_ 9 rfl 0 rfl)⟩ rfl) ?_
      have H239_ := Holds.resl H236_ 4 rfl (el_put hx2_ : List.take (i18_ * 2 + 0) ((t.xs.take i18_ ++ m68_ :: t.xs.drop i18_).flatMap EL.cells) ++ [(vI .i64 e.key), (vI .i64 e.val)] ++ List.drop (i18_ * 2 + 0 + List.length [(vI .i64 e.key), (vI .i64 e.val)]) ((t.xs.take i18_ ++ m68_ :: t.xs.drop i18_).flatMap EL.cells) = ((t.xs.take i18_ ++ m68_ :: t.xs.drop i18_).set i18_ e).flatMap EL.cells) (by first | (simp; done) | (simp; omega) : (List.length (t.xs.take i18_ ++ m68_ :: t.xs.drop i18_)) = (List.length ((t.xs.take i18_ ++ m68_ :: t.xs.drop i18_).set i18_ e)))
      have H240_ := ((Holds.bring (Holds.bring (Holds.bring (Holds.bring H239_ 6 rfl) 6 rfl) 6 rfl) 6 rfl) :)
      have H241_ := Holds.nodeI H240_
      have H242_ := Holds.pkF H241_ [2, 0, 2, 2] 4
      exact ⟨_, _, rfl, ⟨(nodeB ⟨t.a, iv64_, cv65_, ((t.xs.take i18_ ++ m68_ :: t.xs.drop i18_).set i18_ e)⟩ (ks.take i18_ ++ k166_ :: k267_ :: ks.drop (i18_ + 1))), m68_, true, rfl, rfl, ((ins_node_set (t := (⟨t.a, iv64_, cv65_, (t.xs.take i18_ ++ m68_ :: t.xs.drop i18_)⟩ : BN)) hw2_ hx2_ hs2_ (by omega)).via he2_ rfl)⟩, S238_, H242_⟩

theorem btIns (R : HP) (c fl fc : Nat) (fa : Option Addr) (h : Nat) (t : BT h) (e : EL) (mx : Nat) (hw : t.Wf) (hs : SrtE t.el) (hn : t.el.length ≤ 1000000) (hm : 3 ≤ mx ∧ mx ≤ 1000) :
    Tri Try.prog 38 #[(vP (some ⟨t.a, 0, none⟩)), (vA #[(vI .i64 e.key), (vI .i64 e.val)]), (vI .i64 (mx : Int))] R [btp c t, cl c 58 [(vP (some ⟨fl, 0, none⟩)), (Value.func (.func 16) #[] #[])], cl fl 74 [(vS fa 0 fc)]] (fun v__ post__ => ∃ (t' : BT h) (o : EL) (b : Bool), v__ = (vT #[(vA #[(vI .i64 o.key), (vI .i64 o.val)]), (vB b)]) ∧ post__ = [btp c t', cl c 58 [(vP (some ⟨fl, 0, none⟩)), (Value.func (.func 16) #[] #[])], cl fl 74 [(vS fa 0 fc)]] ∧ (Ins e t t' o b)) := by
  have key : ∀ (h : Nat) (R : HP) (c fl fc : Nat) (fa : Option Addr) (t : BT h) (e : EL) (mx : Nat) (hw : t.Wf) (hs : SrtE t.el) (hn : t.el.length ≤ 1000000) (hm : 3 ≤ mx ∧ mx ≤ 1000), Tri Try.prog 38 #[(vP (some ⟨t.a, 0, none⟩)), (vA #[(vI .i64 e.key), (vI .i64 e.val)]), (vI .i64 (mx : Int))] R [btp c t, cl c 58 [(vP (some ⟨fl, 0, none⟩)), (Value.func (.func 16) #[] #[])], cl fl 74 [(vS fa 0 fc)]] (fun v__ post__ => ∃ (t' : BT h) (o : EL) (b : Bool), v__ = (vT #[(vA #[(vI .i64 o.key), (vI .i64 o.val)]), (vB b)]) ∧ post__ = [btp c t', cl c 58 [(vP (some ⟨fl, 0, none⟩)), (Value.func (.func 16) #[] #[])], cl fl 74 [(vS fa 0 fc)]] ∧ (Ins e t t' o b)) := by
    intro h
    induction h with
    | zero => intro R c fl fc fa t e mx hw hs hn hm; exact btIns0 R c fl fc fa t e mx hs hn hm
    | succ h ih => intro R c fl fc fa t e mx hw hs hn hm; exact btInsN R c fl fc fa h t.1 t.2 e mx hw hs hn hm ih
  exact key h R c fl fc fa t e mx hw hs hn hm
end Go.Proofs.Ytdfjdmmmlidamaa
set_option linter.unusedVariables false
set_option linter.unusedSimpArgs false
namespace Go.Proofs.Ytdfjdmmmlidamaa
open Go Go.RowKit Gw Try
open Go.Value renaming int → vI, bool → vB, slice → vS, pointer → vP, agg → vA, tuple → vT

/-! ### What is asked -/
theorem ask_node {h : Nat} {t : BN} {ks : List (BT h)} {i : Nat} {k : BT h} {e o : EL} {b : Bool} (hw : BT.Wf (h := h + 1) (t, ks)) (hk : ks[i]? = some k) (hs : SrtE (BT.el (h := h + 1) (t, ks)))
    (h1 : ∀ y ∈ t.xs.take i, y.key < e.key) (h2 : ∀ y ∈ t.xs.drop i, e.key < y.key) (ht : Told e k.el o b) : Told e (BT.el (h := h + 1) (t, ks)) o b := by
  have := inter_ins (ks := ks.map BT.el) (by rw [List.length_map]; exact ((BT.wfS t ks).1 hw).1) (map_at2 (f := BT.el) hk) hs h1 h2
  unfold Told at ht ⊢
  rw [BT.elS, this.2]
  exact ht
theorem ask_yes {h : Nat} {t : BN} {ks : List (BT h)} {j : Nat} {x e : EL} (hw : BT.Wf (h := h + 1) (t, ks)) (hx : t.xs[j]? = some x) (hs : SrtE (BT.el (h := h + 1) (t, ks))) (he : x.key = e.key) : Told e (BT.el (h := h + 1) (t, ks)) x true :=
  (ins_node_set (iv := t.iv) (cv := t.cv) hw hx hs he).t
theorem ask_leaf {xs : List EL} {j : Nat} {x e : EL} (hx : xs[j]? = some x) (hs : SrtE xs) (he : x.key = e.key) : Told e xs x true := .inl ⟨rfl, (leaf_set hx hs he).2⟩
theorem ask_no {xs : List EL} {i : Nat} {e : EL} (h1 : ∀ y ∈ xs.take i, y.key < e.key) (h2 : ∀ y ∈ xs.drop i, e.key < y.key) : Told e xs zE false := .inr ⟨rfl, (leaf_ins h1 h2).2, rfl⟩
/-! ### Trees -/
structure TR where
  tb : Nat
  c : Nat
  fl : Nat
  fc : Nat
  fa : Option Addr
  d : Nat
def rootv : Option (Sigma BT) → Value
  | none => .pointer none
  | some ⟨_, t⟩ => pB t.a
def tel : Option (Sigma BT) → List EL
  | none => []
  | some ⟨_, t⟩ => t.el
def tOk : Option (Sigma BT) → Prop
  | none => True
  | some ⟨_, t⟩ => t.Wf ∧ SrtE t.el
def tbt (c : Nat) : Option (Sigma BT) → SP
  | none => grp []
  | some ⟨_, t⟩ => btp c t
def treeP (r : TR) (T : Option (Sigma BT)) : SP :=
  grp [cl r.tb 62 [.int .i64 r.d, .int .i64 (tel T).length, rootv T, pB r.c], cl r.c 58 [pB r.fl, .func (.func 16) #[] #[]], cl r.fl 74 [.slice r.fa 0 r.fc], tbt r.c T]
theorem Holds.tree_out {w : World} {l : List SP} {r : TR} {T : Option (Sigma BT)} (H : Holds w (treeP r T :: l)) : Holds w (cl r.tb 62 [.int .i64 r.d, .int .i64 (tel T).length, rootv T, pB r.c] :: cl r.c 58 [pB r.fl, .func (.func 16) #[] #[]] :: cl r.fl 74 [.slice r.fa 0 r.fc] :: tbt r.c T :: l) := Holds.ungrp H
theorem Holds.tree_in {w : World} {l : List SP} {r : TR} {T : Option (Sigma BT)} (H : Holds w (cl r.tb 62 [.int .i64 r.d, .int .i64 (tel T).length, rootv T, pB r.c] :: cl r.c 58 [pB r.fl, .func (.func 16) #[] #[]] :: cl r.fl 74 [.slice r.fa 0 r.fc] :: tbt r.c T :: l)) : Holds w (treeP r T :: l) := Holds.grp (l := [_, _, _, _]) H
theorem Holds.t0_out {w : World} {l : List SP} {r : TR} (H : Holds w (treeP r none :: l)) : Holds w (cl r.tb 62 [.int .i64 r.d, .int .i64 0, .pointer none, pB r.c] :: cl r.c 58 [pB r.fl, .func (.func 16) #[] #[]] :: cl r.fl 74 [.slice r.fa 0 r.fc] :: l) := by
  have h := Holds.erase (Holds.tree_out H) 3
  exact h
theorem Holds.t0_in {w : World} {l : List SP} {r : TR} (H : Holds w (cl r.tb 62 [.int .i64 r.d, .int .i64 0, .pointer none, pB r.c] :: cl r.c 58 [pB r.fl, .func (.func 16) #[] #[]] :: cl r.fl 74 [.slice r.fa 0 r.fc] :: l)) : Holds w (treeP r none :: l) := by
  have h := Holds.bring (Holds.bring (Holds.bring (Holds.nil_in H) 1 rfl) 2 rfl) 3 rfl
  exact Holds.tree_in (T := none) (Holds.bring (Holds.bring h 1 rfl) 2 rfl)
theorem Holds.t1_out {w : World} {l : List SP} {r : TR} {h : Nat} {t : BT h} (H : Holds w (treeP r (some ⟨h, t⟩) :: l)) : Holds w (cl r.tb 62 [.int .i64 r.d, .int .i64 t.el.length, pB t.a, pB r.c] :: cl r.c 58 [pB r.fl, .func (.func 16) #[] #[]] :: cl r.fl 74 [.slice r.fa 0 r.fc] :: btp r.c t :: l) := Holds.tree_out H
theorem Holds.t1_in {w : World} {l : List SP} {r : TR} {h : Nat} {t : BT h} (H : Holds w (cl r.tb 62 [.int .i64 r.d, .int .i64 t.el.length, pB t.a, pB r.c] :: cl r.c 58 [pB r.fl, .func (.func 16) #[] #[]] :: cl r.fl 74 [.slice r.fa 0 r.fc] :: btp r.c t :: l)) : Holds w (treeP r (some ⟨h, t⟩) :: l) := Holds.tree_in (T := some ⟨h, t⟩) H
theorem Holds.kids_pair {c h : Nat} {w : World} {l : List SP} {k1 k2 : BT h} (H : Holds w (btp c k1 :: btp c k2 :: l)) : Holds w (kids c [k1, k2] :: l) := Holds.grp (l := [_, _]) H
theorem pair_a {h : Nat} {k k1 k2 : BT h} {m : EL} (hs : Spl k k1 k2 m) : [pB k.a, pB k2.a] = pBs ([k1, k2].map BT.a) := congrArg (fun x => [pB x, pB k2.a]) hs.a.symm
theorem len_none {k : Int} : ∀ {l : List EL}, getE k l = none → (l.filter (fun x => decide (x.key < k))).length + (l.filter (fun x => decide (k < x.key))).length = l.length
  | [], _ => rfl
  | x :: l, h => by
    unfold getE at h
    rw [List.find?_cons] at h
    by_cases hx : x.key = k
    · simp [hx] at h
    · simp only [hx, decide_false] at h
      have ih := len_none (l := l) h
      rw [List.filter_cons, List.filter_cons, List.length_cons]
      by_cases h1 : x.key < k
      · have h2 : ¬ k < x.key := by omega
        simp only [h1, h2, decide_true, decide_false, if_true, Bool.false_eq_true, if_false, List.length_cons]; omega
      · have h2 : k < x.key := by omega
        simp only [h1, h2, decide_true, decide_false, if_true, Bool.false_eq_true, if_false, List.length_cons]; omega
theorem len_some {k : Int} : ∀ {l : List EL} {o : EL}, SrtE l → getE k l = some o → (l.filter (fun x => decide (x.key < k))).length + (l.filter (fun x => decide (k < x.key))).length + 1 = l.length
  | [], _, _, h => by cases h
  | x :: l, o, hs, h => by
    unfold getE at h
    rw [List.find?_cons] at h
    have hc := List.pairwise_cons.1 hs
    rw [List.filter_cons, List.filter_cons, List.length_cons]
    by_cases hx : x.key = k
    · have hn : getE k l = none := List.find?_eq_none.2 (fun z hz => by have := hc.1 z hz; simp; omega)
      have q := len_none hn
      have h1 : ¬ x.key < k := by omega
      have h2 : ¬ k < x.key := by omega
      simp only [h1, h2, decide_false, Bool.false_eq_true, if_false]; omega
    · simp only [hx, decide_false] at h
      have ih := len_some (l := l) hc.2 h
      by_cases h1 : x.key < k
      · have h2 : ¬ k < x.key := by omega
        simp only [h1, h2, decide_true, decide_false, if_true, Bool.false_eq_true, if_false, List.length_cons]; omega
      · have h2 : k < x.key := by omega
        simp only [h1, h2, decide_true, decide_false, if_true, Bool.false_eq_true, if_false, List.length_cons]; omega
theorem told_len {e o : EL} {b : Bool} {l : List EL} (hs : SrtE l) (h : Told e l o b) : ((insE e l).length : Int) = l.length + (if b then 0 else 1) := by
  have e1 : (insE e l).length = (l.filter (fun x => decide (x.key < e.key))).length + ((l.filter (fun x => decide (e.key < x.key))).length + 1) := by
    unfold insE; rw [List.length_append, List.length_cons]
  rcases h with ⟨rfl, hg⟩ | ⟨rfl, hg, _⟩
  · have := len_some hs hg; simp; omega
  · have := len_none hg; simp; omega
theorem spl_root {h : Nat} {k k1 k2 : BT h} {m : EL} {a : Nat} {iv cv : Value} (hs : Spl k k1 k2 m) : BT.Wf (nodeB ⟨a, iv, cv, [m]⟩ [k1, k2]) ∧ BT.el (nodeB ⟨a, iv, cv, [m]⟩ [k1, k2]) = k.el := by
  refine ⟨(BT.wfS _ _).2 ⟨rfl, fun y hy => ?_⟩, ?_⟩
  · rcases List.mem_cons.1 hy with rfl | hy
    · exact hs.w1
    · rw [List.mem_singleton.1 hy]; exact hs.w2
  · rw [hs.e]
    show inter [m] [k1.el, k2.el] = _
    simp [inter]

end Go.Proofs.Ytdfjdmmmlidamaa
set_option linter.unusedVariables false
set_option linter.unusedSimpArgs false
namespace Go.Proofs.Ytdfjdmmmlidamaa
open Go Go.RowKit Gw Try
open Go.Value renaming int → vI, bool → vB, slice → vS, pointer → vP, agg → vA, tuple → vT

set_option maxHeartbeats 1600000 in
theorem btGet0 (R : HP) (c fl : Nat) (t : BN) (e : EL) (hs : SrtE t.xs) (hn : t.xs.length ≤ 1000000) :
    Tri Try.prog 40 #[(vP (some ⟨t.a, 0, none⟩)), (vA #[(vI .i64 e.key), (vI .i64 e.val)])] R [btp c (leafB t), cl c 58 [(vP (some ⟨fl, 0, none⟩)), (Value.func (.func 16) #[] #[])]] (fun v__ post__ => ∃ (o : EL) (b : Bool), v__ = (vT #[(vA #[(vI .i64 o.key), (vI .i64 o.val)]), (vB b)]) ∧ post__ = [btp c (leafB t), cl c 58 [(vP (some ⟨fl, 0, none⟩)), (Value.func (.func 16) #[] #[])]] ∧ (Told e t.xs o b)) := by
 refine Tri.into (n := 49) (al := [(vP (some ⟨t.a, 0, none⟩)), (vA #[(vI .i64 e.key), (vI .i64 e.val)])]) func40 rfl ntmps40 rfl rfl fun w F H => ?_
 have H1_ := ((Holds.bring H 1 rfl) :)
 have H2_ := Holds.leafO H1_
 refine cR fun _ hK3_ => ?_
 refine S_list (T_box (v := (vA #[(vI .i64 e.key), (vI .i64 e.val)])) rfl H2_ ?_)
 intro b4_ w5_ S7_ H6_
 have S8_ := Same.trans (Same.refl w) S7_
 refine S_list (T_alloc z24 H6_ ?_)
 intro b9_ w10_ S12_ H11_
 have S13_ := Same.trans S8_ S12_
 refine sv (v := (vB false)) (x_assign rfl) ?_
 refine wn (hK3_ _ _ ?_)
 refine C_seq (fun _ hK14_ => ?_)
 refine A_start (S := fun w => Rd b4_ [(vI .i64 e.key), (vI .i64 e.val)] w ∧ Rd t.a [t.iv, (vS none 0 0), (vP (some ⟨c, 0, none⟩))] w ∧ SlRd t.iv (t.xs.flatMap EL.cells) w ∧ Rd c [(vP (some ⟨fl, 0, none⟩)), (Value.func (.func 16) #[] #[])] w ∧ Sub R (hp w)) (N := 18) foll rfl rfl ?_
 have H15_ := Holds.drew_ H11_
 have hq16_ := And.intro (Holds.rd H15_ 1 rfl) (And.intro (Holds.rd H15_ 2 rfl) (And.intro (Holds.slrd H15_ 3 rfl) (And.intro (Holds.rd H15_ 5 rfl) ((Holds.ro_at H15_ 4 rfl)))))
 refine A_tk 0 (v := (vP (some ⟨t.a, 0, none⟩))) rfl (by kernel_rfl) (fun w hS => x_move rfl) hq16_ ?_
 refine A_tk 1 (v := (vP (some ⟨t.a, 0, none⟩))) rfl (by kernel_rfl) (fun w hS => by kernel_rfl) hq16_ ?_
 refine A_tk 2 (v := (vP (some ⟨t.a, 0, none⟩))) rfl (by kernel_rfl) (fun w hS => by kernel_rfl) hq16_ ?_
 refine A_tk 3 (v := t.iv) rfl (by kernel_rfl) (fun w hS => x_load1 rfl underlying76 rfl (hS.2.1 0 t.iv rfl)) hq16_ ?_
 refine A_tk 4 (v := (vA #[(vI .i64 e.key), (vI .i64 e.val)])) rfl (by kernel_rfl) (fun w hS => x_loadN (vs := [(vI .i64 e.key), (vI .i64 e.val)]) rfl underlying24 rfl z24 rfl (Rd.cells hS.1 0 rfl)) hq16_ ?_
 refine A_tk 5 (v := (vP (some ⟨t.a, 0, none⟩))) rfl (by kernel_rfl) (fun w hS => x_move rfl) hq16_ ?_
 refine A_tk 6 (v := (vP (some ⟨t.a, 0, none⟩))) rfl (by kernel_rfl) (fun w hS => by kernel_rfl) hq16_ ?_
 refine A_tk 7 (v := (vP (some ⟨t.a, 2, none⟩))) rfl (by kernel_rfl) (fun w hS => by kernel_rfl) hq16_ ?_
 refine A_tk 8 (v := (vP (some ⟨c, 0, none⟩))) rfl (by kernel_rfl) (fun w hS => x_load1 rfl underlying60 rfl (hS.2.1 2 (vP (some ⟨c, 0, none⟩)) rfl)) hq16_ ?_
 refine A_tk 9 (v := (vP (some ⟨c, 0, none⟩))) rfl (by kernel_rfl) (fun w hS => by kernel_rfl) hq16_ ?_
 refine A_tk 10 (v := (vP (some ⟨c, 1, none⟩))) rfl (by kernel_rfl) (fun w hS => by kernel_rfl) hq16_ ?_
 refine A_tk 11 (v := (Value.func (.func 16) #[] #[])) rfl (by kernel_rfl) (fun w hS => x_load1 rfl underlying53 rfl (hS.2.2.2.1 1 (Value.func (.func 16) #[] #[]) rfl)) hq16_ ?_
 refine A_ready (i := 12) (rs := []) (by kernel_rfl) ?_
 refine AllR.cons ?_ AllR.nil
 have H21_ := ((Holds.bring (Holds.bring H15_ 3 rfl) 4 rfl) :)
 refine A_op (ls' := #[true, true, true, true, true, true, true, true, true, true, true, true, true, false, false, false, false, false]) rfl (by kernel_rfl) (T_call (al := [t.iv, (vA #[(vI .i64 e.key), (vI .i64 e.val)]), (Value.func (.func 16) #[] #[])]) (pre := [sl 24 2 t.iv (List.length t.xs) (t.xs.flatMap EL.cells)]) rfl rfl cb56 (btFind R t.iv t.xs e (by first | assumption | omega) (by first | assumption | omega)) H21_ ?_)
 rintro v17_ p25_ w22_ ⟨i18_, b19_, rfl, rfl, he20_⟩ S24_ H23_
 have S26_ := Same.trans (Same.trans S13_ (Same.drew _)) S24_
 refine ⟨⟨Holds.rd H23_ 3 rfl, Holds.rd H23_ 4 rfl, Holds.slrd H23_ 1 rfl, Holds.rd H23_ 5 rfl, (Holds.ro_at H23_ 0 rfl)⟩, ?_⟩
 have hq27_ := And.intro (Holds.rd H23_ 3 rfl) (And.intro (Holds.rd H23_ 4 rfl) (And.intro (Holds.slrd H23_ 1 rfl) (And.intro (Holds.rd H23_ 5 rfl) ((Holds.ro_at H23_ 0 rfl)))))
 refine A_tk 13 (v := (vT #[(vI .i64 (i18_ : Int)), (vB b19_)])) rfl (by kernel_rfl) (fun w hS => x_move rfl) hq27_ ?_
 refine A_tk 14 (v := (vI .i64 (i18_ : Int))) rfl (by kernel_rfl) (fun w hS => by kernel_rfl) hq27_ ?_
 refine A_tk 15 (v := (vB b19_)) rfl (by kernel_rfl) (fun w hS => by kernel_rfl) hq27_ ?_
 refine A_tk 16 (v := (vI .i64 (i18_ : Int))) rfl (by kernel_rfl) (fun w hS => x_assign rfl) hq27_ ?_
 refine A_tk 17 (v := (vB b19_)) rfl (by kernel_rfl) (fun w hS => x_assign rfl) hq27_ ?_
 refine A_done (by kernel_rfl) ?_
 refine (X_then (hK14_ _ _ ?_))
 refine C_seq (fun _ hK28_ => ?_)
 refine cR fun _ hK29_ => ?_
 refine sm (vB b19_) ?_
 refine wn (hK29_ _ _ ?_)
 refine C_cond (b := b19_) rfl (fun c30_t => ?_) (fun c30_f => ?_)
 ·skip
  obtain ⟨x_, hx_, hxk_⟩ := he20_.1 c30_t
  have hxl_ := (List.getElem?_eq_some_iff.1 hx_).1
  refine cR fun _ hK31_ => ?_
  refine sm (vP (some ⟨t.a, 0, none⟩)) ?_
  refine sv (v := (vP (some ⟨t.a, 0, none⟩))) (by kernel_rfl) ?_
  refine sv (v := (vP (some ⟨t.a, 0, none⟩))) (by kernel_rfl) ?_
  refine sv (v := t.iv) (x_load1 rfl underlying76 rfl ((Holds.rd H23_ 4 rfl) 0 t.iv rfl)) ?_
  refine sm (vI .i64 (i18_ : Int)) ?_
  have hr32_ := Holds.sl_RSw H23_ 1 rfl
  refine sv (v := (vP (some ⟨(sb t.iv), so t.iv + (i18_ * 2 + 0), none⟩))) (x_idxSlR (v := t.iv) rfl hr32_ rfl underlying76 z24 (by omega) (by omega) (by omega : _ = i18_) rfl) ?_
  refine sv (v := (vA #[(vI .i64 x_.key), (vI .i64 x_.val)])) (x_loadN (vs := [(vI .i64 x_.key), (vI .i64 x_.val)]) rfl underlying24 rfl z24 rfl (SlRd.cells (Holds.slrd H23_ 1 rfl) (i18_ * 2 + 0) (fm_cells EL.len hx_ (i := 0) rfl))) ?_
  refine S_list0 (T_storeN (vs := [(vI .i64 x_.key), (vI .i64 x_.val)]) rfl rfl z24 rfl (by simp [Value.oneCell']) H23_ 2 rfl (Nat.le_of_ble_eq_true (by rfl)) ?_)
  intro w33_ S35_ H34_
  have S36_ := Same.trans S26_ S35_
  refine sv (v := (vB true)) (x_assign rfl) ?_
  refine wn (hK31_ _ _ ?_)
  refine C_ret (X_thenR ?_)
  refine R_any (v := (vT #[(vA #[(vI .i64 x_.key), (vI .i64 x_.val)]), (vB true)])) (run_results2 rfl ⟨_, rfl, load_resN underlying24 rfl z24 rfl (vs := [(vI .i64 x_.key), (vI .i64 x_.val)]) (Holds.cl_cells H34_ 2 rfl 0 rfl)⟩ rfl) ?_
  have H37_ := ((Holds.bring (Holds.bring H34_ 1 rfl) 4 rfl) :)
  have H38_ := Holds.leaf_in (t := t) H37_
  have H39_ := Holds.pkF H38_ [1, 0, 2] 2
  exact ⟨_, _, rfl, ⟨x_, true, rfl, rfl, (ask_leaf hx_ hs hxk_)⟩, S36_, H39_⟩
 ·skip
  obtain ⟨hil_, hlo_, hhi_⟩ := he20_.2 c30_f
  refine cR fun _ hK40_ => ?_
  refine sm (vP (some ⟨t.a, 0, none⟩)) ?_
  refine sv (v := (vP (some ⟨t.a, 0, none⟩))) (by kernel_rfl) ?_
  refine sv (v := (vP (some ⟨t.a, 1, none⟩))) (by kernel_rfl) ?_
  refine sv (v := (vS none 0 0)) (x_load1 rfl underlying77 rfl ((Holds.rd H23_ 4 rfl) 1 (vS none 0 0) rfl)) ?_
  refine sv (v := (vI .i64 0)) (x_lenS rfl underlying77) ?_
  refine sv (v := (vB false)) (x_bin rfl rfl rfl) ?_
  refine wn (hK40_ _ _ ?_)
  refine C_condF rfl ?_
  refine C_skip (X_then (hK28_ _ _ ?_))
  refine C_ret ?_
  refine R_any (v := (vT #[(vA #[(vI .i64 0), (vI .i64 0)]), (vB false)])) (run_results2 rfl ⟨_, rfl, load_resN underlying24 rfl z24 rfl (vs := [(vI .i64 0), (vI .i64 0)]) (Holds.cl_cells H23_ 2 rfl 0 rfl)⟩ rfl) ?_
  have H41_ := ((Holds.bring (Holds.bring H23_ 1 rfl) 4 rfl) :)
  have H42_ := Holds.leaf_in (t := t) H41_
  have H43_ := Holds.pkF H42_ [1, 0, 2] 2
  exact ⟨_, _, rfl, ⟨zE, false, (congrArg (fun l => vT (List.toArray l)) (lcons (congrArg (fun l => vA (List.toArray l)) (lcons (congrArg (vI .i64) ((by first | rfl | omega | (simp; done) | (simp; omega)) : 0 = zE.key)) (lcons (congrArg (vI .i64) ((by first | rfl | omega | (simp; done) | (simp; omega)) : 0 = zE.val)) rfl))) rfl)), rfl, (ask_no hlo_ hhi_)⟩, S26_, H43_⟩

set_option maxHeartbeats 1600000 in
theorem btGetN (R : HP) (c fl : Nat) (h : Nat) (t : BN) (ks : List (BT h)) (e : EL) (hw : (nodeB t ks).Wf) (hs : SrtE (nodeB t ks).el) (hn : (nodeB t ks).el.length ≤ 1000000) (ih : ∀ (R : HP) (c fl : Nat) (k : BT h) (e : EL) (hwk : k.Wf) (hsk : SrtE k.el) (hnk : k.el.length ≤ 1000000), Tri Try.prog 40 #[(vP (some ⟨k.a, 0, none⟩)), (vA #[(vI .i64 e.key), (vI .i64 e.val)])] R [btp c k, cl c 58 [(vP (some ⟨fl, 0, none⟩)), (Value.func (.func 16) #[] #[])]] (fun v__ post__ => ∃ (o : EL) (b : Bool), v__ = (vT #[(vA #[(vI .i64 o.key), (vI .i64 o.val)]), (vB b)]) ∧ post__ = [btp c k, cl c 58 [(vP (some ⟨fl, 0, none⟩)), (Value.func (.func 16) #[] #[])]] ∧ (Told e k.el o b))) :
    Tri Try.prog 40 #[(vP (some ⟨t.a, 0, none⟩)), (vA #[(vI .i64 e.key), (vI .i64 e.val)])] R [btp c (nodeB t ks), cl c 58 [(vP (some ⟨fl, 0, none⟩)), (Value.func (.func 16) #[] #[])]] (fun v__ post__ => ∃ (o : EL) (b : Bool), v__ = (vT #[(vA #[(vI .i64 o.key), (vI .i64 o.val)]), (vB b)]) ∧ post__ = [btp c (nodeB t ks), cl c 58 [(vP (some ⟨fl, 0, none⟩)), (Value.func (.func 16) #[] #[])]] ∧ (Told e (nodeB t ks).el o b)) := by
 have hkl := ((BT.wfS t ks).1 hw).1
 have hkm : (ks.map BT.a).length = ks.length := List.length_map ..
 obtain ⟨hso, hno⟩ := own_srt (t := t) (ks := ks) hw hs
 have hn2 : t.xs.length ≤ 1000000 := Nat.le_trans hno hn
 refine Tri.into (n := 49) (al := [(vP (some ⟨t.a, 0, none⟩)), (vA #[(vI .i64 e.key), (vI .i64 e.val)])]) func40 rfl ntmps40 rfl rfl fun w F H => ?_
 have H1_ := ((Holds.bring H 1 rfl) :)
 have H2_ := Holds.nodeO H1_
 refine cR fun _ hK3_ => ?_
 refine S_list (T_box (v := (vA #[(vI .i64 e.key), (vI .i64 e.val)])) rfl H2_ ?_)
 intro b4_ w5_ S7_ H6_
 have S8_ := Same.trans (Same.refl w) S7_
 refine S_list (T_alloc z24 H6_ ?_)
 intro b9_ w10_ S12_ H11_
 have S13_ := Same.trans S8_ S12_
 refine sv (v := (vB false)) (x_assign rfl) ?_
 refine wn (hK3_ _ _ ?_)
 refine C_seq (fun _ hK14_ => ?_)
 refine A_start (S := fun w => Rd b4_ [(vI .i64 e.key), (vI .i64 e.val)] w ∧ Rd t.a [t.iv, t.cv, (vP (some ⟨c, 0, none⟩))] w ∧ SlRd t.iv (t.xs.flatMap EL.cells) w ∧ SlRd t.cv (pBs (ks.map BT.a)) w ∧ Rd c [(vP (some ⟨fl, 0, none⟩)), (Value.func (.func 16) #[] #[])] w ∧ Sub R (hp w)) (N := 18) foll rfl rfl ?_
 have H15_ := Holds.drew_ H11_
 have hq16_ := And.intro (Holds.rd H15_ 1 rfl) (And.intro (Holds.rd H15_ 2 rfl) (And.intro (Holds.slrd H15_ 3 rfl) (And.intro (Holds.slrd H15_ 4 rfl) (And.intro (Holds.rd H15_ 7 rfl) ((Holds.ro_at H15_ 6 rfl))))))
 refine A_tk 0 (v := (vP (some ⟨t.a, 0, none⟩))) rfl (by kernel_rfl) (fun w hS => x_move rfl) hq16_ ?_
 refine A_tk 1 (v := (vP (some ⟨t.a, 0, none⟩))) rfl (by kernel_rfl) (fun w hS => by kernel_rfl) hq16_ ?_
 refine A_tk 2 (v := (vP (some ⟨t.a, 0, none⟩))) rfl (by kernel_rfl) (fun w hS => by kernel_rfl) hq16_ ?_
 refine A_tk 3 (v := t.iv) rfl (by kernel_rfl) (fun w hS => x_load1 rfl underlying76 rfl (hS.2.1 0 t.iv rfl)) hq16_ ?_
 refine A_tk 4 (v := (vA #[(vI .i64 e.key), (vI .i64 e.val)])) rfl (by kernel_rfl) (fun w hS => x_loadN (vs := [(vI .i64 e.key), (vI .i64 e.val)]) rfl underlying24 rfl z24 rfl (Rd.cells hS.1 0 rfl)) hq16_ ?_
 refine A_tk 5 (v := (vP (some ⟨t.a, 0, none⟩))) rfl (by kernel_rfl) (fun w hS => x_move rfl) hq16_ ?_
 refine A_tk 6 (v := (vP (some ⟨t.a, 0, none⟩))) rfl (by kernel_rfl) (fun w hS => by kernel_rfl) hq16_ ?_
 refine A_tk 7 (v := (vP (some ⟨t.a, 2, none⟩))) rfl (by kernel_rfl) (fun w hS => by kernel_rfl) hq16_ ?_
 refine A_tk 8 (v := (vP (some ⟨c, 0, none⟩))) rfl (by kernel_rfl) (fun w hS => x_load1 rfl underlying60 rfl (hS.2.1 2 (vP (some ⟨c, 0, none⟩)) rfl)) hq16_ ?_
 refine A_tk 9 (v := (vP (some ⟨c, 0, none⟩))) rfl (by kernel_rfl) (fun w hS => by kernel_rfl) hq16_ ?_
 refine A_tk 10 (v := (vP (some ⟨c, 1, none⟩))) rfl (by kernel_rfl) (fun w hS => by kernel_rfl) hq16_ ?_
 refine A_tk 11 (v := (Value.func (.func 16) #[] #[])) rfl (by kernel_rfl) (fun w hS => x_load1 rfl underlying53 rfl (hS.2.2.2.2.1 1 (Value.func (.func 16) #[] #[]) rfl)) hq16_ ?_
 refine A_ready (i := 12) (rs := []) (by kernel_rfl) ?_
 refine AllR.cons ?_ AllR.nil
 have H21_ := ((Holds.bring (Holds.bring H15_ 3 rfl) 6 rfl) :)
 refine A_op (ls' := #[true, true, true, true, true, true, true, true, true, true, true, true, true, false, false, false, false, false]) rfl (by kernel_rfl) (T_call (al := [t.iv, (vA #[(vI .i64 e.key), (vI .i64 e.val)]), (Value.func (.func 16) #[] #[])]) (pre := [sl 24 2 t.iv (List.length t.xs) (t.xs.flatMap EL.cells)]) rfl rfl cb56 (btFind R t.iv t.xs e (hso) (hn2)) H21_ ?_)
 rintro v17_ p25_ w22_ ⟨i18_, b19_, rfl, rfl, he20_⟩ S24_ H23_
 have S26_ := Same.trans (Same.trans S13_ (Same.drew _)) S24_
 refine ⟨⟨Holds.rd H23_ 3 rfl, Holds.rd H23_ 4 rfl, Holds.slrd H23_ 1 rfl, Holds.slrd H23_ 5 rfl, Holds.rd H23_ 7 rfl, (Holds.ro_at H23_ 0 rfl)⟩, ?_⟩
 have hq27_ := And.intro (Holds.rd H23_ 3 rfl) (And.intro (Holds.rd H23_ 4 rfl) (And.intro (Holds.slrd H23_ 1 rfl) (And.intro (Holds.slrd H23_ 5 rfl) (And.intro (Holds.rd H23_ 7 rfl) ((Holds.ro_at H23_ 0 rfl))))))
 refine A_tk 13 (v := (vT #[(vI .i64 (i18_ : Int)), (vB b19_)])) rfl (by kernel_rfl) (fun w hS => x_move rfl) hq27_ ?_
 refine A_tk 14 (v := (vI .i64 (i18_ : Int))) rfl (by kernel_rfl) (fun w hS => by kernel_rfl) hq27_ ?_
 refine A_tk 15 (v := (vB b19_)) rfl (by kernel_rfl) (fun w hS => by kernel_rfl) hq27_ ?_
 refine A_tk 16 (v := (vI .i64 (i18_ : Int))) rfl (by kernel_rfl) (fun w hS => x_assign rfl) hq27_ ?_
 refine A_tk 17 (v := (vB b19_)) rfl (by kernel_rfl) (fun w hS => x_assign rfl) hq27_ ?_
 refine A_done (by kernel_rfl) ?_
 refine (X_then (hK14_ _ _ ?_))
 refine C_seq (fun _ hK28_ => ?_)
 refine cR fun _ hK29_ => ?_
 refine sm (vB b19_) ?_
 refine wn (hK29_ _ _ ?_)
 refine C_cond (b := b19_) rfl (fun c30_t => ?_) (fun c30_f => ?_)
 ·skip
  obtain ⟨x_, hx_, hxk_⟩ := he20_.1 c30_t
  have hxl_ := (List.getElem?_eq_some_iff.1 hx_).1
  refine cR fun _ hK31_ => ?_
  refine sm (vP (some ⟨t.a, 0, none⟩)) ?_
  refine sv (v := (vP (some ⟨t.a, 0, none⟩))) (by kernel_rfl) ?_
  refine sv (v := (vP (some ⟨t.a, 0, none⟩))) (by kernel_rfl) ?_
  refine sv (v := t.iv) (x_load1 rfl underlying76 rfl ((Holds.rd H23_ 4 rfl) 0 t.iv rfl)) ?_
  refine sm (vI .i64 (i18_ : Int)) ?_
  have hr32_ := Holds.sl_RSw H23_ 1 rfl
  refine sv (v := (vP (some ⟨(sb t.iv), so t.iv + (i18_ * 2 + 0), none⟩))) (x_idxSlR (v := t.iv) rfl hr32_ rfl underlying76 z24 (by omega) (by omega) (by omega : _ = i18_) rfl) ?_
  refine sv (v := (vA #[(vI .i64 x_.key), (vI .i64 x_.val)])) (x_loadN (vs := [(vI .i64 x_.key), (vI .i64 x_.val)]) rfl underlying24 rfl z24 rfl (SlRd.cells (Holds.slrd H23_ 1 rfl) (i18_ * 2 + 0) (fm_cells EL.len hx_ (i := 0) rfl))) ?_
  refine S_list0 (T_storeN (vs := [(vI .i64 x_.key), (vI .i64 x_.val)]) rfl rfl z24 rfl (by simp [Value.oneCell']) H23_ 2 rfl (Nat.le_of_ble_eq_true (by rfl)) ?_)
  intro w33_ S35_ H34_
  have S36_ := Same.trans S26_ S35_
  refine sv (v := (vB true)) (x_assign rfl) ?_
  refine wn (hK31_ _ _ ?_)
  refine C_ret (X_thenR ?_)
  refine R_any (v := (vT #[(vA #[(vI .i64 x_.key), (vI .i64 x_.val)]), (vB true)])) (run_results2 rfl ⟨_, rfl, load_resN underlying24 rfl z24 rfl (vs := [(vI .i64 x_.key), (vI .i64 x_.val)]) (Holds.cl_cells H34_ 2 rfl 0 rfl)⟩ rfl) ?_
  have H37_ := ((Holds.bring (Holds.bring (Holds.bring (Holds.bring H34_ 6 rfl) 6 rfl) 3 rfl) 6 rfl) :)
  have H38_ := Holds.node_in (t := t) H37_
  have H39_ := Holds.pkF H38_ [1, 0, 2] 2
  exact ⟨_, _, rfl, ⟨x_, true, rfl, rfl, (ask_yes (t := t) hw hx_ hs hxk_)⟩, S36_, H39_⟩
 ·skip
  obtain ⟨hil_, hlo_, hhi_⟩ := he20_.2 c30_f
  obtain ⟨k_, hk_, _⟩ := elem_at ks i18_ (by omega)
  obtain ⟨hsk_, hnk_, hwk_⟩ := kid_srt (t := t) hw hk_ hs
  refine cR fun _ hK40_ => ?_
  refine sm (vP (some ⟨t.a, 0, none⟩)) ?_
  refine sv (v := (vP (some ⟨t.a, 0, none⟩))) (by kernel_rfl) ?_
  refine sv (v := (vP (some ⟨t.a, 1, none⟩))) (by kernel_rfl) ?_
  refine sv (v := t.cv) (x_load1 rfl underlying77 rfl ((Holds.rd H23_ 4 rfl) 1 t.cv rfl)) ?_
  refine sv (v := (vI .i64 ((List.length (ks.map BT.a)) : Int))) (x_lenSl rfl H23_ 5 rfl underlying77) ?_
  refine sv (v := (vB (decide (0 < ((List.length (ks.map BT.a)) : Int))))) (x_bin rfl rfl rfl) ?_
  refine wn (hK40_ _ _ ?_)
  refine C_cond (b := decide (0 < ((List.length (ks.map BT.a)) : Int))) rfl (fun c41_t => ?_) (fun c41_f => ?_)
  ·have c41_tp : 0 < ((List.length (ks.map BT.a)) : Int) := of_decide_eq_true c41_t
   refine C_seq (fun _ hK42_ => ?_)
   refine A_start (S := fun w => SlRd t.iv (t.xs.flatMap EL.cells) w ∧ Rd b4_ [(vI .i64 e.key), (vI .i64 e.val)] w ∧ Rd t.a [t.iv, t.cv, (vP (some ⟨c, 0, none⟩))] w ∧ SlRd t.cv (pBs (ks.map BT.a)) w ∧ Rd c [(vP (some ⟨fl, 0, none⟩)), (Value.func (.func 16) #[] #[])] w ∧ Sub R (hp w)) (N := 13) foll rfl rfl ?_
   have H43_ := Holds.drew_ H23_
   have hq44_ := And.intro (Holds.slrd H43_ 1 rfl) (And.intro (Holds.rd H43_ 3 rfl) (And.intro (Holds.rd H43_ 4 rfl) (And.intro (Holds.slrd H43_ 5 rfl) (And.intro (Holds.rd H43_ 7 rfl) ((Holds.ro_at H43_ 0 rfl))))))
   refine A_tk 0 (v := (vP (some ⟨t.a, 0, none⟩))) rfl (by kernel_rfl) (fun w hS => x_move rfl) hq44_ ?_
   refine A_tk 1 (v := (vP (some ⟨t.a, 0, none⟩))) rfl (by kernel_rfl) (fun w hS => by kernel_rfl) hq44_ ?_
   refine A_tk 2 (v := (vP (some ⟨t.a, 1, none⟩))) rfl (by kernel_rfl) (fun w hS => by kernel_rfl) hq44_ ?_
   refine A_tk 3 (v := t.cv) rfl (by kernel_rfl) (fun w hS => x_load1 rfl underlying77 rfl (hS.2.2.1 1 t.cv rfl)) hq44_ ?_
   refine A_tk 4 (v := (vI .i64 (i18_ : Int))) rfl (by kernel_rfl) (fun w hS => x_move rfl) hq44_ ?_
   have hr45_ := Holds.sl_RSw H43_ 5 rfl
   refine A_tk 5 (v := (vP (some ⟨(sb t.cv), so t.cv + i18_, none⟩))) rfl (by kernel_rfl) (fun w hS => x_idxSlR (v := t.cv) rfl hr45_ rfl underlying77 z59 (by omega) (by omega) (by omega : _ = i18_) (by rw [Nat.mul_one])) hq44_ ?_
   refine A_tk 6 (v := (vP (some ⟨k_.a, 0, none⟩))) rfl (by kernel_rfl) (fun w hS => x_load1 rfl underlying59 rfl (hS.2.2.2.1 _ _ (pbs_at (kid_a hk_)))) hq44_ ?_
   refine A_tk 7 (v := (vA #[(vI .i64 e.key), (vI .i64 e.val)])) rfl (by kernel_rfl) (fun w hS => x_loadN (vs := [(vI .i64 e.key), (vI .i64 e.val)]) rfl underlying24 rfl z24 rfl (Rd.cells hS.2.1 0 rfl)) hq44_ ?_
   refine A_ready (i := 8) (rs := []) (by kernel_rfl) ?_
   refine AllR.cons ?_ AllR.nil
   have H46_ := ((Holds.bring H43_ 6 rfl) :)
   have H47_ := Holds.kids_out hk_ H46_
   have H52_ := ((Holds.bring (Holds.bring (Holds.bring H47_ 8 rfl) 1 rfl) 3 rfl) :)
   refine A_op (ls' := #[true, true, true, true, true, true, true, true, true, false, false, false, false]) rfl (by kernel_rfl) (T_call (al := [(vP (some ⟨k_.a, 0, none⟩)), (vA #[(vI .i64 e.key), (vI .i64 e.val)])]) (pre := [btp c k_, cl c 58 [(vP (some ⟨fl, 0, none⟩)), (Value.func (.func 16) #[] #[])]]) rfl rfl cb40 (ih R c fl k_ e (hwk_) (hsk_) (Nat.le_trans hnk_ hn)) H52_ ?_)
   rintro v48_ p56_ w53_ ⟨o49_, b50_, rfl, rfl, he51_⟩ S55_ H54_
   have S57_ := Same.trans (Same.trans S26_ (Same.drew _)) S55_
   have H58_ := ((Holds.bring (Holds.bring H54_ 3 rfl) 2 rfl) :)
   have H59_ := Holds.kids_back hk_ H58_
   refine ⟨⟨Holds.slrd H59_ 3 rfl, Holds.rd H59_ 5 rfl, Holds.rd H59_ 6 rfl, Holds.slrd H59_ 7 rfl, Holds.rd H59_ 2 rfl, (Holds.ro_at H59_ 1 rfl)⟩, ?_⟩
   have hq60_ := And.intro (Holds.slrd H59_ 3 rfl) (And.intro (Holds.rd H59_ 5 rfl) (And.intro (Holds.rd H59_ 6 rfl) (And.intro (Holds.slrd H59_ 7 rfl) (And.intro (Holds.rd H59_ 2 rfl) ((Holds.ro_at H59_ 1 rfl))))))
   refine A_tk 9 (v := (vA #[(vI .i64 o49_.key), (vI .i64 o49_.val)])) rfl (by kernel_rfl) (fun w hS => by kernel_rfl) hq60_ ?_
   refine A_tk 10 (v := (vB b50_)) rfl (by kernel_rfl) (fun w hS => by kernel_rfl) hq60_ ?_
   refine A_ready (i := 11) (rs := []) (by kernel_rfl) ?_
   refine AllR.cons ?_ AllR.nil
   refine A_op0 (ls' := #[true, true, true, true, true, true, true, true, true, true, true, true, false]) rfl (by kernel_rfl) (T_storeN (vs := [(vI .i64 o49_.key), (vI .i64 o49_.val)]) rfl rfl z24 rfl (by simp [Value.oneCell']) H59_ 4 rfl (Nat.le_of_ble_eq_true (by rfl)) ?_)
   intro w61_ S63_ H62_
   have S64_ := Same.trans S57_ S63_
   refine ⟨⟨Holds.slrd H62_ 3 rfl, Holds.rd H62_ 5 rfl, Holds.rd H62_ 6 rfl, Holds.slrd H62_ 7 rfl, Holds.rd H62_ 2 rfl, (Holds.ro_at H62_ 1 rfl)⟩, ?_⟩
   have hq65_ := And.intro (Holds.slrd H62_ 3 rfl) (And.intro (Holds.rd H62_ 5 rfl) (And.intro (Holds.rd H62_ 6 rfl) (And.intro (Holds.slrd H62_ 7 rfl) (And.intro (Holds.rd H62_ 2 rfl) ((Holds.ro_at H62_ 1 rfl))))))
   refine A_tk 12 (v := (vB b50_)) rfl (by kernel_rfl) (fun w hS => x_assign rfl) hq65_ ?_
   refine A_done (by kernel_rfl) ?_
   refine (X_then (hK42_ _ _ ?_))
   refine C_ret (X_thenR ?_)
   refine R_any (v := (vT #[(vA #[(vI .i64 o49_.key), (vI .i64 o49_.val)]), (vB b50_)])) (run_results2 rfl ⟨_, rfl, load_resN underlying24 rfl z24 rfl (vs := [(vI .i64 o49_.key), (vI .i64 o49_.val)]) (Holds.cl_cells H62_ 4 rfl 0 rfl)⟩ rfl) ?_
   have H66_ := ((Holds.bring (Holds.bring (Holds.bring H62_ 7 rfl) 4 rfl) 7 rfl) :)
   have H67_ := Holds.node_in (t := t) H66_
   have H68_ := Holds.pkF H67_ [1, 0, 0] 2
   exact ⟨_, _, rfl, ⟨o49_, b50_, rfl, rfl, (ask_node hw hk_ hs hlo_ hhi_ he51_)⟩, S64_, H68_⟩
  ·have c41_fp : ¬ (0 < ((List.length (ks.map BT.a)) : Int)) := of_decide_eq_false c41_f
   simp only [List.length_map] at c41_fp; omega

theorem btGet (R : HP) (c fl : Nat) (h : Nat) (t : BT h) (e : EL) (hw : t.Wf) (hs : SrtE t.el) (hn : t.el.length ≤ 1000000) :
    Tri Try.prog 40 #[(vP (some ⟨t.a, 0, none⟩)), (vA #[(vI .i64 e.key), (vI .i64 e.val)])] R [btp c t, cl c 58 [(vP (some ⟨fl, 0, none⟩)), (Value.func (.func 16) #[] #[])]] (fun v__ post__ => ∃ (o : EL) (b : Bool), v__ = (vT #[(vA #[(vI .i64 o.key), (vI .i64 o.val)]), (vB b)]) ∧ post__ = [btp c t, cl c 58 [(vP (some ⟨fl, 0, none⟩)), (Value.func (.func 16) #[] #[])]] ∧ (Told e t.el o b)) := by
  have key : ∀ (h : Nat) (R : HP) (c fl : Nat) (t : BT h) (e : EL) (hw : t.Wf) (hs : SrtE t.el) (hn : t.el.length ≤ 1000000), Tri Try.prog 40 #[(vP (some ⟨t.a, 0, none⟩)), (vA #[(vI .i64 e.key), (vI .i64 e.val)])] R [btp c t, cl c 58 [(vP (some ⟨fl, 0, none⟩)), (Value.func (.func 16) #[] #[])]] (fun v__ post__ => ∃ (o : EL) (b : Bool), v__ = (vT #[(vA #[(vI .i64 o.key), (vI .i64 o.val)]), (vB b)]) ∧ post__ = [btp c t, cl c 58 [(vP (some ⟨fl, 0, none⟩)), (Value.func (.func 16) #[] #[])]] ∧ (Told e t.el o b)) := by
    intro h
    induction h with
    | zero => intro R c fl t e hw hs hn; exact btGet0 R c fl t e hs hn
    | succ h ih => intro R c fl t e hw hs hn; exact btGetN R c fl h t.1 t.2 e hw hs hn ih
  exact key h R c fl t e hw hs hn
end Go.Proofs.Ytdfjdmmmlidamaa
set_option linter.unusedVariables false
set_option linter.unusedSimpArgs false
namespace Go.Proofs.Ytdfjdmmmlidamaa
open Go Go.RowKit Gw Try
open Go.Value renaming int → vI, bool → vB, slice → vS, pointer → vP, agg → vA, tuple → vT

set_option maxHeartbeats 1600000 in
theorem btRO0 (R : HP) (r : TR) (e : EL) :
    Tri Try.prog 23 #[(vP (some ⟨r.tb, 0, none⟩)), (vA #[(vI .i64 e.key), (vI .i64 e.val)])] R [treeP r none] (fun v__ post__ => ∃ (T' : Option (Sigma BT)) (o : EL) (b : Bool), v__ = (vT #[(vA #[(vI .i64 o.key), (vI .i64 o.val)]), (vB b)]) ∧ post__ = [treeP r T'] ∧ (tOk T') ∧ (tel T' = insE e (tel none)) ∧ (Told e (tel none) o b)) := by
 refine Tri.into (n := 148) (al := [(vP (some ⟨r.tb, 0, none⟩)), (vA #[(vI .i64 e.key), (vI .i64 e.val)])]) func23 rfl ntmps23 rfl rfl fun w F H => ?_
 have H1_ := ((Holds.bring H 1 rfl) :)
 have H2_ := Holds.t0_out H1_
 refine cR fun _ hK3_ => ?_
 refine S_list (T_box (v := (vA #[(vI .i64 e.key), (vI .i64 e.val)])) rfl H2_ ?_)
 intro b4_ w5_ S7_ H6_
 have S8_ := Same.trans (Same.refl w) S7_
 refine S_list (T_alloc z24 H6_ ?_)
 intro b9_ w10_ S12_ H11_
 have S13_ := Same.trans S8_ S12_
 refine sv (v := (vB false)) (x_assign rfl) ?_
 refine wn (hK3_ _ _ ?_)
 refine C_seq (fun _ hK14_ => ?_)
 refine cR fun _ hK15_ => ?_
 refine sm (vP (some ⟨r.tb, 0, none⟩)) ?_
 refine sv (v := (vP (some ⟨r.tb, 0, none⟩))) (by kernel_rfl) ?_
 refine sv (v := (vP (some ⟨r.tb, 2, none⟩))) (by kernel_rfl) ?_
 refine sv (v := (vP none)) (x_load1 rfl underlying59 rfl ((Holds.rd H11_ 2 rfl) 2 (vP none) rfl)) ?_
 refine sv (v := (vB true)) (by kernel_rfl) ?_
 refine wn (hK15_ _ _ ?_)
 refine C_condT rfl ?_
 refine cR fun _ hK16_ => ?_
 refine sm (vP (some ⟨r.tb, 0, none⟩)) ?_
 refine sm (vP (some ⟨r.tb, 0, none⟩)) ?_
 refine sv (v := (vP (some ⟨r.tb, 0, none⟩))) (by kernel_rfl) ?_
 refine sv (v := (vP (some ⟨r.tb, 3, none⟩))) (by kernel_rfl) ?_
 refine sv (v := (vP (some ⟨r.c, 0, none⟩))) (x_load1 rfl underlying60 rfl ((Holds.rd H11_ 2 rfl) 3 (vP (some ⟨r.c, 0, none⟩)) rfl)) ?_
 have H19_ := ((Holds.bring (Holds.bring (Holds.bring H11_ 4 rfl) 4 rfl) 5 rfl) :)
 refine S_list (T_call (al := [(vP (some ⟨r.c, 0, none⟩))]) (pre := [cl r.c 58 [(vP (some ⟨r.fl, 0, none⟩)), (Value.func (.func 16) #[] #[])], cl r.fl 74 [(vS r.fa 0 r.fc)]]) rfl rfl cb34 (btNew R r.c r.fl r.fc r.fa) H19_ ?_)
 rintro v17_ p23_ w20_ ⟨a18_, rfl, rfl⟩ S22_ H21_
 have S24_ := Same.trans S13_ S22_
 refine sv (v := (vP (some ⟨r.tb, 0, none⟩))) (by kernel_rfl) ?_
 refine sv (v := (vP (some ⟨r.tb, 2, none⟩))) (by kernel_rfl) ?_
 refine S_list0 (T_store1 (v := (vP (some ⟨a18_, 0, none⟩))) rfl rfl z59 rfl H21_ 6 rfl (Nat.le_of_ble_eq_true (by rfl)) ?_)
 intro w25_ S27_ H26_
 have S28_ := Same.trans S24_ S27_
 refine wn (hK16_ _ _ ?_)
 refine C_seq (fun _ hK29_ => ?_)
 refine A_start (S := fun w => Rd r.c [(vP (some ⟨r.fl, 0, none⟩)), (Value.func (.func 16) #[] #[])] w ∧ Rd r.fl [(vS r.fa 0 r.fc)] w ∧ Rd b9_ [(vI .i64 0), (vI .i64 0)] w ∧ Rd b4_ [(vI .i64 e.key), (vI .i64 e.val)] w ∧ Rd r.tb [(vI .i64 (r.d : Int)), (vI .i64 0), (vP (some ⟨a18_, 0, none⟩)), (vP (some ⟨r.c, 0, none⟩))] w ∧ Sub R (hp w)) (N := 17) foll rfl rfl ?_
 have H30_ := Holds.drew_ H26_
 refine A_cut #[true, true, true, true, true, true, true, true, true, true, true, true, true, true, true, true, false] 1 (fun a__ w1__ => ∃ v39_ : Value, ∃ h : Env, a__ = mkA 148 (upd (upd (upd (upd (upd (upd h 0 (vP (some ⟨r.tb, 0, none⟩))) 3 (vP (some ⟨b4_, 0, none⟩))) 4 (vP (some ⟨b9_, 0, none⟩))) 5 (vB false)) 37 v39_) 39 (vP (some ⟨a18_, 0, none⟩))) [] ∧ Holds w1__ (sl 24 2 v39_ 1 ([] ++ [(vI .i64 e.key), (vI .i64 e.val)]) :: sl 24 2 (.slice none 0 0) 0 [] :: ro R :: cl a18_ 79 [(vS none 0 0), (vS none 0 0), (vP (some ⟨r.c, 0, none⟩))] :: cl r.c 58 [(vP (some ⟨r.fl, 0, none⟩)), (Value.func (.func 16) #[] #[])] :: cl r.fl 74 [(vS r.fa 0 r.fc)] :: cl b9_ 24 [(vI .i64 0), (vI .i64 0)] :: cl b4_ 24 [(vI .i64 e.key), (vI .i64 e.val)] :: cl r.tb 62 [(vI .i64 (r.d : Int)), (vI .i64 0), (vP (some ⟨a18_, 0, none⟩)), (vP (some ⟨r.c, 0, none⟩))] :: F) ∧ Same w w1__) ?_ ?_
 ·rintro _ w59_ ⟨v39_, h, rfl, H60_, S61_⟩
  refine A_ready (i := 16) (rs := []) (by kernel_rfl) ?_
  refine AllR.cons ?_ AllR.nil
  refine A_op0 (ls' := #[true, true, true, true, true, true, true, true, true, true, true, true, true, true, true, true, true]) rfl (by kernel_rfl) (T_store1 (v := v39_) rfl rfl z76 (Holds.sl_one H60_ 0 rfl) H60_ 3 rfl (Nat.le_of_ble_eq_true (by rfl)) ?_)
  intro w62_ S64_ H63_
  have S65_ := Same.trans S61_ S64_
  refine ⟨⟨Holds.rd H63_ 4 rfl, Holds.rd H63_ 5 rfl, Holds.rd H63_ 6 rfl, Holds.rd H63_ 7 rfl, Holds.rd H63_ 8 rfl, (Holds.ro_at H63_ 2 rfl)⟩, ?_⟩
  refine A_done (by kernel_rfl) ?_
  refine (X_then (hK29_ _ _ ?_))
  refine cR fun _ hK66_ => ?_
  refine sm (vP (some ⟨r.tb, 0, none⟩)) ?_
  refine sv (v := (vP (some ⟨r.tb, 0, none⟩))) (by kernel_rfl) ?_
  refine sv (v := (vP (some ⟨r.tb, 1, none⟩))) (by kernel_rfl) ?_
  refine sv (v := (vI .i64 0)) (x_load1 rfl underlying3 rfl ((Holds.rd H63_ 8 rfl) 1 (vI .i64 0) rfl)) ?_
  refine sv (v := (vI .i64 1)) (x_bin rfl rfl (by rfl)) ?_
  refine sv (v := (vP (some ⟨r.tb, 0, none⟩))) (by kernel_rfl) ?_
  refine sv (v := (vP (some ⟨r.tb, 1, none⟩))) (by kernel_rfl) ?_
  refine S_list0 (T_store1 (v := (vI .i64 1)) rfl rfl z3 rfl H63_ 8 rfl (Nat.le_of_ble_eq_true (by rfl)) ?_)
  intro w67_ S69_ H68_
  have S70_ := Same.trans S65_ S69_
  refine wn (hK66_ _ _ ?_)
  refine C_ret (X_thenR ?_)
  refine R_any (v := (vT #[(vA #[(vI .i64 0), (vI .i64 0)]), (vB false)])) (run_results2 rfl ⟨_, rfl, load_resN underlying24 rfl z24 rfl (vs := [(vI .i64 0), (vI .i64 0)]) (Holds.cl_cells H68_ 6 rfl 0 rfl)⟩ rfl) ?_
  have H71_ := Holds.resl H68_ 0 rfl (rfl : [] ++ [(vI .i64 e.key), (vI .i64 e.val)] = [e].flatMap EL.cells) (by first | (simp; done) | (simp; omega) : 1 = (List.length [e]))
  have H72_ := ((Holds.bring H71_ 3 rfl) :)
  have H73_ := Holds.leafI H72_
  have H74_ := Holds.recl H73_ 7 rfl ((lcons rfl (lcons (congrArg (vI .i64) ((by first | rfl | omega | (simp; done) | (simp; omega)) : 1 = (List.length (BT.el (leafB ⟨a18_, v39_, (vS none 0 0), [e]⟩)) : Int))) rfl)) : [(vI .i64 (r.d : Int)), (vI .i64 1), (vP (some ⟨a18_, 0, none⟩)), (vP (some ⟨r.c, 0, none⟩))] = [(vI .i64 (r.d : Int)), (vI .i64 (List.length (BT.el (leafB ⟨a18_, v39_, (vS none 0 0), [e]⟩)) : Int)), (vP (some ⟨a18_, 0, none⟩)), (vP (some ⟨r.c, 0, none⟩))])
  have H75_ := ((Holds.bring (Holds.bring (Holds.bring H74_ 4 rfl) 4 rfl) 7 rfl) :)
  have H76_ := Holds.t1_in (t := (leafB ⟨a18_, v39_, (vS none 0 0), [e]⟩)) H75_
  have H77_ := Holds.pkF H76_ [2, 0] 3
  exact ⟨_, _, rfl, ⟨(some ⟨0, (leafB ⟨a18_, v39_, (vS none 0 0), [e]⟩)⟩), zE, false, (congrArg (fun l => vT (List.toArray l)) (lcons (congrArg (fun l => vA (List.toArray l)) (lcons (congrArg (vI .i64) ((by first | rfl | omega | (simp; done) | (simp; omega)) : 0 = zE.key)) (lcons (congrArg (vI .i64) ((by first | rfl | omega | (simp; done) | (simp; omega)) : 0 = zE.val)) rfl))) rfl)), rfl, (⟨trivial, List.pairwise_singleton ..⟩), (rfl), (.inr ⟨rfl, rfl, rfl⟩)⟩, S70_, H77_⟩
 intro hJ57
 refine A_cut #[true, true, true, true, true, true, true, true, true, true, true, true, true, false, false, false, false] 4 (fun a__ w1__ => ∃ b32_ : Nat, ∃ h : Env, a__ = mkA 148 (upd (upd (upd (upd (upd (upd (upd h 0 (vP (some ⟨r.tb, 0, none⟩))) 3 (vP (some ⟨b4_, 0, none⟩))) 4 (vP (some ⟨b9_, 0, none⟩))) 5 (vB false)) 27 (vP (some ⟨a18_, 0, none⟩))) 34 (vS none 0 0)) 36 (vS (some ⟨b32_, 0, none⟩) 1 1)) [] ∧ Holds w1__ (cl b32_ 24 [(vI .i64 e.key), (vI .i64 e.val)] :: ro R :: cl a18_ 79 [(vS none 0 0), (vS none 0 0), (vP (some ⟨r.c, 0, none⟩))] :: cl r.c 58 [(vP (some ⟨r.fl, 0, none⟩)), (Value.func (.func 16) #[] #[])] :: cl r.fl 74 [(vS r.fa 0 r.fc)] :: cl b9_ 24 [(vI .i64 0), (vI .i64 0)] :: cl b4_ 24 [(vI .i64 e.key), (vI .i64 e.val)] :: cl r.tb 62 [(vI .i64 (r.d : Int)), (vI .i64 0), (vP (some ⟨a18_, 0, none⟩)), (vP (some ⟨r.c, 0, none⟩))] :: F) ∧ Same w w1__) ?_ ?_
 ·rintro _ w78_ ⟨b32_, h, rfl, H79_, S80_⟩
  refine A_ready (i := 13) (rs := []) (by kernel_rfl) ?_
  refine AllR.cons ?_ AllR.nil
  have H81_ : Holds w78_ (sl 24 2 (.slice none 0 0) 0 [] :: cl b32_ 24 [(vI .i64 e.key), (vI .i64 e.val)] :: ro R :: cl a18_ 79 [(vS none 0 0), (vS none 0 0), (vP (some ⟨r.c, 0, none⟩))] :: cl r.c 58 [(vP (some ⟨r.fl, 0, none⟩)), (Value.func (.func 16) #[] #[])] :: cl r.fl 74 [(vS r.fa 0 r.fc)] :: cl b9_ 24 [(vI .i64 0), (vI .i64 0)] :: cl b4_ 24 [(vI .i64 e.key), (vI .i64 e.val)] :: cl r.tb 62 [(vI .i64 (r.d : Int)), (vI .i64 0), (vP (some ⟨a18_, 0, none⟩)), (vP (some ⟨r.c, 0, none⟩))] :: F) := Holds.add_nil H79_ 24 2
  have H82_ : Holds w78_ (sl 24 2 (.slice none 0 0) 0 [] :: sl 24 2 (.slice none 0 0) 0 [] :: cl b32_ 24 [(vI .i64 e.key), (vI .i64 e.val)] :: ro R :: cl a18_ 79 [(vS none 0 0), (vS none 0 0), (vP (some ⟨r.c, 0, none⟩))] :: cl r.c 58 [(vP (some ⟨r.fl, 0, none⟩)), (Value.func (.func 16) #[] #[])] :: cl r.fl 74 [(vS r.fa 0 r.fc)] :: cl b9_ 24 [(vI .i64 0), (vI .i64 0)] :: cl b4_ 24 [(vI .i64 e.key), (vI .i64 e.val)] :: cl r.tb 62 [(vI .i64 (r.d : Int)), (vI .i64 0), (vP (some ⟨a18_, 0, none⟩)), (vP (some ⟨r.c, 0, none⟩))] :: F) := Holds.add_nil H81_ 24 2
  refine A_op (ls' := #[true, true, true, true, true, true, true, true, true, true, true, true, true, true, false, false, false]) rfl (by kernel_rfl) (T_append rfl rfl underlying76 z24 rfl (by decide) H82_ 0 rfl (Holds.cl_src H81_ 1 rfl underlying76 (by simp [Value.oneCell']) rfl) (by first | omega | (simp only [List.length_append, List.length_cons, List.length_nil]; omega)) ?_)
  intro v83_ w84_ S86_ H85_
  have S87_ := Same.trans S80_ S86_
  refine ⟨⟨Holds.rd H85_ 5 rfl, Holds.rd H85_ 6 rfl, Holds.rd H85_ 7 rfl, Holds.rd H85_ 8 rfl, Holds.rd H85_ 9 rfl, (Holds.ro_at H85_ 3 rfl)⟩, ?_⟩
  have hq88_ := And.intro (Holds.rd H85_ 5 rfl) (And.intro (Holds.rd H85_ 6 rfl) (And.intro (Holds.rd H85_ 7 rfl) (And.intro (Holds.rd H85_ 8 rfl) (And.intro (Holds.rd H85_ 9 rfl) ((Holds.ro_at H85_ 3 rfl))))))
  refine A_tk 14 (v := (vP (some ⟨a18_, 0, none⟩))) rfl (by kernel_rfl) (fun w hS => by kernel_rfl) hq88_ ?_
  refine A_tk 15 (v := (vP (some ⟨a18_, 0, none⟩))) rfl (by kernel_rfl) (fun w hS => by kernel_rfl) hq88_ ?_
  have H89_ := Holds.pkF H85_ [0, 0, 1, 1, 1, 1, 1, 1, 1] 1
  exact hJ57 _ _ ⟨v83_, _, congrArg (fun e => mkA 148 e []) (ch (ch (ch (ch (ch (ch rfl rfl) rfl) rfl) rfl) rfl) rfl), H89_, S87_⟩
 intro hJ56
 refine A_cut #[true, true, true, true, true, true, true, true, true, true, true, true, false, false, false, false, false] 5 (fun a__ w1__ => ∃ h : Env, a__ = mkA 148 (upd (upd (upd (upd (upd (upd (upd h 0 (vP (some ⟨r.tb, 0, none⟩))) 3 (vP (some ⟨b4_, 0, none⟩))) 4 (vP (some ⟨b9_, 0, none⟩))) 5 (vB false)) 27 (vP (some ⟨a18_, 0, none⟩))) 34 (vS none 0 0)) 35 (vA #[(vI .i64 e.key), (vI .i64 e.val)])) [] ∧ Holds w1__ (ro R :: cl a18_ 79 [(vS none 0 0), (vS none 0 0), (vP (some ⟨r.c, 0, none⟩))] :: cl r.c 58 [(vP (some ⟨r.fl, 0, none⟩)), (Value.func (.func 16) #[] #[])] :: cl r.fl 74 [(vS r.fa 0 r.fc)] :: cl b9_ 24 [(vI .i64 0), (vI .i64 0)] :: cl b4_ 24 [(vI .i64 e.key), (vI .i64 e.val)] :: cl r.tb 62 [(vI .i64 (r.d : Int)), (vI .i64 0), (vP (some ⟨a18_, 0, none⟩)), (vP (some ⟨r.c, 0, none⟩))] :: F) ∧ Same w w1__) ?_ ?_
 ·rintro _ w90_ ⟨h, rfl, H91_, S92_⟩
  refine A_ready (i := 12) (rs := []) (by kernel_rfl) ?_
  refine AllR.cons ?_ AllR.nil
  refine A_op (ls' := #[true, true, true, true, true, true, true, true, true, true, true, true, true, false, false, false, false]) rfl (by kernel_rfl) (T_new (obj := .cells #[(vI .i64 e.key), (vI .i64 e.val)] 24) (f := fun b__ => .slice (some ⟨b__, 0, none⟩) 1 1) (A := fun b__ => cl b__ 24 [(vI .i64 e.key), (vI .i64 e.val)]) (by kernel_rfl) (fun l h => h.alloc _ _) H91_ ?_)
  intro b93_ w94_ S96_ H95_
  have S97_ := Same.trans S92_ S96_
  refine ⟨⟨Holds.rd H95_ 3 rfl, Holds.rd H95_ 4 rfl, Holds.rd H95_ 5 rfl, Holds.rd H95_ 6 rfl, Holds.rd H95_ 7 rfl, (Holds.ro_at H95_ 1 rfl)⟩, ?_⟩
  exact hJ56 _ _ ⟨b93_, _, congrArg (fun e => mkA 148 e []) (ch (ch (ch (ch (ch (ch (ch rfl rfl) rfl) rfl) rfl) rfl) rfl) rfl), H95_, S97_⟩
 intro hJ55
 refine A_cut #[true, true, true, true, true, true, true, true, true, true, false, true, true, false, false, false, false] 5 (fun a__ w1__ => ∃ b49_ : Nat, ∃ h : Env, a__ = mkA 148 (upd (upd (upd (upd (upd (upd (upd h 0 (vP (some ⟨r.tb, 0, none⟩))) 3 (vP (some ⟨b4_, 0, none⟩))) 4 (vP (some ⟨b9_, 0, none⟩))) 5 (vB false)) 27 (vP (some ⟨a18_, 0, none⟩))) 33 (vP (some ⟨a18_, 0, none⟩))) 36 (vS (some ⟨b49_, 0, none⟩) 1 1)) [] ∧ Holds w1__ (cl b49_ 24 [(vI .i64 e.key), (vI .i64 e.val)] :: ro R :: cl a18_ 79 [(vS none 0 0), (vS none 0 0), (vP (some ⟨r.c, 0, none⟩))] :: cl r.c 58 [(vP (some ⟨r.fl, 0, none⟩)), (Value.func (.func 16) #[] #[])] :: cl r.fl 74 [(vS r.fa 0 r.fc)] :: cl b9_ 24 [(vI .i64 0), (vI .i64 0)] :: cl b4_ 24 [(vI .i64 e.key), (vI .i64 e.val)] :: cl r.tb 62 [(vI .i64 (r.d : Int)), (vI .i64 0), (vP (some ⟨a18_, 0, none⟩)), (vP (some ⟨r.c, 0, none⟩))] :: F) ∧ Same w w1__) ?_ ?_
 ·rintro _ w98_ ⟨b49_, h, rfl, H99_, S100_⟩
  refine A_ready (i := 10) (rs := []) (by kernel_rfl) ?_
  refine AllR.cons ?_ AllR.nil
  refine A_op (ls' := #[true, true, true, true, true, true, true, true, true, true, true, true, true, false, false, false, false]) rfl (by kernel_rfl) (T_val (v := (vS none 0 0)) (x_load1 rfl underlying76 rfl ((Holds.rd H99_ 2 rfl) 0 (vS none 0 0) rfl)) ?_)
  refine ⟨⟨Holds.rd H99_ 3 rfl, Holds.rd H99_ 4 rfl, Holds.rd H99_ 5 rfl, Holds.rd H99_ 6 rfl, Holds.rd H99_ 7 rfl, (Holds.ro_at H99_ 1 rfl)⟩, ?_⟩
  exact hJ56 _ _ ⟨b49_, _, congrArg (fun e => mkA 148 e []) (ch (ch (ch (ch (ch (ch (ch rfl rfl) rfl) rfl) rfl) rfl) rfl) rfl), H99_, S100_⟩
 intro hJ58
 have hq101_ := And.intro (Holds.rd H30_ 2 rfl) (And.intro (Holds.rd H30_ 3 rfl) (And.intro (Holds.rd H30_ 4 rfl) (And.intro (Holds.rd H30_ 5 rfl) (And.intro (Holds.rd H30_ 6 rfl) ((Holds.ro_at H30_ 0 rfl))))))
 refine A_tk 0 (v := (vP (some ⟨r.tb, 0, none⟩))) rfl (by kernel_rfl) (fun w hS => x_move rfl) hq101_ ?_
 refine A_tk 1 (v := (vP (some ⟨r.tb, 0, none⟩))) rfl (by kernel_rfl) (fun w hS => by kernel_rfl) hq101_ ?_
 refine A_tk 2 (v := (vP (some ⟨r.tb, 2, none⟩))) rfl (by kernel_rfl) (fun w hS => by kernel_rfl) hq101_ ?_
 refine A_tk 3 (v := (vP (some ⟨a18_, 0, none⟩))) rfl (by kernel_rfl) (fun w hS => x_load1 rfl underlying59 rfl (hS.2.2.2.2.1 2 (vP (some ⟨a18_, 0, none⟩)) rfl)) hq101_ ?_
 refine A_tk 4 (v := (vP (some ⟨r.tb, 0, none⟩))) rfl (by kernel_rfl) (fun w hS => x_move rfl) hq101_ ?_
 refine A_tk 5 (v := (vP (some ⟨r.tb, 0, none⟩))) rfl (by kernel_rfl) (fun w hS => by kernel_rfl) hq101_ ?_
 refine A_tk 6 (v := (vP (some ⟨r.tb, 2, none⟩))) rfl (by kernel_rfl) (fun w hS => by kernel_rfl) hq101_ ?_
 refine A_tk 7 (v := (vP (some ⟨a18_, 0, none⟩))) rfl (by kernel_rfl) (fun w hS => x_load1 rfl underlying59 rfl (hS.2.2.2.2.1 2 (vP (some ⟨a18_, 0, none⟩)) rfl)) hq101_ ?_
 refine A_tk 8 (v := (vP (some ⟨a18_, 0, none⟩))) rfl (by kernel_rfl) (fun w hS => by kernel_rfl) hq101_ ?_
 refine A_tk 9 (v := (vP (some ⟨a18_, 0, none⟩))) rfl (by kernel_rfl) (fun w hS => by kernel_rfl) hq101_ ?_
 refine A_tk 11 (v := (vA #[(vI .i64 e.key), (vI .i64 e.val)])) rfl (by kernel_rfl) (fun w hS => x_loadN (vs := [(vI .i64 e.key), (vI .i64 e.val)]) rfl underlying24 rfl z24 rfl (Rd.cells hS.2.2.2.1 0 rfl)) hq101_ ?_
 refine A_ready (i := 10) (rs := [12]) (by kernel_rfl) ?_
 refine AllR.cons ?_ ?_
 ·skip
  refine A_op (ls' := #[true, true, true, true, true, true, true, true, true, true, true, true, false, false, false, false, false]) rfl (by kernel_rfl) (T_val (v := (vS none 0 0)) (x_load1 rfl underlying76 rfl ((Holds.rd H30_ 1 rfl) 0 (vS none 0 0) rfl)) ?_)
  refine ⟨⟨Holds.rd H30_ 2 rfl, Holds.rd H30_ 3 rfl, Holds.rd H30_ 4 rfl, Holds.rd H30_ 5 rfl, Holds.rd H30_ 6 rfl, (Holds.ro_at H30_ 0 rfl)⟩, ?_⟩
  exact hJ55 _ _ ⟨_, congrArg (fun e => mkA 148 e []) (ch (ch (ch (ch (ch (ch (ch rfl rfl) rfl) rfl) rfl) rfl) rfl) rfl), H30_, (Same.trans S28_ (Same.drew _))⟩
 refine AllR.cons ?_ AllR.nil
 refine A_op (ls' := #[true, true, true, true, true, true, true, true, true, true, false, true, true, false, false, false, false]) rfl (by kernel_rfl) (T_new (obj := .cells #[(vI .i64 e.key), (vI .i64 e.val)] 24) (f := fun b__ => .slice (some ⟨b__, 0, none⟩) 1 1) (A := fun b__ => cl b__ 24 [(vI .i64 e.key), (vI .i64 e.val)]) (by kernel_rfl) (fun l h => h.alloc _ _) H30_ ?_)
 intro b102_ w103_ S105_ H104_
 have S106_ := Same.trans (Same.trans S28_ (Same.drew _)) S105_
 refine ⟨⟨Holds.rd H104_ 3 rfl, Holds.rd H104_ 4 rfl, Holds.rd H104_ 5 rfl, Holds.rd H104_ 6 rfl, Holds.rd H104_ 7 rfl, (Holds.ro_at H104_ 1 rfl)⟩, ?_⟩
 exact hJ58 _ _ ⟨b102_, _, congrArg (fun e => mkA 148 e []) (ch (ch (ch (ch (ch (ch (ch rfl rfl) rfl) rfl) rfl) rfl) rfl) rfl), H104_, S106_⟩
end Go.Proofs.Ytdfjdmmmlidamaa
