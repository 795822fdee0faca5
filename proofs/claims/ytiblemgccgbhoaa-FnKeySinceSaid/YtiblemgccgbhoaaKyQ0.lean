/- A dump is handed out. -/
import Derived.Test.YtiblemgccgbhoaaKyP0
set_option linter.unusedVariables false
set_option linter.unusedSimpArgs false
namespace Go.Proofs.Ytiblemgccgbhoaa
open Go Go.RowKit Gw

set_option maxHeartbeats 400000 in
theorem kRevsOut (R : HP) (v : Value) (K : List RV) (hK : RS R 2 v (List.length K) (K.flatMap RV.cells)) (hl : K.length ≤ 4000000000000) :
    Tri Try.prog 42 #[v] R [] (fun v__ post__ => ∃ (v' : Value), v__ = v' ∧ post__ = [sl 31 2 v' (List.length K) (K.flatMap RV.cells)]) := by
 refine Tri.into (n := 20) (al := [v]) Try.func42 rfl Try.ntmps42 rfl rfl fun w F H => ?_
 refine C_seq (fun K1_ hK1_ => ?_)
 refine C_reg ?_
 refine S_list (T_val (v := (Value.slice none 0 0)) (x_assign rfl) ?_)
 refine wpList_nil ?_
 refine (X_then (hK1_ _ _ ?_))
 clear hK1_
 refine C_seq (fun K2_ hK2_ => ?_)
 refine C_reg ?_
 refine S_list (T_val (v := (Value.slice none 0 0)) (x_assign rfl) ?_)
 refine wpList_nil ?_
 refine (X_then (hK2_ _ _ ?_))
 clear hK2_
 refine C_seq (fun K3_ hK3_ => ?_)
 refine C_seq (fun K4_ hK4_ => ?_)
 refine C_reg ?_
 refine S_list (T_val (v := (Value.int .i64 0)) (x_assign rfl) ?_)
 refine wpList_nil ?_
 refine (X_then (hK4_ _ _ ?_))
 clear hK4_
 refine C_block ?_
 have H5_ : Holds w (sl 31 2 (Value.slice none 0 0) (List.length (List.take 0 K)) ((List.take 0 K).flatMap RV.cells) :: ro R :: F) := Holds.add_nil H 31 2
 refine C_loop (γ := Nat × Value) (fun x__ a__ w1__ => match x__ with | ⟨k, v1⟩ => ∃ h : Env, a__ = mkA 20 (upd (upd (upd (upd h 0 v) 2 (Value.slice none 0 0)) 3 v1) 4 (Value.int .i64 (k : Int))) [] ∧ Holds w1__ (sl 31 2 v1 (List.length (List.take k K)) ((List.take k K).flatMap RV.cells) :: ro R :: F) ∧ Same w w1__ ∧ (k ≤ K.length)) (fun x__ => match x__ with | ⟨k, v1⟩ => K.length - k) (⟨0, (Value.slice none 0 0)⟩) ⟨_, congrArg (fun e => mkA 20 e []) (ch (ch (ch (ch rfl rfl) rfl) (rfl : (Value.slice none 0 0) = ((Value.slice none 0 0)))) (congrArg (Value.int .i64) ((by first | rfl | omega | (simp; done) | (simp; omega)) : 0 = (0 : Int)))), H5_, (Same.refl w), (by first | assumption | omega | exact rfl)⟩ ?_
 rintro ⟨k, v1⟩ _ w6_ ⟨h, rfl, H7_, S8_, hk⟩
 refine C_seq (fun K9_ hK9_ => ?_)
 refine C_seq (fun K10_ hK10_ => ?_)
 refine C_reg ?_
 refine S_list (T_val (v := (Value.int .i64 (k : Int))) (x_move rfl) ?_)
 refine S_list (T_val (v := v) (x_move rfl) ?_)
 refine S_list (T_val (v := (Value.int .i64 ((List.length K) : Int))) (x_lenRS rfl hK Try.underlying80) ?_)
 refine S_list (T_val (v := (Value.bool (decide ((k : Int) < ((List.length K) : Int))))) (x_bin rfl rfl rfl) ?_)
 refine wpList_nil ?_
 refine (X_then (hK10_ _ _ ?_))
 clear hK10_
 refine C_cond (b := decide ((k : Int) < ((List.length K) : Int))) rfl (fun c11_t => ?_) (fun c11_f => ?_)
 ·have c11_tp : (k : Int) < ((List.length K) : Int) := of_decide_eq_true c11_t
  refine C_skip (X_then (hK9_ _ _ ?_))
  clear hK9_
  refine C_seq (fun K12_ hK12_ => ?_)
  refine C_block ?_
  refine C_reg ?_
  refine S_list (T_val (v := v1) (x_move rfl) ?_)
  refine S_list (T_val (v := v) (x_move rfl) ?_)
  refine S_list (T_val (v := (Value.int .i64 (k : Int))) (x_move rfl) ?_)
  obtain ⟨x13_, hx14_, hm15_⟩ := elem_at K k (by omega)
  refine S_list (T_val (v := (Value.pointer (some ⟨(sb v), so v + (k * 2 + 0), none⟩))) (x_idxRS (v := v) rfl hK rfl Try.underlying80 z58 (by omega) (by omega) (by omega : _ = k) rfl) ?_)
  refine S_list (T_val (v := (Value.agg #[(Value.int .i64 x13_.main), (Value.int .i64 x13_.sub)])) (x_loadN (vs := [(Value.int .i64 x13_.main), (Value.int .i64 x13_.sub)]) rfl Try.underlying58 rfl z58 rfl (RC.cells (RS.rc hK) (Holds.ro_at H7_ 1 rfl) (k * 2 + 0) (fm_cells RV.len hx14_ (i := 0) rfl))) ?_)
  refine S_list (T_callW (al := [(Value.agg #[(Value.int .i64 x13_.main), (Value.int .i64 x13_.sub)])]) rfl rfl cb41 (Calls.into (n := 8) (al := [(Value.agg #[(Value.int .i64 x13_.main), (Value.int .i64 x13_.sub)])]) Try.func41 rfl Try.ntmps41 rfl rfl ?_))
  refine C_seq (fun K16_ hK16_ => ?_)
  refine C_reg ?_
  refine S_list (T_box (v := (Value.agg #[(Value.int .i64 x13_.main), (Value.int .i64 x13_.sub)])) rfl H7_ ?_)
  intro b17_ w18_ S20_ H19_
  have S21_ := Same.trans S8_ S20_
  refine S_list (T_alloc z31 H19_ ?_)
  intro b22_ w23_ S25_ H24_
  replace H24_ : Holds w23_ (cl b22_ 31 [(Value.int .i64 0), (Value.int .i64 0)] :: cl b17_ 58 [(Value.int .i64 x13_.main), (Value.int .i64 x13_.sub)] :: sl 31 2 v1 (List.length (List.take k K)) ((List.take k K).flatMap RV.cells) :: ro R :: F) := H24_
  have S26_ := Same.trans S21_ S25_
  refine wpList_nil ?_
  refine (X_then (hK16_ _ _ ?_))
  clear hK16_
  refine C_seq (fun K27_ hK27_ => ?_)
  refine C_reg ?_
  refine S_list (T_val (v := (Value.pointer (some ⟨b17_, 0, none⟩))) (by kernel_rfl) ?_)
  refine S_list (T_val (v := (Value.int .i64 x13_.main)) (x_load1 rfl Try.underlying2 rfl ((Holds.rd H24_ 1 rfl) 0 (Value.int .i64 x13_.main) rfl)) ?_)
  refine S_list (T_val (v := (Value.pointer (some ⟨b17_, 1, none⟩))) (by kernel_rfl) ?_)
  refine S_list (T_val (v := (Value.int .i64 x13_.sub)) (x_load1 rfl Try.underlying2 rfl ((Holds.rd H24_ 1 rfl) 1 (Value.int .i64 x13_.sub) rfl)) ?_)
  refine S_list (T_val (v := (Value.agg #[(Value.int .i64 x13_.main), (Value.int .i64 x13_.sub)])) (by kernel_rfl) ?_)
  refine S_list0 (T_storeN (vs := [(Value.int .i64 x13_.main), (Value.int .i64 x13_.sub)]) rfl rfl z31 rfl (by simp [Value.oneCell']) H24_ 0 rfl (Nat.le_of_ble_eq_true (by rfl)) ?_)
  intro w28_ S30_ H29_
  have S31_ := Same.trans S26_ S30_
  refine wpList_nil ?_
  refine (X_then (hK27_ _ _ ?_))
  clear hK27_
  refine C_ret ?_
  refine R_any (v := (Value.agg #[(Value.int .i64 x13_.main), (Value.int .i64 x13_.sub)])) (run_results1 rfl ⟨_, rfl, load_resN Try.underlying31 rfl z31 rfl (vs := [(Value.int .i64 x13_.main), (Value.int .i64 x13_.sub)]) (Holds.cl_cells H29_ 0 rfl 0 rfl)⟩) ⟨_, rfl, ?_⟩
  refine S_list (T_new (obj := .cells #[(Value.int .i64 x13_.main), (Value.int .i64 x13_.sub)] 31) (f := fun b__ => .slice (some ⟨b__, 0, none⟩) 1 1) (A := fun b__ => cl b__ 31 [(Value.int .i64 x13_.main), (Value.int .i64 x13_.sub)]) (by kernel_rfl) (fun l h => h.alloc _ _) H29_ ?_)
  intro b32_ w33_ S35_ H34_
  have S36_ := Same.trans S31_ S35_
  refine S_list (T_append rfl rfl Try.underlying41 z31 rfl (by decide) H34_ 3 rfl (Holds.cl_src H34_ 0 rfl Try.underlying41 (by simp [Value.oneCell']) rfl) (by rw [List.length_take]; omega) ?_)
  intro v37_ w38_ S40_ H39_
  replace H39_ : Holds w38_ (cl b32_ 31 [(Value.int .i64 x13_.main), (Value.int .i64 x13_.sub)] :: cl b22_ 31 [(Value.int .i64 x13_.main), (Value.int .i64 x13_.sub)] :: cl b17_ 58 [(Value.int .i64 x13_.main), (Value.int .i64 x13_.sub)] :: sl 31 2 v37_ ((List.length (List.take k K)) + 1) (((List.take k K).flatMap RV.cells) ++ [(Value.int .i64 x13_.main), (Value.int .i64 x13_.sub)]) :: ro R :: F) := H39_
  have S41_ := Same.trans S36_ S40_
  refine S_list (T_val (v := v37_) (x_assign rfl) ?_)
  refine wpList_nil ?_
  refine (X_blkN (X_then (hK12_ _ _ ?_)))
  clear hK12_
  refine C_reg ?_
  refine S_list (T_val (v := (Value.int .i64 (k : Int))) (x_move rfl) ?_)
  refine S_list (T_val (v := (Value.int .i64 ((k : Int) + 1))) (x_bin rfl rfl (ib_add (IntWalk.i64_in _ (by omega)))) ?_)
  refine S_list (T_val (v := (Value.int .i64 ((k : Int) + 1))) (x_assign rfl) ?_)
  refine wpList_nil ?_
  refine (X_then ?_)
  have H42_ := Holds.resl H39_ 3 rfl ((by rw [List.take_add_one, hx14_]; simp [RV.cells]) : ((List.take k K).flatMap RV.cells) ++ [(Value.int .i64 x13_.main), (Value.int .i64 x13_.sub)] = (List.take (k + 1) K).flatMap RV.cells) ((by rw [List.take_add_one, hx14_]; simp [RV.cells]) : (List.length (List.take k K)) + 1 = (List.length (List.take (k + 1) K)))
  have H43_ : Holds w38_ (sl 31 2 v37_ (List.length (List.take (k + 1) K)) ((List.take (k + 1) K).flatMap RV.cells) :: ro R :: F) := (Holds.pkF H42_ [3, 3] 3 :)
  exact ⟨⟨k + 1, v37_⟩, ⟨_, congrArg (fun e => mkA 20 e []) (ch (ch (ch (ch rfl rfl) rfl) rfl) (congrArg (Value.int .i64) ((by first | rfl | omega | (simp; done) | (simp; omega)) : (k : Int) + 1 = ((k + 1 : Nat) : Int)))), H43_, S41_, (by first | assumption | omega | exact rfl)⟩, by first | omega | (dsimp only; omega) | (simp; omega)⟩
 ·have c11_fp : ¬ ((k : Int) < ((List.length K) : Int)) := of_decide_eq_false c11_f
  refine C_exit (X_thenX (X_thenX (X_blkHit ?_)))
  refine (X_then (hK3_ _ _ ?_))
  clear hK3_
  refine C_seq (fun K44_ hK44_ => ?_)
  refine C_reg ?_
  refine S_list (T_val (v := v1) (x_move rfl) ?_)
  refine S_list (T_val (v := v1) (x_assign rfl) ?_)
  refine wpList_nil ?_
  refine (X_then (hK44_ _ _ ?_))
  clear hK44_
  refine C_ret ?_
  refine R_any (v := v1) (run_results1 rfl rfl) ?_
  have H45_ := Holds.resl H7_ 0 rfl ((by rw [List.take_of_length_le (by omega)]) : (List.take k K).flatMap RV.cells = K.flatMap RV.cells) ((by rw [List.take_of_length_le (by omega)]) : (List.length (List.take k K)) = (List.length K))
  have H46_ : Holds w6_ (ro R :: sl 31 2 v1 (List.length K) (K.flatMap RV.cells) :: F) := (Holds.pkF H45_ [1, 0] 0 :)
  exact ⟨_, _, rfl, ⟨v1, rfl, rfl⟩, S8_, H46_⟩

set_option maxHeartbeats 400000 in
theorem kDumpOut (R : HP) (m n : Int) (v : Value) (N : List GN) (h1 : RS R 4 v (List.length N) (N.flatMap GN.cells)) (hg1 : ∀ x ∈ N, GOk R x) (hb1 : N.length ≤ 100000) (hb2 : ∀ x ∈ N, x.l.length ≤ 100000) :
    TriG Try.prog 48 #[(Value.agg #[(Value.int .i64 m), (Value.int .i64 n), v])] R [] (fun R' v__ post__ => ∃ (v' : Value) (N' : List GN), v__ = (Value.agg #[(Value.int .i64 m), (Value.int .i64 n), v']) ∧ post__ = [] ∧ (N'.map GN.m = N.map GN.m) ∧ (RS R' 4 v' (List.length N') (N'.flatMap GN.cells)) ∧ (∀ x ∈ N', GOk R' x)) := by
 refine TriG.into (n := 37) (al := [(Value.agg #[(Value.int .i64 m), (Value.int .i64 n), v])]) Try.func48 rfl Try.ntmps48 rfl rfl fun w F H => ?_
 refine C_seq (fun K1_ hK1_ => ?_)
 refine C_reg ?_
 refine S_list (T_box (v := (Value.agg #[(Value.int .i64 m), (Value.int .i64 n), v])) rfl H ?_)
 intro b2_ w3_ S5_ H4_
 have S6_ := Same.trans (Same.refl w) S5_
 refine S_list (T_alloc z34 H4_ ?_)
 intro b7_ w8_ S10_ H9_
 replace H9_ : Holds w8_ (cl b7_ 34 [(Value.int .i64 0), (Value.int .i64 0), (Value.slice none 0 0)] :: cl b2_ 61 [(Value.int .i64 m), (Value.int .i64 n), v] :: ro R :: F) := H9_
 have S11_ := Same.trans S6_ S10_
 refine wpList_nil ?_
 refine (X_then (hK1_ _ _ ?_))
 clear hK1_
 refine C_seq (fun K12_ hK12_ => ?_)
 refine C_reg ?_
 refine S_list (T_val (v := (Value.pointer (some ⟨b2_, 0, none⟩))) (by kernel_rfl) ?_)
 refine S_list (T_val (v := (Value.agg #[(Value.int .i64 m), (Value.int .i64 n)])) (x_loadN (vs := [(Value.int .i64 m), (Value.int .i64 n)]) rfl Try.underlying58 rfl z58 rfl (Rd.cells (Holds.rd H9_ 1 rfl) 0 rfl)) ?_)
 refine S_list (T_callW (al := [(Value.agg #[(Value.int .i64 m), (Value.int .i64 n)])]) rfl rfl cb41 (Calls.into (n := 8) (al := [(Value.agg #[(Value.int .i64 m), (Value.int .i64 n)])]) Try.func41 rfl Try.ntmps41 rfl rfl ?_))
 refine C_seq (fun K13_ hK13_ => ?_)
 refine C_reg ?_
 refine S_list (T_box (v := (Value.agg #[(Value.int .i64 m), (Value.int .i64 n)])) rfl H9_ ?_)
 intro b14_ w15_ S17_ H16_
 have S18_ := Same.trans S11_ S17_
 refine S_list (T_alloc z31 H16_ ?_)
 intro b19_ w20_ S22_ H21_
 have S23_ := Same.trans S18_ S22_
 refine wpList_nil ?_
 refine (X_then (hK13_ _ _ ?_))
 clear hK13_
 refine C_seq (fun K24_ hK24_ => ?_)
 refine C_reg ?_
 refine S_list (T_val (v := (Value.pointer (some ⟨b14_, 0, none⟩))) (by kernel_rfl) ?_)
 refine S_list (T_val (v := (Value.int .i64 m)) (x_load1 rfl Try.underlying2 rfl ((Holds.rd H21_ 1 rfl) 0 (Value.int .i64 m) rfl)) ?_)
 refine S_list (T_val (v := (Value.pointer (some ⟨b14_, 1, none⟩))) (by kernel_rfl) ?_)
 refine S_list (T_val (v := (Value.int .i64 n)) (x_load1 rfl Try.underlying2 rfl ((Holds.rd H21_ 1 rfl) 1 (Value.int .i64 n) rfl)) ?_)
 refine S_list (T_val (v := (Value.agg #[(Value.int .i64 m), (Value.int .i64 n)])) (by kernel_rfl) ?_)
 refine S_list0 (T_storeN (vs := [(Value.int .i64 m), (Value.int .i64 n)]) rfl rfl z31 rfl (by simp [Value.oneCell']) H21_ 0 rfl (Nat.le_of_ble_eq_true (by rfl)) ?_)
 intro w25_ S27_ H26_
 replace H26_ : Holds w25_ (cl b19_ 31 [(Value.int .i64 m), (Value.int .i64 n)] :: cl b14_ 58 [(Value.int .i64 m), (Value.int .i64 n)] :: cl b7_ 34 [(Value.int .i64 0), (Value.int .i64 0), (Value.slice none 0 0)] :: cl b2_ 61 [(Value.int .i64 m), (Value.int .i64 n), v] :: ro R :: F) := H26_
 have S28_ := Same.trans S23_ S27_
 refine wpList_nil ?_
 refine (X_then (hK24_ _ _ ?_))
 clear hK24_
 refine C_ret ?_
 refine R_any (v := (Value.agg #[(Value.int .i64 m), (Value.int .i64 n)])) (run_results1 rfl ⟨_, rfl, load_resN Try.underlying31 rfl z31 rfl (vs := [(Value.int .i64 m), (Value.int .i64 n)]) (Holds.cl_cells H26_ 0 rfl 0 rfl)⟩) ⟨_, rfl, ?_⟩
 refine S_list (T_val (v := (Value.agg #[(Value.int .i64 m), (Value.int .i64 n), (Value.slice none 0 0)])) (by kernel_rfl) ?_)
 refine S_list (T_alloc z34 H26_ ?_)
 intro b29_ w30_ S32_ H31_
 have S33_ := Same.trans S28_ S32_
 refine S_list0 (T_storeN (vs := [(Value.int .i64 m), (Value.int .i64 n), (Value.slice none 0 0)]) rfl rfl z34 rfl (by simp [Value.oneCell']) H31_ 0 rfl (Nat.le_of_ble_eq_true (by rfl)) ?_)
 intro w34_ S36_ H35_
 have S37_ := Same.trans S33_ S36_
 refine wpList_nil ?_
 refine (X_then (hK12_ _ _ ?_))
 clear hK12_
 refine C_seq (fun K38_ hK38_ => ?_)
 refine C_seq (fun K39_ hK39_ => ?_)
 refine C_reg ?_
 refine S_list (T_val (v := (Value.int .i64 0)) (x_assign rfl) ?_)
 refine wpList_nil ?_
 refine (X_then (hK39_ _ _ ?_))
 clear hK39_
 refine C_block ?_
 have H40_ : Holds w34_ (sl 68 4 (Value.slice none 0 0) (List.length ([] : List GN)) (([] : List GN).flatMap GN.cells) :: cl b29_ 34 [(Value.int .i64 m), (Value.int .i64 n), (Value.slice none 0 0)] :: cl b19_ 31 [(Value.int .i64 m), (Value.int .i64 n)] :: cl b14_ 58 [(Value.int .i64 m), (Value.int .i64 n)] :: cl b7_ 34 [(Value.int .i64 0), (Value.int .i64 0), (Value.slice none 0 0)] :: cl b2_ 61 [(Value.int .i64 m), (Value.int .i64 n), v] :: ro R :: F) := Holds.add_nil H35_ 68 4
 have H41_ := Holds.recl H40_ 1 rfl ((lcons rfl (lcons rfl (lcons (rfl : (Value.slice none 0 0) = ((Value.slice none 0 0))) rfl))) : [(Value.int .i64 m), (Value.int .i64 n), (Value.slice none 0 0)] = [(Value.int .i64 m), (Value.int .i64 n), ((Value.slice none 0 0))])
 have H42_ : Holds w34_ (sl 68 4 (Value.slice none 0 0) (List.length ([] : List GN)) (([] : List GN).flatMap GN.cells) :: cl b29_ 34 [(Value.int .i64 m), (Value.int .i64 n), ((Value.slice none 0 0))] :: cl b7_ 34 [(Value.int .i64 0), (Value.int .i64 0), (Value.slice none 0 0)] :: cl b2_ 61 [(Value.int .i64 m), (Value.int .i64 n), v] :: ro R :: F) := (Holds.pkF H41_ [0, 0, 2, 2, 2] 2 :)
 refine C_loop (γ := HP × Nat × Value × (List GN)) (fun x__ a__ w1__ => match x__ with | ⟨R1, k, gv, N'⟩ => ∃ h : Env, a__ = mkA 37 (upd (upd (upd (upd h 1 (Value.pointer (some ⟨b2_, 0, none⟩))) 2 (Value.pointer (some ⟨b7_, 0, none⟩))) 3 (Value.pointer (some ⟨b29_, 0, none⟩))) 4 (Value.int .i64 (k : Int))) [] ∧ Holds w1__ (sl 68 4 gv (List.length N') (N'.flatMap GN.cells) :: cl b29_ 34 [(Value.int .i64 m), (Value.int .i64 n), gv] :: cl b7_ 34 [(Value.int .i64 0), (Value.int .i64 0), (Value.slice none 0 0)] :: cl b2_ 61 [(Value.int .i64 m), (Value.int .i64 n), v] :: ro R1 :: F) ∧ Same w w1__ ∧ (Sub R R1) ∧ (k ≤ N.length) ∧ (N'.map GN.m = (N.take k).map GN.m) ∧ (∀ x ∈ N', GOk R1 x)) (fun x__ => match x__ with | ⟨R1, k, gv, N'⟩ => N.length - k) (⟨R, 0, (Value.slice none 0 0), ([] : List GN)⟩) ⟨_, congrArg (fun e => mkA 37 e []) (ch (ch (ch (ch rfl rfl) rfl) rfl) (congrArg (Value.int .i64) ((by first | rfl | omega | (simp; done) | (simp; omega)) : 0 = (0 : Int)))), H42_, S37_, (Sub.rfl' _), (by first | assumption | omega | exact rfl), (rfl), (fun x hx => by cases hx)⟩ ?_
 rintro ⟨R1, k, gv, N'⟩ _ w43_ ⟨h, rfl, H44_, S45_, hsR1, hk, hm, hN⟩
 refine C_seq (fun K46_ hK46_ => ?_)
 refine C_seq (fun K47_ hK47_ => ?_)
 refine C_reg ?_
 refine S_list (T_val (v := (Value.int .i64 (k : Int))) (x_move rfl) ?_)
 refine S_list (T_val (v := (Value.pointer (some ⟨b2_, 2, none⟩))) (by kernel_rfl) ?_)
 refine S_list (T_val (v := v) (x_load1 rfl Try.underlying59 rfl ((Holds.rd H44_ 3 rfl) 2 v rfl)) ?_)
 refine S_list (T_val (v := (Value.int .i64 ((List.length N) : Int))) (x_lenRS rfl (RS.mono h1 hsR1) Try.underlying59) ?_)
 refine S_list (T_val (v := (Value.bool (decide ((k : Int) < ((List.length N) : Int))))) (x_bin rfl rfl rfl) ?_)
 refine wpList_nil ?_
 refine (X_then (hK47_ _ _ ?_))
 clear hK47_
 refine C_cond (b := decide ((k : Int) < ((List.length N) : Int))) rfl (fun c48_t => ?_) (fun c48_f => ?_)
 ·have c48_tp : (k : Int) < ((List.length N) : Int) := of_decide_eq_true c48_t
  refine C_skip (X_then (hK46_ _ _ ?_))
  clear hK46_
  refine C_seq (fun K49_ hK49_ => ?_)
  refine C_block ?_
  refine C_seq (fun K50_ hK50_ => ?_)
  refine C_reg ?_
  refine S_list (T_val (v := (Value.pointer (some ⟨b2_, 2, none⟩))) (by kernel_rfl) ?_)
  refine S_list (T_val (v := v) (x_load1 rfl Try.underlying59 rfl ((Holds.rd H44_ 3 rfl) 2 v rfl)) ?_)
  refine S_list (T_val (v := (Value.int .i64 (k : Int))) (x_move rfl) ?_)
  obtain ⟨x51_, hx52_, hm53_⟩ := elem_at N k (by omega)
  have hp54_ := hg1 x51_ hm53_
  have hp55_ := hb2 x51_ hm53_
  have hg56_ := hg1 x51_ hm53_
  refine S_list (T_val (v := (Value.pointer (some ⟨(sb v), so v + (k * 4 + 0), none⟩))) (x_idxRS (v := v) rfl (RS.mono h1 hsR1) rfl Try.underlying59 z83 (by omega) (by omega) (by omega : _ = k) rfl) ?_)
  refine S_list (T_val (v := (Value.agg #[(Value.int .i64 x51_.ver), (Value.int .i64 x51_.created_Main), (Value.int .i64 x51_.created_Sub), x51_.revs])) (x_loadN (vs := [(Value.int .i64 x51_.ver), (Value.int .i64 x51_.created_Main), (Value.int .i64 x51_.created_Sub), x51_.revs]) rfl Try.underlying83 rfl z83 rfl (RC.cells (RS.rc (RS.mono h1 hsR1)) (Holds.ro_at H44_ 4 rfl) (k * 4 + 0) (fm_cells GN.len hx52_ (i := 0) rfl))) ?_)
  refine S_list (T_alloc z83 H44_ ?_)
  intro b57_ w58_ S60_ H59_
  have S61_ := Same.trans S45_ S60_
  refine S_list0 (T_storeN (vs := [(Value.int .i64 x51_.ver), (Value.int .i64 x51_.created_Main), (Value.int .i64 x51_.created_Sub), x51_.revs]) rfl rfl z83 rfl (List.forall_mem_cons.2 ⟨rfl, (List.forall_mem_cons.2 ⟨rfl, (List.forall_mem_cons.2 ⟨rfl, (List.forall_mem_cons.2 ⟨(RS.one (RS.mono hg56_ hsR1)), (fun _ h__ => by cases h__)⟩)⟩)⟩)⟩) H59_ 0 rfl (Nat.le_of_ble_eq_true (by rfl)) ?_)
  intro w62_ S64_ H63_
  have S65_ := Same.trans S61_ S64_
  refine wpList_nil ?_
  refine (X_then (hK50_ _ _ ?_))
  clear hK50_
  refine A_start (S := fun w => Rd b57_ [(Value.int .i64 x51_.ver), (Value.int .i64 x51_.created_Main), (Value.int .i64 x51_.created_Sub), x51_.revs] w ∧ Sub R1 (hp w)) (N := 15) foll rfl rfl ?_
  have H66_ := Holds.drew_ H63_
  have hq67_ := And.intro (Holds.rd H66_ 0 rfl) ((Holds.ro_at H66_ 5 rfl))
  refine A_tk 0 (v := (Value.pointer (some ⟨b29_, 2, none⟩))) rfl (by kernel_rfl) (fun w hS => by kernel_rfl) hq67_ ?_
  refine A_tk 2 (v := (Value.pointer (some ⟨b57_, 0, none⟩))) rfl (by kernel_rfl) (fun w hS => by kernel_rfl) hq67_ ?_
  refine A_tk 3 (v := (Value.int .i64 x51_.ver)) rfl (by kernel_rfl) (fun w hS => x_load1 rfl Try.underlying2 rfl (hS.1 0 (Value.int .i64 x51_.ver) rfl)) hq67_ ?_
  refine A_tk 4 (v := (Value.pointer (some ⟨b57_, 1, none⟩))) rfl (by kernel_rfl) (fun w hS => by kernel_rfl) hq67_ ?_
  refine A_tk 5 (v := (Value.agg #[(Value.int .i64 x51_.created_Main), (Value.int .i64 x51_.created_Sub)])) rfl (by kernel_rfl) (fun w hS => x_loadN (vs := [(Value.int .i64 x51_.created_Main), (Value.int .i64 x51_.created_Sub)]) rfl Try.underlying58 rfl z58 rfl (Rd.cells hS.1 1 rfl)) hq67_ ?_
  refine A_tk 7 (v := (Value.pointer (some ⟨b57_, 3, none⟩))) rfl (by kernel_rfl) (fun w hS => by kernel_rfl) hq67_ ?_
  refine A_tk 8 (v := x51_.revs) rfl (by kernel_rfl) (fun w hS => x_load1 rfl Try.underlying80 rfl (hS.1 3 x51_.revs rfl)) hq67_ ?_
  refine A_ready (i := 1) (rs := [6]) (by kernel_rfl) ?_
  refine AllR.cons ?_ ?_
  ·skip
   refine A_op (ls' := #[true, true, true, true, true, true, false, true, true, false, false, false, false, false, false]) rfl (by kernel_rfl) (T_val (v := gv) (x_load1 rfl Try.underlying32 rfl ((Holds.rd H66_ 2 rfl) 2 gv rfl)) ?_)
   refine ⟨⟨Holds.rd H66_ 0 rfl, (Holds.ro_at H66_ 5 rfl)⟩, ?_⟩
   refine A_ready (i := 6) (rs := []) (by kernel_rfl) ?_
   refine AllR.cons ?_ AllR.nil
   refine A_op (ls' := #[true, true, true, true, true, true, true, true, true, false, false, false, false, false, false]) rfl (by kernel_rfl) (T_callW (al := [(Value.agg #[(Value.int .i64 x51_.created_Main), (Value.int .i64 x51_.created_Sub)])]) rfl rfl cb41 (Calls.into (n := 8) (al := [(Value.agg #[(Value.int .i64 x51_.created_Main), (Value.int .i64 x51_.created_Sub)])]) Try.func41 rfl Try.ntmps41 rfl rfl ?_))
   refine C_seq (fun K68_ hK68_ => ?_)
   refine C_reg ?_
   refine S_list (T_box (v := (Value.agg #[(Value.int .i64 x51_.created_Main), (Value.int .i64 x51_.created_Sub)])) rfl H66_ ?_)
   intro b69_ w70_ S72_ H71_
   have S73_ := Same.trans (Same.trans S65_ (Same.drew _)) S72_
   refine S_list (T_alloc z31 H71_ ?_)
   intro b74_ w75_ S77_ H76_
   have S78_ := Same.trans S73_ S77_
   refine wpList_nil ?_
   refine (X_then (hK68_ _ _ ?_))
   clear hK68_
   refine C_seq (fun K79_ hK79_ => ?_)
   refine C_reg ?_
   refine S_list (T_val (v := (Value.pointer (some ⟨b69_, 0, none⟩))) (by kernel_rfl) ?_)
   refine S_list (T_val (v := (Value.int .i64 x51_.created_Main)) (x_load1 rfl Try.underlying2 rfl ((Holds.rd H76_ 1 rfl) 0 (Value.int .i64 x51_.created_Main) rfl)) ?_)
   refine S_list (T_val (v := (Value.pointer (some ⟨b69_, 1, none⟩))) (by kernel_rfl) ?_)
   refine S_list (T_val (v := (Value.int .i64 x51_.created_Sub)) (x_load1 rfl Try.underlying2 rfl ((Holds.rd H76_ 1 rfl) 1 (Value.int .i64 x51_.created_Sub) rfl)) ?_)
   refine S_list (T_val (v := (Value.agg #[(Value.int .i64 x51_.created_Main), (Value.int .i64 x51_.created_Sub)])) (by kernel_rfl) ?_)
   refine S_list0 (T_storeN (vs := [(Value.int .i64 x51_.created_Main), (Value.int .i64 x51_.created_Sub)]) rfl rfl z31 rfl (by simp [Value.oneCell']) H76_ 0 rfl (Nat.le_of_ble_eq_true (by rfl)) ?_)
   intro w80_ S82_ H81_
   replace H81_ : Holds w80_ (cl b74_ 31 [(Value.int .i64 x51_.created_Main), (Value.int .i64 x51_.created_Sub)] :: cl b69_ 58 [(Value.int .i64 x51_.created_Main), (Value.int .i64 x51_.created_Sub)] :: cl b57_ 83 [(Value.int .i64 x51_.ver), (Value.int .i64 x51_.created_Main), (Value.int .i64 x51_.created_Sub), x51_.revs] :: sl 68 4 gv (List.length N') (N'.flatMap GN.cells) :: cl b29_ 34 [(Value.int .i64 m), (Value.int .i64 n), gv] :: cl b7_ 34 [(Value.int .i64 0), (Value.int .i64 0), (Value.slice none 0 0)] :: cl b2_ 61 [(Value.int .i64 m), (Value.int .i64 n), v] :: ro R1 :: F) := H81_
   have S83_ := Same.trans S78_ S82_
   refine wpList_nil ?_
   refine (X_then (hK79_ _ _ ?_))
   clear hK79_
   refine C_ret ?_
   refine R_any (v := (Value.agg #[(Value.int .i64 x51_.created_Main), (Value.int .i64 x51_.created_Sub)])) (run_results1 rfl ⟨_, rfl, load_resN Try.underlying31 rfl z31 rfl (vs := [(Value.int .i64 x51_.created_Main), (Value.int .i64 x51_.created_Sub)]) (Holds.cl_cells H81_ 0 rfl 0 rfl)⟩) ⟨_, rfl, ?_⟩
   refine ⟨⟨Holds.rd H81_ 2 rfl, (Holds.ro_at H81_ 7 rfl)⟩, ?_⟩
   refine A_ready (i := 9) (rs := []) (by kernel_rfl) ?_
   refine AllR.cons ?_ AllR.nil
   have H85_ := ((Holds.bring H81_ 7 rfl) :)
   refine A_op (ls' := #[true, true, true, true, true, true, true, true, true, true, false, false, false, false, false]) rfl (by kernel_rfl) (T_call (al := [x51_.revs]) (pre := []) rfl rfl cb42 (kRevsOut R1 x51_.revs x51_.l (RS.mono hg56_ hsR1) (by first | assumption | omega)) H85_ ?_)
   rintro v84_ p89_ w86_ ⟨_, rfl, rfl⟩ S88_ H87_
   have S90_ := Same.trans S83_ S88_
   obtain ⟨-, a91_, cp92_, rfl, hle93_⟩ := Holds.sl_len H87_ 1 rfl
   refine ⟨⟨Holds.rd H87_ 4 rfl, (Holds.ro_at H87_ 0 rfl)⟩, ?_⟩
   have hq94_ := And.intro (Holds.rd H87_ 4 rfl) ((Holds.ro_at H87_ 0 rfl))
   refine A_tk 10 (v := (Value.agg #[(Value.int .i64 x51_.ver), (Value.int .i64 x51_.created_Main), (Value.int .i64 x51_.created_Sub), (Value.slice a91_ (List.length x51_.l) cp92_)])) rfl (by kernel_rfl) (fun w hS => by kernel_rfl) hq94_ ?_
   refine A_ready (i := 11) (rs := []) (by kernel_rfl) ?_
   refine AllR.cons ?_ AllR.nil
   refine A_op (ls' := #[true, true, true, true, true, true, true, true, true, true, true, true, false, false, false]) rfl (by kernel_rfl) (T_new (obj := .cells #[(Value.int .i64 x51_.ver), (Value.int .i64 x51_.created_Main), (Value.int .i64 x51_.created_Sub), (Value.slice a91_ (List.length x51_.l) cp92_)] 68) (f := fun b__ => .slice (some ⟨b__, 0, none⟩) 1 1) (A := fun b__ => cl b__ 68 [(Value.int .i64 x51_.ver), (Value.int .i64 x51_.created_Main), (Value.int .i64 x51_.created_Sub), (Value.slice a91_ (List.length x51_.l) cp92_)]) (by kernel_rfl) (fun l h => h.alloc _ _) H87_ ?_)
   intro b95_ w96_ S98_ H97_
   replace H97_ : Holds w96_ (cl b95_ 68 [(Value.int .i64 x51_.ver), (Value.int .i64 x51_.created_Main), (Value.int .i64 x51_.created_Sub), (Value.slice a91_ (List.length x51_.l) cp92_)] :: ro R1 :: sl 31 2 (Value.slice a91_ (List.length x51_.l) cp92_) (List.length x51_.l) (x51_.l.flatMap RV.cells) :: cl b74_ 31 [(Value.int .i64 x51_.created_Main), (Value.int .i64 x51_.created_Sub)] :: cl b69_ 58 [(Value.int .i64 x51_.created_Main), (Value.int .i64 x51_.created_Sub)] :: cl b57_ 83 [(Value.int .i64 x51_.ver), (Value.int .i64 x51_.created_Main), (Value.int .i64 x51_.created_Sub), x51_.revs] :: sl 68 4 gv (List.length N') (N'.flatMap GN.cells) :: cl b29_ 34 [(Value.int .i64 m), (Value.int .i64 n), gv] :: cl b7_ 34 [(Value.int .i64 0), (Value.int .i64 0), (Value.slice none 0 0)] :: cl b2_ 61 [(Value.int .i64 m), (Value.int .i64 n), v] :: F) := H97_
   have S99_ := Same.trans S90_ S98_
   refine ⟨⟨Holds.rd H97_ 5 rfl, (Holds.ro_at H97_ 1 rfl)⟩, ?_⟩
   refine A_ready (i := 12) (rs := []) (by kernel_rfl) ?_
   refine AllR.cons ?_ AllR.nil
   refine A_op (ls' := #[true, true, true, true, true, true, true, true, true, true, true, true, true, false, false]) rfl (by kernel_rfl) (T_append rfl rfl Try.underlying32 z68 rfl (by decide) H97_ 6 rfl (Holds.cl_src H97_ 0 rfl Try.underlying32 (by simp [Value.oneCell']) rfl) (by have hz_ := congrArg List.length hm; rw [List.length_map, List.length_map, List.length_take] at hz_; omega) ?_)
   intro v100_ w101_ S103_ H102_
   have S104_ := Same.trans S99_ S103_
   refine ⟨⟨Holds.rd H102_ 5 rfl, (Holds.ro_at H102_ 1 rfl)⟩, ?_⟩
   have hq105_ := And.intro (Holds.rd H102_ 5 rfl) ((Holds.ro_at H102_ 1 rfl))
   refine A_tk 13 (v := (Value.pointer (some ⟨b29_, 2, none⟩))) rfl (by kernel_rfl) (fun w hS => by kernel_rfl) hq105_ ?_
   refine A_ready (i := 14) (rs := []) (by kernel_rfl) ?_
   refine AllR.cons ?_ AllR.nil
   refine A_op0 (ls' := #[true, true, true, true, true, true, true, true, true, true, true, true, true, true, true]) rfl (by kernel_rfl) (T_store1 (v := v100_) rfl rfl z32 (Holds.sl_one H102_ 6 rfl) H102_ 7 rfl (Nat.le_of_ble_eq_true (by rfl)) ?_)
   intro w106_ S108_ H107_
   have S109_ := Same.trans S104_ S108_
   refine ⟨⟨Holds.rd H107_ 5 rfl, (Holds.ro_at H107_ 1 rfl)⟩, ?_⟩
   refine A_done (by kernel_rfl) ?_
   refine (X_blkN (X_then (hK49_ _ _ ?_)))
   clear hK49_
   refine C_reg ?_
   refine S_list (T_val (v := (Value.int .i64 (k : Int))) (x_move rfl) ?_)
   refine S_list (T_val (v := (Value.int .i64 ((k : Int) + 1))) (x_bin rfl rfl (ib_add (IntWalk.i64_in _ (by omega)))) ?_)
   refine S_list (T_val (v := (Value.int .i64 ((k : Int) + 1))) (x_assign rfl) ?_)
   refine wpList_nil ?_
   refine (X_then ?_)
   have H110_ := ((Holds.bring (Holds.bring H107_ 2 rfl) 2 rfl) :)
   replace H110_ : Holds w106_ (ro R1 :: sl 31 2 (Value.slice a91_ (List.length x51_.l) cp92_) (List.length x51_.l) (x51_.l.flatMap RV.cells) :: cl b95_ 68 [(Value.int .i64 x51_.ver), (Value.int .i64 x51_.created_Main), (Value.int .i64 x51_.created_Sub), (Value.slice a91_ (List.length x51_.l) cp92_)] :: cl b74_ 31 [(Value.int .i64 x51_.created_Main), (Value.int .i64 x51_.created_Sub)] :: cl b69_ 58 [(Value.int .i64 x51_.created_Main), (Value.int .i64 x51_.created_Sub)] :: cl b57_ 83 [(Value.int .i64 x51_.ver), (Value.int .i64 x51_.created_Main), (Value.int .i64 x51_.created_Sub), x51_.revs] :: sl 68 4 v100_ ((List.length N') + 1) ((N'.flatMap GN.cells) ++ [(Value.int .i64 x51_.ver), (Value.int .i64 x51_.created_Main), (Value.int .i64 x51_.created_Sub), (Value.slice a91_ (List.length x51_.l) cp92_)]) :: cl b29_ 34 [(Value.int .i64 m), (Value.int .i64 n), v100_] :: cl b7_ 34 [(Value.int .i64 0), (Value.int .i64 0), (Value.slice none 0 0)] :: cl b2_ 61 [(Value.int .i64 m), (Value.int .i64 n), v] :: F) := H110_
   obtain ⟨R111_, hs112_, ⟨R113_, ha114_, hs115_⟩, H116_⟩ := Holds.gift H110_
   have hz_R_R111_ := Sub.trans' hsR1 hs112_
   have hr117_ : RS R111_ 2 (Value.slice a91_ (List.length x51_.l) cp92_) (List.length x51_.l) (x51_.l.flatMap RV.cells) := (sl_RS ha114_ (Sub.rfl' _)).mono hs115_
   have H118_ := Holds.resl H116_ 5 rfl (by simp [GN.cells] : (N'.flatMap GN.cells) ++ [(Value.int .i64 x51_.ver), (Value.int .i64 x51_.created_Main), (Value.int .i64 x51_.created_Sub), (Value.slice a91_ (List.length x51_.l) cp92_)] = (N' ++ [(⟨x51_.ver, x51_.created_Main, x51_.created_Sub, (Value.slice a91_ (List.length x51_.l) cp92_), x51_.l⟩ : GN)]).flatMap GN.cells) (by simp : (List.length N') + 1 = (List.length (N' ++ [(⟨x51_.ver, x51_.created_Main, x51_.created_Sub, (Value.slice a91_ (List.length x51_.l) cp92_), x51_.l⟩ : GN)])))
   have H119_ : Holds w106_ (sl 68 4 v100_ (List.length (N' ++ [(⟨x51_.ver, x51_.created_Main, x51_.created_Sub, (Value.slice a91_ (List.length x51_.l) cp92_), x51_.l⟩ : GN)])) ((N' ++ [(⟨x51_.ver, x51_.created_Main, x51_.created_Sub, (Value.slice a91_ (List.length x51_.l) cp92_), x51_.l⟩ : GN)]).flatMap GN.cells) :: cl b29_ 34 [(Value.int .i64 m), (Value.int .i64 n), v100_] :: cl b7_ 34 [(Value.int .i64 0), (Value.int .i64 0), (Value.slice none 0 0)] :: cl b2_ 61 [(Value.int .i64 m), (Value.int .i64 n), v] :: ro R111_ :: F) := (Holds.pkF H118_ [5, 5, 5, 5, 0] 4 :)
   exact ⟨⟨R111_, k + 1, v100_, (N' ++ [(⟨x51_.ver, x51_.created_Main, x51_.created_Sub, (Value.slice a91_ (List.length x51_.l) cp92_), x51_.l⟩ : GN)])⟩, ⟨_, congrArg (fun e => mkA 37 e []) (ch (ch (ch (ch rfl rfl) rfl) rfl) (congrArg (Value.int .i64) ((by first | rfl | omega | (simp; done) | (simp; omega)) : (k : Int) + 1 = ((k + 1 : Nat) : Int)))), H119_, S109_, (hz_R_R111_), (by first | assumption | omega | exact rfl), (map_m_snoc hm hx52_ rfl), (all_snoc (fun x hx => (hN x hx).mono hs112_) (show RS _ 2 _ _ _ from hr117_))⟩, by first | omega | (dsimp only; omega) | (simp; omega)⟩
  refine AllR.cons ?_ AllR.nil
  refine A_op (ls' := #[true, false, true, true, true, true, true, true, true, false, false, false, false, false, false]) rfl (by kernel_rfl) (T_callW (al := [(Value.agg #[(Value.int .i64 x51_.created_Main), (Value.int .i64 x51_.created_Sub)])]) rfl rfl cb41 (Calls.into (n := 8) (al := [(Value.agg #[(Value.int .i64 x51_.created_Main), (Value.int .i64 x51_.created_Sub)])]) Try.func41 rfl Try.ntmps41 rfl rfl ?_))
  refine C_seq (fun K120_ hK120_ => ?_)
  refine C_reg ?_
  refine S_list (T_box (v := (Value.agg #[(Value.int .i64 x51_.created_Main), (Value.int .i64 x51_.created_Sub)])) rfl H66_ ?_)
  intro b121_ w122_ S124_ H123_
  have S125_ := Same.trans (Same.trans S65_ (Same.drew _)) S124_
  refine S_list (T_alloc z31 H123_ ?_)
  intro b126_ w127_ S129_ H128_
  have S130_ := Same.trans S125_ S129_
  refine wpList_nil ?_
  refine (X_then (hK120_ _ _ ?_))
  clear hK120_
  refine C_seq (fun K131_ hK131_ => ?_)
  refine C_reg ?_
  refine S_list (T_val (v := (Value.pointer (some ⟨b121_, 0, none⟩))) (by kernel_rfl) ?_)
  refine S_list (T_val (v := (Value.int .i64 x51_.created_Main)) (x_load1 rfl Try.underlying2 rfl ((Holds.rd H128_ 1 rfl) 0 (Value.int .i64 x51_.created_Main) rfl)) ?_)
  refine S_list (T_val (v := (Value.pointer (some ⟨b121_, 1, none⟩))) (by kernel_rfl) ?_)
  refine S_list (T_val (v := (Value.int .i64 x51_.created_Sub)) (x_load1 rfl Try.underlying2 rfl ((Holds.rd H128_ 1 rfl) 1 (Value.int .i64 x51_.created_Sub) rfl)) ?_)
  refine S_list (T_val (v := (Value.agg #[(Value.int .i64 x51_.created_Main), (Value.int .i64 x51_.created_Sub)])) (by kernel_rfl) ?_)
  refine S_list0 (T_storeN (vs := [(Value.int .i64 x51_.created_Main), (Value.int .i64 x51_.created_Sub)]) rfl rfl z31 rfl (by simp [Value.oneCell']) H128_ 0 rfl (Nat.le_of_ble_eq_true (by rfl)) ?_)
  intro w132_ S134_ H133_
  replace H133_ : Holds w132_ (cl b126_ 31 [(Value.int .i64 x51_.created_Main), (Value.int .i64 x51_.created_Sub)] :: cl b121_ 58 [(Value.int .i64 x51_.created_Main), (Value.int .i64 x51_.created_Sub)] :: cl b57_ 83 [(Value.int .i64 x51_.ver), (Value.int .i64 x51_.created_Main), (Value.int .i64 x51_.created_Sub), x51_.revs] :: sl 68 4 gv (List.length N') (N'.flatMap GN.cells) :: cl b29_ 34 [(Value.int .i64 m), (Value.int .i64 n), gv] :: cl b7_ 34 [(Value.int .i64 0), (Value.int .i64 0), (Value.slice none 0 0)] :: cl b2_ 61 [(Value.int .i64 m), (Value.int .i64 n), v] :: ro R1 :: F) := H133_
  have S135_ := Same.trans S130_ S134_
  refine wpList_nil ?_
  refine (X_then (hK131_ _ _ ?_))
  clear hK131_
  refine C_ret ?_
  refine R_any (v := (Value.agg #[(Value.int .i64 x51_.created_Main), (Value.int .i64 x51_.created_Sub)])) (run_results1 rfl ⟨_, rfl, load_resN Try.underlying31 rfl z31 rfl (vs := [(Value.int .i64 x51_.created_Main), (Value.int .i64 x51_.created_Sub)]) (Holds.cl_cells H133_ 0 rfl 0 rfl)⟩) ⟨_, rfl, ?_⟩
  refine ⟨⟨Holds.rd H133_ 2 rfl, (Holds.ro_at H133_ 7 rfl)⟩, ?_⟩
  refine A_ready (i := 1) (rs := [9]) (by kernel_rfl) ?_
  refine AllR.cons ?_ ?_
  ·skip
   refine A_op (ls' := #[true, true, true, true, true, true, true, true, true, false, false, false, false, false, false]) rfl (by kernel_rfl) (T_val (v := gv) (x_load1 rfl Try.underlying32 rfl ((Holds.rd H133_ 4 rfl) 2 gv rfl)) ?_)
   refine ⟨⟨Holds.rd H133_ 2 rfl, (Holds.ro_at H133_ 7 rfl)⟩, ?_⟩
   refine A_ready (i := 9) (rs := []) (by kernel_rfl) ?_
   refine AllR.cons ?_ AllR.nil
   have H137_ := ((Holds.bring H133_ 7 rfl) :)
   refine A_op (ls' := #[true, true, true, true, true, true, true, true, true, true, false, false, false, false, false]) rfl (by kernel_rfl) (T_call (al := [x51_.revs]) (pre := []) rfl rfl cb42 (kRevsOut R1 x51_.revs x51_.l (RS.mono hg56_ hsR1) (by first | assumption | omega)) H137_ ?_)
   rintro v136_ p141_ w138_ ⟨_, rfl, rfl⟩ S140_ H139_
   have S142_ := Same.trans S135_ S140_
   obtain ⟨-, a143_, cp144_, rfl, hle145_⟩ := Holds.sl_len H139_ 1 rfl
   refine ⟨⟨Holds.rd H139_ 4 rfl, (Holds.ro_at H139_ 0 rfl)⟩, ?_⟩
   have hq146_ := And.intro (Holds.rd H139_ 4 rfl) ((Holds.ro_at H139_ 0 rfl))
   refine A_tk 10 (v := (Value.agg #[(Value.int .i64 x51_.ver), (Value.int .i64 x51_.created_Main), (Value.int .i64 x51_.created_Sub), (Value.slice a143_ (List.length x51_.l) cp144_)])) rfl (by kernel_rfl) (fun w hS => by kernel_rfl) hq146_ ?_
   refine A_ready (i := 11) (rs := []) (by kernel_rfl) ?_
   refine AllR.cons ?_ AllR.nil
   refine A_op (ls' := #[true, true, true, true, true, true, true, true, true, true, true, true, false, false, false]) rfl (by kernel_rfl) (T_new (obj := .cells #[(Value.int .i64 x51_.ver), (Value.int .i64 x51_.created_Main), (Value.int .i64 x51_.created_Sub), (Value.slice a143_ (List.length x51_.l) cp144_)] 68) (f := fun b__ => .slice (some ⟨b__, 0, none⟩) 1 1) (A := fun b__ => cl b__ 68 [(Value.int .i64 x51_.ver), (Value.int .i64 x51_.created_Main), (Value.int .i64 x51_.created_Sub), (Value.slice a143_ (List.length x51_.l) cp144_)]) (by kernel_rfl) (fun l h => h.alloc _ _) H139_ ?_)
   intro b147_ w148_ S150_ H149_
   replace H149_ : Holds w148_ (cl b147_ 68 [(Value.int .i64 x51_.ver), (Value.int .i64 x51_.created_Main), (Value.int .i64 x51_.created_Sub), (Value.slice a143_ (List.length x51_.l) cp144_)] :: ro R1 :: sl 31 2 (Value.slice a143_ (List.length x51_.l) cp144_) (List.length x51_.l) (x51_.l.flatMap RV.cells) :: cl b126_ 31 [(Value.int .i64 x51_.created_Main), (Value.int .i64 x51_.created_Sub)] :: cl b121_ 58 [(Value.int .i64 x51_.created_Main), (Value.int .i64 x51_.created_Sub)] :: cl b57_ 83 [(Value.int .i64 x51_.ver), (Value.int .i64 x51_.created_Main), (Value.int .i64 x51_.created_Sub), x51_.revs] :: sl 68 4 gv (List.length N') (N'.flatMap GN.cells) :: cl b29_ 34 [(Value.int .i64 m), (Value.int .i64 n), gv] :: cl b7_ 34 [(Value.int .i64 0), (Value.int .i64 0), (Value.slice none 0 0)] :: cl b2_ 61 [(Value.int .i64 m), (Value.int .i64 n), v] :: F) := H149_
   have S151_ := Same.trans S142_ S150_
   refine ⟨⟨Holds.rd H149_ 5 rfl, (Holds.ro_at H149_ 1 rfl)⟩, ?_⟩
   refine A_ready (i := 12) (rs := []) (by kernel_rfl) ?_
   refine AllR.cons ?_ AllR.nil
   refine A_op (ls' := #[true, true, true, true, true, true, true, true, true, true, true, true, true, false, false]) rfl (by kernel_rfl) (T_append rfl rfl Try.underlying32 z68 rfl (by decide) H149_ 6 rfl (Holds.cl_src H149_ 0 rfl Try.underlying32 (by simp [Value.oneCell']) rfl) (by have hz_ := congrArg List.length hm; rw [List.length_map, List.length_map, List.length_take] at hz_; omega) ?_)
   intro v152_ w153_ S155_ H154_
   have S156_ := Same.trans S151_ S155_
   refine ⟨⟨Holds.rd H154_ 5 rfl, (Holds.ro_at H154_ 1 rfl)⟩, ?_⟩
   have hq157_ := And.intro (Holds.rd H154_ 5 rfl) ((Holds.ro_at H154_ 1 rfl))
   refine A_tk 13 (v := (Value.pointer (some ⟨b29_, 2, none⟩))) rfl (by kernel_rfl) (fun w hS => by kernel_rfl) hq157_ ?_
   refine A_ready (i := 14) (rs := []) (by kernel_rfl) ?_
   refine AllR.cons ?_ AllR.nil
   refine A_op0 (ls' := #[true, true, true, true, true, true, true, true, true, true, true, true, true, true, true]) rfl (by kernel_rfl) (T_store1 (v := v152_) rfl rfl z32 (Holds.sl_one H154_ 6 rfl) H154_ 7 rfl (Nat.le_of_ble_eq_true (by rfl)) ?_)
   intro w158_ S160_ H159_
   have S161_ := Same.trans S156_ S160_
   refine ⟨⟨Holds.rd H159_ 5 rfl, (Holds.ro_at H159_ 1 rfl)⟩, ?_⟩
   refine A_done (by kernel_rfl) ?_
   refine (X_blkN (X_then (hK49_ _ _ ?_)))
   clear hK49_
   refine C_reg ?_
   refine S_list (T_val (v := (Value.int .i64 (k : Int))) (x_move rfl) ?_)
   refine S_list (T_val (v := (Value.int .i64 ((k : Int) + 1))) (x_bin rfl rfl (ib_add (IntWalk.i64_in _ (by omega)))) ?_)
   refine S_list (T_val (v := (Value.int .i64 ((k : Int) + 1))) (x_assign rfl) ?_)
   refine wpList_nil ?_
   refine (X_then ?_)
   have H162_ := ((Holds.bring (Holds.bring H159_ 2 rfl) 2 rfl) :)
   replace H162_ : Holds w158_ (ro R1 :: sl 31 2 (Value.slice a143_ (List.length x51_.l) cp144_) (List.length x51_.l) (x51_.l.flatMap RV.cells) :: cl b147_ 68 [(Value.int .i64 x51_.ver), (Value.int .i64 x51_.created_Main), (Value.int .i64 x51_.created_Sub), (Value.slice a143_ (List.length x51_.l) cp144_)] :: cl b126_ 31 [(Value.int .i64 x51_.created_Main), (Value.int .i64 x51_.created_Sub)] :: cl b121_ 58 [(Value.int .i64 x51_.created_Main), (Value.int .i64 x51_.created_Sub)] :: cl b57_ 83 [(Value.int .i64 x51_.ver), (Value.int .i64 x51_.created_Main), (Value.int .i64 x51_.created_Sub), x51_.revs] :: sl 68 4 v152_ ((List.length N') + 1) ((N'.flatMap GN.cells) ++ [(Value.int .i64 x51_.ver), (Value.int .i64 x51_.created_Main), (Value.int .i64 x51_.created_Sub), (Value.slice a143_ (List.length x51_.l) cp144_)]) :: cl b29_ 34 [(Value.int .i64 m), (Value.int .i64 n), v152_] :: cl b7_ 34 [(Value.int .i64 0), (Value.int .i64 0), (Value.slice none 0 0)] :: cl b2_ 61 [(Value.int .i64 m), (Value.int .i64 n), v] :: F) := H162_
   obtain ⟨R163_, hs164_, ⟨R165_, ha166_, hs167_⟩, H168_⟩ := Holds.gift H162_
   have hz_R_R163_ := Sub.trans' hsR1 hs164_
   have hr169_ : RS R163_ 2 (Value.slice a143_ (List.length x51_.l) cp144_) (List.length x51_.l) (x51_.l.flatMap RV.cells) := (sl_RS ha166_ (Sub.rfl' _)).mono hs167_
   have H170_ := Holds.resl H168_ 5 rfl (by simp [GN.cells] : (N'.flatMap GN.cells) ++ [(Value.int .i64 x51_.ver), (Value.int .i64 x51_.created_Main), (Value.int .i64 x51_.created_Sub), (Value.slice a143_ (List.length x51_.l) cp144_)] = (N' ++ [(⟨x51_.ver, x51_.created_Main, x51_.created_Sub, (Value.slice a143_ (List.length x51_.l) cp144_), x51_.l⟩ : GN)]).flatMap GN.cells) (by simp : (List.length N') + 1 = (List.length (N' ++ [(⟨x51_.ver, x51_.created_Main, x51_.created_Sub, (Value.slice a143_ (List.length x51_.l) cp144_), x51_.l⟩ : GN)])))
   have H171_ : Holds w158_ (sl 68 4 v152_ (List.length (N' ++ [(⟨x51_.ver, x51_.created_Main, x51_.created_Sub, (Value.slice a143_ (List.length x51_.l) cp144_), x51_.l⟩ : GN)])) ((N' ++ [(⟨x51_.ver, x51_.created_Main, x51_.created_Sub, (Value.slice a143_ (List.length x51_.l) cp144_), x51_.l⟩ : GN)]).flatMap GN.cells) :: cl b29_ 34 [(Value.int .i64 m), (Value.int .i64 n), v152_] :: cl b7_ 34 [(Value.int .i64 0), (Value.int .i64 0), (Value.slice none 0 0)] :: cl b2_ 61 [(Value.int .i64 m), (Value.int .i64 n), v] :: ro R163_ :: F) := (Holds.pkF H170_ [5, 5, 5, 5, 0] 4 :)
   exact ⟨⟨R163_, k + 1, v152_, (N' ++ [(⟨x51_.ver, x51_.created_Main, x51_.created_Sub, (Value.slice a143_ (List.length x51_.l) cp144_), x51_.l⟩ : GN)])⟩, ⟨_, congrArg (fun e => mkA 37 e []) (ch (ch (ch (ch rfl rfl) rfl) rfl) (congrArg (Value.int .i64) ((by first | rfl | omega | (simp; done) | (simp; omega)) : (k : Int) + 1 = ((k + 1 : Nat) : Int)))), H171_, S161_, (hz_R_R163_), (by first | assumption | omega | exact rfl), (map_m_snoc hm hx52_ rfl), (all_snoc (fun x hx => (hN x hx).mono hs164_) (show RS _ 2 _ _ _ from hr169_))⟩, by first | omega | (dsimp only; omega) | (simp; omega)⟩
  refine AllR.cons ?_ AllR.nil
  have H173_ := ((Holds.bring H133_ 7 rfl) :)
  refine A_op (ls' := #[true, false, true, true, true, true, true, true, true, true, false, false, false, false, false]) rfl (by kernel_rfl) (T_call (al := [x51_.revs]) (pre := []) rfl rfl cb42 (kRevsOut R1 x51_.revs x51_.l (RS.mono hg56_ hsR1) (by first | assumption | omega)) H173_ ?_)
  rintro v172_ p177_ w174_ ⟨_, rfl, rfl⟩ S176_ H175_
  have S178_ := Same.trans S135_ S176_
  obtain ⟨-, a179_, cp180_, rfl, hle181_⟩ := Holds.sl_len H175_ 1 rfl
  refine ⟨⟨Holds.rd H175_ 4 rfl, (Holds.ro_at H175_ 0 rfl)⟩, ?_⟩
  have hq182_ := And.intro (Holds.rd H175_ 4 rfl) ((Holds.ro_at H175_ 0 rfl))
  refine A_tk 10 (v := (Value.agg #[(Value.int .i64 x51_.ver), (Value.int .i64 x51_.created_Main), (Value.int .i64 x51_.created_Sub), (Value.slice a179_ (List.length x51_.l) cp180_)])) rfl (by kernel_rfl) (fun w hS => by kernel_rfl) hq182_ ?_
  refine A_ready (i := 1) (rs := [11]) (by kernel_rfl) ?_
  refine AllR.cons ?_ ?_
  ·skip
   refine A_op (ls' := #[true, true, true, true, true, true, true, true, true, true, true, false, false, false, false]) rfl (by kernel_rfl) (T_val (v := gv) (x_load1 rfl Try.underlying32 rfl ((Holds.rd H175_ 6 rfl) 2 gv rfl)) ?_)
   refine ⟨⟨Holds.rd H175_ 4 rfl, (Holds.ro_at H175_ 0 rfl)⟩, ?_⟩
   refine A_ready (i := 11) (rs := []) (by kernel_rfl) ?_
   refine AllR.cons ?_ AllR.nil
   refine A_op (ls' := #[true, true, true, true, true, true, true, true, true, true, true, true, false, false, false]) rfl (by kernel_rfl) (T_new (obj := .cells #[(Value.int .i64 x51_.ver), (Value.int .i64 x51_.created_Main), (Value.int .i64 x51_.created_Sub), (Value.slice a179_ (List.length x51_.l) cp180_)] 68) (f := fun b__ => .slice (some ⟨b__, 0, none⟩) 1 1) (A := fun b__ => cl b__ 68 [(Value.int .i64 x51_.ver), (Value.int .i64 x51_.created_Main), (Value.int .i64 x51_.created_Sub), (Value.slice a179_ (List.length x51_.l) cp180_)]) (by kernel_rfl) (fun l h => h.alloc _ _) H175_ ?_)
   intro b183_ w184_ S186_ H185_
   replace H185_ : Holds w184_ (cl b183_ 68 [(Value.int .i64 x51_.ver), (Value.int .i64 x51_.created_Main), (Value.int .i64 x51_.created_Sub), (Value.slice a179_ (List.length x51_.l) cp180_)] :: ro R1 :: sl 31 2 (Value.slice a179_ (List.length x51_.l) cp180_) (List.length x51_.l) (x51_.l.flatMap RV.cells) :: cl b126_ 31 [(Value.int .i64 x51_.created_Main), (Value.int .i64 x51_.created_Sub)] :: cl b121_ 58 [(Value.int .i64 x51_.created_Main), (Value.int .i64 x51_.created_Sub)] :: cl b57_ 83 [(Value.int .i64 x51_.ver), (Value.int .i64 x51_.created_Main), (Value.int .i64 x51_.created_Sub), x51_.revs] :: sl 68 4 gv (List.length N') (N'.flatMap GN.cells) :: cl b29_ 34 [(Value.int .i64 m), (Value.int .i64 n), gv] :: cl b7_ 34 [(Value.int .i64 0), (Value.int .i64 0), (Value.slice none 0 0)] :: cl b2_ 61 [(Value.int .i64 m), (Value.int .i64 n), v] :: F) := H185_
   have S187_ := Same.trans S178_ S186_
   refine ⟨⟨Holds.rd H185_ 5 rfl, (Holds.ro_at H185_ 1 rfl)⟩, ?_⟩
   refine A_ready (i := 12) (rs := []) (by kernel_rfl) ?_
   refine AllR.cons ?_ AllR.nil
   refine A_op (ls' := #[true, true, true, true, true, true, true, true, true, true, true, true, true, false, false]) rfl (by kernel_rfl) (T_append rfl rfl Try.underlying32 z68 rfl (by decide) H185_ 6 rfl (Holds.cl_src H185_ 0 rfl Try.underlying32 (by simp [Value.oneCell']) rfl) (by have hz_ := congrArg List.length hm; rw [List.length_map, List.length_map, List.length_take] at hz_; omega) ?_)
   intro v188_ w189_ S191_ H190_
   have S192_ := Same.trans S187_ S191_
   refine ⟨⟨Holds.rd H190_ 5 rfl, (Holds.ro_at H190_ 1 rfl)⟩, ?_⟩
   have hq193_ := And.intro (Holds.rd H190_ 5 rfl) ((Holds.ro_at H190_ 1 rfl))
   refine A_tk 13 (v := (Value.pointer (some ⟨b29_, 2, none⟩))) rfl (by kernel_rfl) (fun w hS => by kernel_rfl) hq193_ ?_
   refine A_ready (i := 14) (rs := []) (by kernel_rfl) ?_
   refine AllR.cons ?_ AllR.nil
   refine A_op0 (ls' := #[true, true, true, true, true, true, true, true, true, true, true, true, true, true, true]) rfl (by kernel_rfl) (T_store1 (v := v188_) rfl rfl z32 (Holds.sl_one H190_ 6 rfl) H190_ 7 rfl (Nat.le_of_ble_eq_true (by rfl)) ?_)
   intro w194_ S196_ H195_
   have S197_ := Same.trans S192_ S196_
   refine ⟨⟨Holds.rd H195_ 5 rfl, (Holds.ro_at H195_ 1 rfl)⟩, ?_⟩
   refine A_done (by kernel_rfl) ?_
   refine (X_blkN (X_then (hK49_ _ _ ?_)))
   clear hK49_
   refine C_reg ?_
   refine S_list (T_val (v := (Value.int .i64 (k : Int))) (x_move rfl) ?_)
   refine S_list (T_val (v := (Value.int .i64 ((k : Int) + 1))) (x_bin rfl rfl (ib_add (IntWalk.i64_in _ (by omega)))) ?_)
   refine S_list (T_val (v := (Value.int .i64 ((k : Int) + 1))) (x_assign rfl) ?_)
   refine wpList_nil ?_
   refine (X_then ?_)
   have H198_ := ((Holds.bring (Holds.bring H195_ 2 rfl) 2 rfl) :)
   replace H198_ : Holds w194_ (ro R1 :: sl 31 2 (Value.slice a179_ (List.length x51_.l) cp180_) (List.length x51_.l) (x51_.l.flatMap RV.cells) :: cl b183_ 68 [(Value.int .i64 x51_.ver), (Value.int .i64 x51_.created_Main), (Value.int .i64 x51_.created_Sub), (Value.slice a179_ (List.length x51_.l) cp180_)] :: cl b126_ 31 [(Value.int .i64 x51_.created_Main), (Value.int .i64 x51_.created_Sub)] :: cl b121_ 58 [(Value.int .i64 x51_.created_Main), (Value.int .i64 x51_.created_Sub)] :: cl b57_ 83 [(Value.int .i64 x51_.ver), (Value.int .i64 x51_.created_Main), (Value.int .i64 x51_.created_Sub), x51_.revs] :: sl 68 4 v188_ ((List.length N') + 1) ((N'.flatMap GN.cells) ++ [(Value.int .i64 x51_.ver), (Value.int .i64 x51_.created_Main), (Value.int .i64 x51_.created_Sub), (Value.slice a179_ (List.length x51_.l) cp180_)]) :: cl b29_ 34 [(Value.int .i64 m), (Value.int .i64 n), v188_] :: cl b7_ 34 [(Value.int .i64 0), (Value.int .i64 0), (Value.slice none 0 0)] :: cl b2_ 61 [(Value.int .i64 m), (Value.int .i64 n), v] :: F) := H198_
   obtain ⟨R199_, hs200_, ⟨R201_, ha202_, hs203_⟩, H204_⟩ := Holds.gift H198_
   have hz_R_R199_ := Sub.trans' hsR1 hs200_
   have hr205_ : RS R199_ 2 (Value.slice a179_ (List.length x51_.l) cp180_) (List.length x51_.l) (x51_.l.flatMap RV.cells) := (sl_RS ha202_ (Sub.rfl' _)).mono hs203_
   have H206_ := Holds.resl H204_ 5 rfl (by simp [GN.cells] : (N'.flatMap GN.cells) ++ [(Value.int .i64 x51_.ver), (Value.int .i64 x51_.created_Main), (Value.int .i64 x51_.created_Sub), (Value.slice a179_ (List.length x51_.l) cp180_)] = (N' ++ [(⟨x51_.ver, x51_.created_Main, x51_.created_Sub, (Value.slice a179_ (List.length x51_.l) cp180_), x51_.l⟩ : GN)]).flatMap GN.cells) (by simp : (List.length N') + 1 = (List.length (N' ++ [(⟨x51_.ver, x51_.created_Main, x51_.created_Sub, (Value.slice a179_ (List.length x51_.l) cp180_), x51_.l⟩ : GN)])))
   have H207_ : Holds w194_ (sl 68 4 v188_ (List.length (N' ++ [(⟨x51_.ver, x51_.created_Main, x51_.created_Sub, (Value.slice a179_ (List.length x51_.l) cp180_), x51_.l⟩ : GN)])) ((N' ++ [(⟨x51_.ver, x51_.created_Main, x51_.created_Sub, (Value.slice a179_ (List.length x51_.l) cp180_), x51_.l⟩ : GN)]).flatMap GN.cells) :: cl b29_ 34 [(Value.int .i64 m), (Value.int .i64 n), v188_] :: cl b7_ 34 [(Value.int .i64 0), (Value.int .i64 0), (Value.slice none 0 0)] :: cl b2_ 61 [(Value.int .i64 m), (Value.int .i64 n), v] :: ro R199_ :: F) := (Holds.pkF H206_ [5, 5, 5, 5, 0] 4 :)
   exact ⟨⟨R199_, k + 1, v188_, (N' ++ [(⟨x51_.ver, x51_.created_Main, x51_.created_Sub, (Value.slice a179_ (List.length x51_.l) cp180_), x51_.l⟩ : GN)])⟩, ⟨_, congrArg (fun e => mkA 37 e []) (ch (ch (ch (ch rfl rfl) rfl) rfl) (congrArg (Value.int .i64) ((by first | rfl | omega | (simp; done) | (simp; omega)) : (k : Int) + 1 = ((k + 1 : Nat) : Int)))), H207_, S197_, (hz_R_R199_), (by first | assumption | omega | exact rfl), (map_m_snoc hm hx52_ rfl), (all_snoc (fun x hx => (hN x hx).mono hs200_) (show RS _ 2 _ _ _ from hr205_))⟩, by first | omega | (dsimp only; omega) | (simp; omega)⟩
  refine AllR.cons ?_ AllR.nil
  refine A_op (ls' := #[true, false, true, true, true, true, true, true, true, true, true, true, false, false, false]) rfl (by kernel_rfl) (T_new (obj := .cells #[(Value.int .i64 x51_.ver), (Value.int .i64 x51_.created_Main), (Value.int .i64 x51_.created_Sub), (Value.slice a179_ (List.length x51_.l) cp180_)] 68) (f := fun b__ => .slice (some ⟨b__, 0, none⟩) 1 1) (A := fun b__ => cl b__ 68 [(Value.int .i64 x51_.ver), (Value.int .i64 x51_.created_Main), (Value.int .i64 x51_.created_Sub), (Value.slice a179_ (List.length x51_.l) cp180_)]) (by kernel_rfl) (fun l h => h.alloc _ _) H175_ ?_)
  intro b208_ w209_ S211_ H210_
  have S212_ := Same.trans S178_ S211_
  refine ⟨⟨Holds.rd H210_ 5 rfl, (Holds.ro_at H210_ 1 rfl)⟩, ?_⟩
  refine A_ready (i := 1) (rs := []) (by kernel_rfl) ?_
  refine AllR.cons ?_ AllR.nil
  refine A_op (ls' := #[true, true, true, true, true, true, true, true, true, true, true, true, false, false, false]) rfl (by kernel_rfl) (T_val (v := gv) (x_load1 rfl Try.underlying32 rfl ((Holds.rd H210_ 7 rfl) 2 gv rfl)) ?_)
  refine ⟨⟨Holds.rd H210_ 5 rfl, (Holds.ro_at H210_ 1 rfl)⟩, ?_⟩
  refine A_ready (i := 12) (rs := []) (by kernel_rfl) ?_
  refine AllR.cons ?_ AllR.nil
  refine A_op (ls' := #[true, true, true, true, true, true, true, true, true, true, true, true, true, false, false]) rfl (by kernel_rfl) (T_append rfl rfl Try.underlying32 z68 rfl (by decide) H210_ 6 rfl (Holds.cl_src H210_ 0 rfl Try.underlying32 (by simp [Value.oneCell']) rfl) (by have hz_ := congrArg List.length hm; rw [List.length_map, List.length_map, List.length_take] at hz_; omega) ?_)
  intro v213_ w214_ S216_ H215_
  have S217_ := Same.trans S212_ S216_
  refine ⟨⟨Holds.rd H215_ 5 rfl, (Holds.ro_at H215_ 1 rfl)⟩, ?_⟩
  have hq218_ := And.intro (Holds.rd H215_ 5 rfl) ((Holds.ro_at H215_ 1 rfl))
  refine A_tk 13 (v := (Value.pointer (some ⟨b29_, 2, none⟩))) rfl (by kernel_rfl) (fun w hS => by kernel_rfl) hq218_ ?_
  refine A_ready (i := 14) (rs := []) (by kernel_rfl) ?_
  refine AllR.cons ?_ AllR.nil
  refine A_op0 (ls' := #[true, true, true, true, true, true, true, true, true, true, true, true, true, true, true]) rfl (by kernel_rfl) (T_store1 (v := v213_) rfl rfl z32 (Holds.sl_one H215_ 6 rfl) H215_ 7 rfl (Nat.le_of_ble_eq_true (by rfl)) ?_)
  intro w219_ S221_ H220_
  replace H220_ : Holds w219_ (cl b208_ 68 [(Value.int .i64 x51_.ver), (Value.int .i64 x51_.created_Main), (Value.int .i64 x51_.created_Sub), (Value.slice a179_ (List.length x51_.l) cp180_)] :: ro R1 :: sl 31 2 (Value.slice a179_ (List.length x51_.l) cp180_) (List.length x51_.l) (x51_.l.flatMap RV.cells) :: cl b126_ 31 [(Value.int .i64 x51_.created_Main), (Value.int .i64 x51_.created_Sub)] :: cl b121_ 58 [(Value.int .i64 x51_.created_Main), (Value.int .i64 x51_.created_Sub)] :: cl b57_ 83 [(Value.int .i64 x51_.ver), (Value.int .i64 x51_.created_Main), (Value.int .i64 x51_.created_Sub), x51_.revs] :: sl 68 4 v213_ ((List.length N') + 1) ((N'.flatMap GN.cells) ++ [(Value.int .i64 x51_.ver), (Value.int .i64 x51_.created_Main), (Value.int .i64 x51_.created_Sub), (Value.slice a179_ (List.length x51_.l) cp180_)]) :: cl b29_ 34 [(Value.int .i64 m), (Value.int .i64 n), v213_] :: cl b7_ 34 [(Value.int .i64 0), (Value.int .i64 0), (Value.slice none 0 0)] :: cl b2_ 61 [(Value.int .i64 m), (Value.int .i64 n), v] :: F) := H220_
  have S222_ := Same.trans S217_ S221_
  refine ⟨⟨Holds.rd H220_ 5 rfl, (Holds.ro_at H220_ 1 rfl)⟩, ?_⟩
  refine A_done (by kernel_rfl) ?_
  refine (X_blkN (X_then (hK49_ _ _ ?_)))
  clear hK49_
  refine C_reg ?_
  refine S_list (T_val (v := (Value.int .i64 (k : Int))) (x_move rfl) ?_)
  refine S_list (T_val (v := (Value.int .i64 ((k : Int) + 1))) (x_bin rfl rfl (ib_add (IntWalk.i64_in _ (by omega)))) ?_)
  refine S_list (T_val (v := (Value.int .i64 ((k : Int) + 1))) (x_assign rfl) ?_)
  refine wpList_nil ?_
  refine (X_then ?_)
  have H223_ := ((Holds.bring (Holds.bring H220_ 2 rfl) 2 rfl) :)
  obtain ⟨R224_, hs225_, ⟨R226_, ha227_, hs228_⟩, H229_⟩ := Holds.gift H223_
  have hz_R_R224_ := Sub.trans' hsR1 hs225_
  have hr230_ : RS R224_ 2 (Value.slice a179_ (List.length x51_.l) cp180_) (List.length x51_.l) (x51_.l.flatMap RV.cells) := (sl_RS ha227_ (Sub.rfl' _)).mono hs228_
  have H231_ := Holds.resl H229_ 5 rfl (by simp [GN.cells] : (N'.flatMap GN.cells) ++ [(Value.int .i64 x51_.ver), (Value.int .i64 x51_.created_Main), (Value.int .i64 x51_.created_Sub), (Value.slice a179_ (List.length x51_.l) cp180_)] = (N' ++ [(⟨x51_.ver, x51_.created_Main, x51_.created_Sub, (Value.slice a179_ (List.length x51_.l) cp180_), x51_.l⟩ : GN)]).flatMap GN.cells) (by simp : (List.length N') + 1 = (List.length (N' ++ [(⟨x51_.ver, x51_.created_Main, x51_.created_Sub, (Value.slice a179_ (List.length x51_.l) cp180_), x51_.l⟩ : GN)])))
  have H232_ : Holds w219_ (sl 68 4 v213_ (List.length (N' ++ [(⟨x51_.ver, x51_.created_Main, x51_.created_Sub, (Value.slice a179_ (List.length x51_.l) cp180_), x51_.l⟩ : GN)])) ((N' ++ [(⟨x51_.ver, x51_.created_Main, x51_.created_Sub, (Value.slice a179_ (List.length x51_.l) cp180_), x51_.l⟩ : GN)]).flatMap GN.cells) :: cl b29_ 34 [(Value.int .i64 m), (Value.int .i64 n), v213_] :: cl b7_ 34 [(Value.int .i64 0), (Value.int .i64 0), (Value.slice none 0 0)] :: cl b2_ 61 [(Value.int .i64 m), (Value.int .i64 n), v] :: ro R224_ :: F) := (Holds.pkF H231_ [5, 5, 5, 5, 0] 4 :)
  exact ⟨⟨R224_, k + 1, v213_, (N' ++ [(⟨x51_.ver, x51_.created_Main, x51_.created_Sub, (Value.slice a179_ (List.length x51_.l) cp180_), x51_.l⟩ : GN)])⟩, ⟨_, congrArg (fun e => mkA 37 e []) (ch (ch (ch (ch rfl rfl) rfl) rfl) (congrArg (Value.int .i64) ((by first | rfl | omega | (simp; done) | (simp; omega)) : (k : Int) + 1 = ((k + 1 : Nat) : Int)))), H232_, S222_, (hz_R_R224_), (by first | assumption | omega | exact rfl), (map_m_snoc hm hx52_ rfl), (all_snoc (fun x hx => (hN x hx).mono hs225_) (show RS _ 2 _ _ _ from hr230_))⟩, by first | omega | (dsimp only; omega) | (simp; omega)⟩
 ·have c48_fp : ¬ ((k : Int) < ((List.length N) : Int)) := of_decide_eq_false c48_f
  refine C_exit (X_thenX (X_thenX (X_blkHit ?_)))
  refine (X_then (hK38_ _ _ ?_))
  clear hK38_
  refine C_seq (fun K233_ hK233_ => ?_)
  refine C_reg ?_
  refine S_list (T_val (v := (Value.agg #[(Value.int .i64 m), (Value.int .i64 n), gv])) (x_loadN (vs := [(Value.int .i64 m), (Value.int .i64 n), gv]) rfl Try.underlying34 rfl z34 rfl (Rd.cells (Holds.rd H44_ 1 rfl) 0 rfl)) ?_)
  refine S_list0 (T_storeN (vs := [(Value.int .i64 m), (Value.int .i64 n), gv]) rfl rfl z34 rfl (List.forall_mem_cons.2 ⟨rfl, (List.forall_mem_cons.2 ⟨rfl, (List.forall_mem_cons.2 ⟨(Holds.sl_one H44_ 0 rfl), (fun _ h__ => by cases h__)⟩)⟩)⟩) H44_ 2 rfl (Nat.le_of_ble_eq_true (by rfl)) ?_)
  intro w234_ S236_ H235_
  have S237_ := Same.trans S45_ S236_
  refine wpList_nil ?_
  refine (X_then (hK233_ _ _ ?_))
  clear hK233_
  refine C_ret ?_
  refine R_any (v := (Value.agg #[(Value.int .i64 m), (Value.int .i64 n), gv])) (run_results1 rfl ⟨_, rfl, load_resN Try.underlying34 rfl z34 rfl (vs := [(Value.int .i64 m), (Value.int .i64 n), gv]) (Holds.cl_cells H235_ 2 rfl 0 rfl)⟩) ?_
  have H238_ := ((Holds.bring H235_ 4 rfl) :)
  obtain ⟨R239_, hs240_, ⟨R241_, ha242_, hs243_⟩, H244_⟩ := Holds.gift H238_
  replace H244_ : Holds w234_ (ro R239_ :: cl b29_ 34 [(Value.int .i64 m), (Value.int .i64 n), gv] :: cl b7_ 34 [(Value.int .i64 m), (Value.int .i64 n), gv] :: cl b2_ 61 [(Value.int .i64 m), (Value.int .i64 n), v] :: F) := H244_
  have hz_R_R239_ := Sub.trans' hsR1 hs240_
  have hr245_ : RS R239_ 4 gv (List.length N') (N'.flatMap GN.cells) := (sl_RS ha242_ (Sub.rfl' _)).mono hs243_
  rw [List.take_of_length_le (by omega)] at hm
  have H246_ : Holds w234_ (ro R239_ :: F) := (Holds.pkF H244_ [0] 3 :)
  exact ⟨R239_, _, _, rfl, hz_R_R239_, ⟨gv, N', rfl, rfl, (hm), (hr245_), (fun x hx => (hN x hx).mono hs240_)⟩, S237_, H246_⟩
end Go.Proofs.Ytiblemgccgbhoaa
