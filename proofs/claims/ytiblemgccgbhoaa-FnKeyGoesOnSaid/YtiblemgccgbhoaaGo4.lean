/- Words, and proved steps, on which the proof leans. -/
import Derived.Test.YtiblemgccgbhoaaGo3
set_option linter.unusedVariables false
set_option linter.unusedSimpArgs false
namespace Go.Proofs.Ytiblemgccgbhoaa
open Go Go.RowKit Gw
open Go.Value renaming int → vI, bool → vB, slice → vS, pointer → vP, agg → vA, tuple → vT

set_option maxHeartbeats 1600000 in
theorem kRevsOut (R : HP) (v : Value) (K : List RV) (hK : RS R 2 v (List.length K) (K.flatMap RV.cells)) (hl : K.length ≤ 4000000000000) :
    Tri Try.prog 42 #[v] R [] (fun v__ post__ => ∃ (v' : Value), v__ = v' ∧ post__ = [sl 31 2 v' (List.length K) (K.flatMap RV.cells)]) := by
 refine Tri.into (n := 20) (al := [v]) Try.func42 rfl Try.ntmps42 rfl rfl fun w F H => ?_
 refine C_seq (fun K1_ hK1_ => C_reg ?_)
 refine sv (v := (vS none 0 0)) (x_assign rfl) ?_
 refine wpList_nil (X_then (hK1_ _ _ ?_))
 clear hK1_
 refine C_seq (fun K2_ hK2_ => C_reg ?_)
 refine sv (v := (vS none 0 0)) (x_assign rfl) ?_
 refine wpList_nil (X_then (hK2_ _ _ ?_))
 clear hK2_
 refine C_seq (fun K3_ hK3_ => ?_)
 refine C_seq (fun K4_ hK4_ => C_reg ?_)
 refine sv (v := (vI .i64 0)) (x_assign rfl) ?_
 refine wpList_nil (X_then (hK4_ _ _ ?_))
 clear hK4_
 refine C_block ?_
 have H5_ : Holds w (sl 31 2 (vS none 0 0) (List.length (List.take 0 K)) ((List.take 0 K).flatMap RV.cells) :: ro R :: F) := Holds.add_nil H 31 2
 refine C_loop (γ := Nat × Value) (fun x__ a__ w1__ => match x__ with | ⟨k, v1⟩ => ∃ h : Env, a__ = mkA 20 (upd (upd (upd (upd h 0 v) 2 (vS none 0 0)) 3 v1) 4 (vI .i64 (k : Int))) [] ∧ Holds w1__ (sl 31 2 v1 (List.length (List.take k K)) ((List.take k K).flatMap RV.cells) :: ro R :: F) ∧ Same w w1__ ∧ (k ≤ K.length)) (fun x__ => match x__ with | ⟨k, v1⟩ => K.length - k) (⟨0, (vS none 0 0)⟩) ⟨_, congrArg (fun e => mkA 20 e []) (ch (ch (ch (ch rfl rfl) rfl) (rfl : (vS none 0 0) = ((vS none 0 0)))) (congrArg (vI .i64) ((by first | rfl | omega | (simp; done) | (simp; omega)) : 0 = (0 : Int)))), H5_, (Same.refl w), (by first | assumption | omega | exact rfl)⟩ ?_
 rintro ⟨k, v1⟩ _ w6_ ⟨h, rfl, H7_, S8_, hk⟩
 refine C_seq (fun K9_ hK9_ => ?_)
 refine C_seq (fun K10_ hK10_ => C_reg ?_)
 refine sv (v := (vI .i64 (k : Int))) (x_move rfl) ?_
 refine sv (v := v) (x_move rfl) ?_
 refine sv (v := (vI .i64 ((List.length K) : Int))) (x_lenRS rfl hK Try.underlying80) ?_
 refine sv (v := (vB (decide ((k : Int) < ((List.length K) : Int))))) (x_bin rfl rfl rfl) ?_
 refine wpList_nil (X_then (hK10_ _ _ ?_))
 clear hK10_
 refine C_cond (b := decide ((k : Int) < ((List.length K) : Int))) rfl (fun c11_t => ?_) (fun c11_f => ?_)
 ·have c11_tp : (k : Int) < ((List.length K) : Int) := of_decide_eq_true c11_t
  refine C_skip (X_then (hK9_ _ _ ?_))
  clear hK9_
  refine C_seq (fun K12_ hK12_ => ?_)
  refine C_block ?_
  refine C_reg ?_
  refine sv (v := v1) (x_move rfl) ?_
  refine sv (v := v) (x_move rfl) ?_
  refine sv (v := (vI .i64 (k : Int))) (x_move rfl) ?_
  obtain ⟨x13_, hx14_, hm15_⟩ := elem_at K k (by omega)
  refine sv (v := (vP (some ⟨(sb v), so v + (k * 2 + 0), none⟩))) (x_idxRS (v := v) rfl hK rfl Try.underlying80 z58 (by omega) (by omega) (by omega : _ = k) rfl) ?_
  refine sv (v := (vA #[(vI .i64 x13_.main), (vI .i64 x13_.sub)])) (x_loadN (vs := [(vI .i64 x13_.main), (vI .i64 x13_.sub)]) rfl Try.underlying58 rfl z58 rfl (RC.cells (RS.rc hK) (Holds.ro_at H7_ 1 rfl) (k * 2 + 0) (fm_cells RV.len hx14_ (i := 0) rfl))) ?_
  refine S_list (T_callW (al := [(vA #[(vI .i64 x13_.main), (vI .i64 x13_.sub)])]) rfl rfl cb41 (Calls.into (n := 8) (al := [(vA #[(vI .i64 x13_.main), (vI .i64 x13_.sub)])]) Try.func41 rfl Try.ntmps41 rfl rfl ?_))
  refine C_seq (fun K16_ hK16_ => C_reg ?_)
  refine S_list (T_box (v := (vA #[(vI .i64 x13_.main), (vI .i64 x13_.sub)])) rfl H7_ ?_)
  intro b17_ w18_ S20_ H19_
  have S21_ := Same.trans S8_ S20_
  refine S_list (T_alloc z31 H19_ ?_)
  intro b22_ w23_ S25_ H24_
  have S26_ := Same.trans S21_ S25_
  refine wpList_nil (X_then (hK16_ _ _ ?_))
  clear hK16_
  refine C_seq (fun K27_ hK27_ => C_reg ?_)
  refine sv (v := (vP (some ⟨b17_, 0, none⟩))) (by kernel_rfl) ?_
  refine sv (v := (vI .i64 x13_.main)) (x_load1 rfl Try.underlying2 rfl ((Holds.rd H24_ 1 rfl) 0 (vI .i64 x13_.main) rfl)) ?_
  refine sv (v := (vP (some ⟨b17_, 1, none⟩))) (by kernel_rfl) ?_
  refine sv (v := (vI .i64 x13_.sub)) (x_load1 rfl Try.underlying2 rfl ((Holds.rd H24_ 1 rfl) 1 (vI .i64 x13_.sub) rfl)) ?_
  refine sv (v := (vA #[(vI .i64 x13_.main), (vI .i64 x13_.sub)])) (by kernel_rfl) ?_
  refine S_list0 (T_storeN (vs := [(vI .i64 x13_.main), (vI .i64 x13_.sub)]) rfl rfl z31 rfl (by simp [Value.oneCell']) H24_ 0 rfl (Nat.le_of_ble_eq_true (by rfl)) ?_)
  intro w28_ S30_ H29_
  have S31_ := Same.trans S26_ S30_
  refine wpList_nil (X_then (hK27_ _ _ ?_))
  clear hK27_
  refine C_ret ?_
  refine R_any (v := (vA #[(vI .i64 x13_.main), (vI .i64 x13_.sub)])) (run_results1 rfl ⟨_, rfl, load_resN Try.underlying31 rfl z31 rfl (vs := [(vI .i64 x13_.main), (vI .i64 x13_.sub)]) (Holds.cl_cells H29_ 0 rfl 0 rfl)⟩) ⟨_, rfl, ?_⟩
  refine S_list (T_new (obj := .cells #[(vI .i64 x13_.main), (vI .i64 x13_.sub)] 31) (f := fun b__ => .slice (some ⟨b__, 0, none⟩) 1 1) (A := fun b__ => cl b__ 31 [(vI .i64 x13_.main), (vI .i64 x13_.sub)]) (by kernel_rfl) (fun l h => h.alloc _ _) H29_ ?_)
  intro b32_ w33_ S35_ H34_
  have S36_ := Same.trans S31_ S35_
  refine S_list (T_append rfl rfl Try.underlying41 z31 rfl (by decide) H34_ 3 rfl (Holds.cl_src H34_ 0 rfl Try.underlying41 (by simp [Value.oneCell']) rfl) (by rw [List.length_take]; omega) ?_)
  intro v37_ w38_ S40_ H39_
  have S41_ := Same.trans S36_ S40_
  refine sv (v := v37_) (x_assign rfl) ?_
  refine wpList_nil (X_blkN (X_then (hK12_ _ _ ?_)))
  clear hK12_
  refine C_reg ?_
  refine sv (v := (vI .i64 (k : Int))) (x_move rfl) ?_
  refine sv (v := (vI .i64 ((k : Int) + 1))) (x_bin rfl rfl (ib_add (IntWalk.i64_in _ (by omega)))) ?_
  refine sv (v := (vI .i64 ((k : Int) + 1))) (x_assign rfl) ?_
  refine wpList_nil (X_then ?_)
  have H42_ := Holds.resl H39_ 3 rfl ((by rw [List.take_add_one, hx14_]; simp [RV.cells]) : ((List.take k K).flatMap RV.cells) ++ [(vI .i64 x13_.main), (vI .i64 x13_.sub)] = (List.take (k + 1) K).flatMap RV.cells) ((by rw [List.take_add_one, hx14_]; simp [RV.cells]) : (List.length (List.take k K)) + 1 = (List.length (List.take (k + 1) K)))
  have H43_ : Holds w38_ (sl 31 2 v37_ (List.length (List.take (k + 1) K)) ((List.take (k + 1) K).flatMap RV.cells) :: ro R :: F) := (Holds.pkF H42_ [3, 3] 3 :)
  exact ⟨⟨k + 1, v37_⟩, ⟨_, congrArg (fun e => mkA 20 e []) (ch (ch (ch (ch rfl rfl) rfl) rfl) (congrArg (vI .i64) ((by first | rfl | omega | (simp; done) | (simp; omega)) : (k : Int) + 1 = ((k + 1 : Nat) : Int)))), H43_, S41_, (by first | assumption | omega | exact rfl)⟩, by first | omega | (dsimp only; omega) | (simp; omega)⟩
 ·have c11_fp : ¬ ((k : Int) < ((List.length K) : Int)) := of_decide_eq_false c11_f
  refine C_exit (X_thenX (X_thenX (X_blkHit ?_)))
  refine (X_then (hK3_ _ _ ?_))
  clear hK3_
  refine C_seq (fun K44_ hK44_ => C_reg ?_)
  refine sv (v := v1) (x_move rfl) ?_
  refine sv (v := v1) (x_assign rfl) ?_
  refine wpList_nil (X_then (hK44_ _ _ ?_))
  clear hK44_
  refine C_ret ?_
  refine R_any (v := v1) (run_results1 rfl rfl) ?_
  have H45_ := Holds.resl H7_ 0 rfl ((by rw [List.take_of_length_le (by omega)]) : (List.take k K).flatMap RV.cells = K.flatMap RV.cells) ((by rw [List.take_of_length_le (by omega)]) : (List.length (List.take k K)) = (List.length K))
  have H46_ : Holds w6_ (ro R :: sl 31 2 v1 (List.length K) (K.flatMap RV.cells) :: F) := (Holds.pkF H45_ [1, 0] 0 :)
  exact ⟨_, _, rfl, ⟨v1, rfl, rfl⟩, S8_, H46_⟩

set_option maxHeartbeats 1600000 in
theorem kDumpOut (R : HP) (m n : Int) (v : Value) (N : List GN) (h1 : RS R 4 v (List.length N) (N.flatMap GN.cells)) (hg1 : ∀ x ∈ N, GOk R x) (hb1 : N.length ≤ 100000) (hb2 : ∀ x ∈ N, x.l.length ≤ 100000) :
    TriG Try.prog 48 #[(vA #[(vI .i64 m), (vI .i64 n), v])] R [] (fun R' v__ post__ => ∃ (v' : Value) (N' : List GN), v__ = (vA #[(vI .i64 m), (vI .i64 n), v']) ∧ post__ = [] ∧ (N'.map GN.m = N.map GN.m) ∧ (RS R' 4 v' (List.length N') (N'.flatMap GN.cells)) ∧ (∀ x ∈ N', GOk R' x)) := by
 refine TriG.into (n := 37) (al := [(vA #[(vI .i64 m), (vI .i64 n), v])]) Try.func48 rfl Try.ntmps48 rfl rfl fun w F H => ?_
 refine C_seq (fun K1_ hK1_ => C_reg ?_)
 refine S_list (T_box (v := (vA #[(vI .i64 m), (vI .i64 n), v])) rfl H ?_)
 intro b2_ w3_ S5_ H4_
 have S6_ := Same.trans (Same.refl w) S5_
 refine S_list (T_alloc z34 H4_ ?_)
 intro b7_ w8_ S10_ H9_
 have S11_ := Same.trans S6_ S10_
 refine wpList_nil (X_then (hK1_ _ _ ?_))
 clear hK1_
 refine C_seq (fun K12_ hK12_ => C_reg ?_)
 refine sv (v := (vP (some ⟨b2_, 0, none⟩))) (by kernel_rfl) ?_
 refine sv (v := (vA #[(vI .i64 m), (vI .i64 n)])) (x_loadN (vs := [(vI .i64 m), (vI .i64 n)]) rfl Try.underlying58 rfl z58 rfl (Rd.cells (Holds.rd H9_ 1 rfl) 0 rfl)) ?_
 refine S_list (T_callW (al := [(vA #[(vI .i64 m), (vI .i64 n)])]) rfl rfl cb41 (Calls.into (n := 8) (al := [(vA #[(vI .i64 m), (vI .i64 n)])]) Try.func41 rfl Try.ntmps41 rfl rfl ?_))
 refine C_seq (fun K13_ hK13_ => C_reg ?_)
 refine S_list (T_box (v := (vA #[(vI .i64 m), (vI .i64 n)])) rfl H9_ ?_)
 intro b14_ w15_ S17_ H16_
 have S18_ := Same.trans S11_ S17_
 refine S_list (T_alloc z31 H16_ ?_)
 intro b19_ w20_ S22_ H21_
 have S23_ := Same.trans S18_ S22_
 refine wpList_nil (X_then (hK13_ _ _ ?_))
 clear hK13_
 refine C_seq (fun K24_ hK24_ => C_reg ?_)
 refine sv (v := (vP (some ⟨b14_, 0, none⟩))) (by kernel_rfl) ?_
 refine sv (v := (vI .i64 m)) (x_load1 rfl Try.underlying2 rfl ((Holds.rd H21_ 1 rfl) 0 (vI .i64 m) rfl)) ?_
 refine sv (v := (vP (some ⟨b14_, 1, none⟩))) (by kernel_rfl) ?_
 refine sv (v := (vI .i64 n)) (x_load1 rfl Try.underlying2 rfl ((Holds.rd H21_ 1 rfl) 1 (vI .i64 n) rfl)) ?_
 refine sv (v := (vA #[(vI .i64 m), (vI .i64 n)])) (by kernel_rfl) ?_
 refine S_list0 (T_storeN (vs := [(vI .i64 m), (vI .i64 n)]) rfl rfl z31 rfl (by simp [Value.oneCell']) H21_ 0 rfl (Nat.le_of_ble_eq_true (by rfl)) ?_)
 intro w25_ S27_ H26_
 have S28_ := Same.trans S23_ S27_
 refine wpList_nil (X_then (hK24_ _ _ ?_))
 clear hK24_
 refine C_ret ?_
 refine R_any (v := (vA #[(vI .i64 m), (vI .i64 n)])) (run_results1 rfl ⟨_, rfl, load_resN Try.underlying31 rfl z31 rfl (vs := [(vI .i64 m), (vI .i64 n)]) (Holds.cl_cells H26_ 0 rfl 0 rfl)⟩) ⟨_, rfl, ?_⟩
 refine sv (v := (vA #[(vI .i64 m), (vI .i64 n), (vS none 0 0)])) (by kernel_rfl) ?_
 refine S_list (T_alloc z34 H26_ ?_)
 intro b29_ w30_ S32_ H31_
 have S33_ := Same.trans S28_ S32_
 refine S_list0 (T_storeN (vs := [(vI .i64 m), (vI .i64 n), (vS none 0 0)]) rfl rfl z34 rfl (by simp [Value.oneCell']) H31_ 0 rfl (Nat.le_of_ble_eq_true (by rfl)) ?_)
 intro w34_ S36_ H35_
 have S37_ := Same.trans S33_ S36_
 refine wpList_nil (X_then (hK12_ _ _ ?_))
 clear hK12_
 refine C_seq (fun K38_ hK38_ => ?_)
 refine C_seq (fun K39_ hK39_ => C_reg ?_)
 refine sv (v := (vI .i64 0)) (x_assign rfl) ?_
 refine wpList_nil (X_then (hK39_ _ _ ?_))
 clear hK39_
 refine C_block ?_
 have H40_ : Holds w34_ (sl 68 4 (vS none 0 0) (List.length ([] : List GN)) (([] : List GN).flatMap GN.cells) :: cl b29_ 34 [(vI .i64 m), (vI .i64 n), (vS none 0 0)] :: cl b19_ 31 [(vI .i64 m), (vI .i64 n)] :: cl b14_ 58 [(vI .i64 m), (vI .i64 n)] :: cl b7_ 34 [(vI .i64 0), (vI .i64 0), (vS none 0 0)] :: cl b2_ 61 [(vI .i64 m), (vI .i64 n), v] :: ro R :: F) := Holds.add_nil H35_ 68 4
 have H41_ := Holds.recl H40_ 1 rfl ((lcons rfl (lcons rfl (lcons (rfl : (vS none 0 0) = ((vS none 0 0))) rfl))) : [(vI .i64 m), (vI .i64 n), (vS none 0 0)] = [(vI .i64 m), (vI .i64 n), ((vS none 0 0))])
 have H42_ : Holds w34_ (sl 68 4 (vS none 0 0) (List.length ([] : List GN)) (([] : List GN).flatMap GN.cells) :: cl b29_ 34 [(vI .i64 m), (vI .i64 n), ((vS none 0 0))] :: cl b7_ 34 [(vI .i64 0), (vI .i64 0), (vS none 0 0)] :: cl b2_ 61 [(vI .i64 m), (vI .i64 n), v] :: ro R :: F) := (Holds.pkF H41_ [0, 0, 2, 2, 2] 2 :)
 refine C_loop (γ := HP × Nat × Value × (List GN)) (fun x__ a__ w1__ => match x__ with | ⟨R1, k, gv, N'⟩ => ∃ h : Env, a__ = mkA 37 (upd (upd (upd (upd h 1 (vP (some ⟨b2_, 0, none⟩))) 2 (vP (some ⟨b7_, 0, none⟩))) 3 (vP (some ⟨b29_, 0, none⟩))) 4 (vI .i64 (k : Int))) [] ∧ Holds w1__ (sl 68 4 gv (List.length N') (N'.flatMap GN.cells) :: cl b29_ 34 [(vI .i64 m), (vI .i64 n), gv] :: cl b7_ 34 [(vI .i64 0), (vI .i64 0), (vS none 0 0)] :: cl b2_ 61 [(vI .i64 m), (vI .i64 n), v] :: ro R1 :: F) ∧ Same w w1__ ∧ (Sub R R1) ∧ (k ≤ N.length) ∧ (N'.map GN.m = (N.take k).map GN.m) ∧ (∀ x ∈ N', GOk R1 x)) (fun x__ => match x__ with | ⟨R1, k, gv, N'⟩ => N.length - k) (⟨R, 0, (vS none 0 0), ([] : List GN)⟩) ⟨_, congrArg (fun e => mkA 37 e []) (ch (ch (ch (ch rfl rfl) rfl) rfl) (congrArg (vI .i64) ((by first | rfl | omega | (simp; done) | (simp; omega)) : 0 = (0 : Int)))), H42_, S37_, (Sub.rfl' _), (by first | assumption | omega | exact rfl), (rfl), (fun x hx => by cases hx)⟩ ?_
 rintro ⟨R1, k, gv, N'⟩ _ w43_ ⟨h, rfl, H44_, S45_, hsR1, hk, hm, hN⟩
 refine C_seq (fun K46_ hK46_ => ?_)
 refine C_seq (fun K47_ hK47_ => C_reg ?_)
 refine sv (v := (vI .i64 (k : Int))) (x_move rfl) ?_
 refine sv (v := (vP (some ⟨b2_, 2, none⟩))) (by kernel_rfl) ?_
 refine sv (v := v) (x_load1 rfl Try.underlying59 rfl ((Holds.rd H44_ 3 rfl) 2 v rfl)) ?_
 refine sv (v := (vI .i64 ((List.length N) : Int))) (x_lenRS rfl (RS.mono h1 hsR1) Try.underlying59) ?_
 refine sv (v := (vB (decide ((k : Int) < ((List.length N) : Int))))) (x_bin rfl rfl rfl) ?_
 refine wpList_nil (X_then (hK47_ _ _ ?_))
 clear hK47_
 refine C_cond (b := decide ((k : Int) < ((List.length N) : Int))) rfl (fun c48_t => ?_) (fun c48_f => ?_)
 ·have c48_tp : (k : Int) < ((List.length N) : Int) := of_decide_eq_true c48_t
  refine C_skip (X_then (hK46_ _ _ ?_))
  clear hK46_
  refine C_seq (fun K49_ hK49_ => ?_)
  refine C_block ?_
  refine C_seq (fun K50_ hK50_ => C_reg ?_)
  refine sv (v := (vP (some ⟨b2_, 2, none⟩))) (by kernel_rfl) ?_
  refine sv (v := v) (x_load1 rfl Try.underlying59 rfl ((Holds.rd H44_ 3 rfl) 2 v rfl)) ?_
  refine sv (v := (vI .i64 (k : Int))) (x_move rfl) ?_
  obtain ⟨x51_, hx52_, hm53_⟩ := elem_at N k (by omega)
  have hp54_ := hg1 x51_ hm53_
  have hp55_ := hb2 x51_ hm53_
  have hg56_ := hg1 x51_ hm53_
  refine sv (v := (vP (some ⟨(sb v), so v + (k * 4 + 0), none⟩))) (x_idxRS (v := v) rfl (RS.mono h1 hsR1) rfl Try.underlying59 z83 (by omega) (by omega) (by omega : _ = k) rfl) ?_
  refine sv (v := (vA #[(vI .i64 x51_.ver), (vI .i64 x51_.created_Main), (vI .i64 x51_.created_Sub), x51_.revs])) (x_loadN (vs := [(vI .i64 x51_.ver), (vI .i64 x51_.created_Main), (vI .i64 x51_.created_Sub), x51_.revs]) rfl Try.underlying83 rfl z83 rfl (RC.cells (RS.rc (RS.mono h1 hsR1)) (Holds.ro_at H44_ 4 rfl) (k * 4 + 0) (fm_cells GN.len hx52_ (i := 0) rfl))) ?_
  refine S_list (T_alloc z83 H44_ ?_)
  intro b57_ w58_ S60_ H59_
  have S61_ := Same.trans S45_ S60_
  refine S_list0 (T_storeN (vs := [(vI .i64 x51_.ver), (vI .i64 x51_.created_Main), (vI .i64 x51_.created_Sub), x51_.revs]) rfl rfl z83 rfl (List.forall_mem_cons.2 ⟨rfl, (List.forall_mem_cons.2 ⟨rfl, (List.forall_mem_cons.2 ⟨rfl, (List.forall_mem_cons.2 ⟨(RS.one (RS.mono hg56_ hsR1)), (fun _ h__ => by cases h__)⟩)⟩)⟩)⟩) H59_ 0 rfl (Nat.le_of_ble_eq_true (by rfl)) ?_)
  intro w62_ S64_ H63_
  have S65_ := Same.trans S61_ S64_
  refine wpList_nil (X_then (hK50_ _ _ ?_))
  clear hK50_
  refine A_start (S := fun w => Rd b57_ [(vI .i64 x51_.ver), (vI .i64 x51_.created_Main), (vI .i64 x51_.created_Sub), x51_.revs] w ∧ Sub R1 (hp w)) (N := 15) foll rfl rfl ?_
  have H66_ := Holds.drew_ H63_
  have hq67_ := And.intro (Holds.rd H66_ 0 rfl) ((Holds.ro_at H66_ 5 rfl))
  refine A_tk 0 (v := (vP (some ⟨b29_, 2, none⟩))) rfl (by kernel_rfl) (fun w hS => by kernel_rfl) hq67_ ?_
  refine A_tk 2 (v := (vP (some ⟨b57_, 0, none⟩))) rfl (by kernel_rfl) (fun w hS => by kernel_rfl) hq67_ ?_
  refine A_tk 3 (v := (vI .i64 x51_.ver)) rfl (by kernel_rfl) (fun w hS => x_load1 rfl Try.underlying2 rfl (hS.1 0 (vI .i64 x51_.ver) rfl)) hq67_ ?_
  refine A_tk 4 (v := (vP (some ⟨b57_, 1, none⟩))) rfl (by kernel_rfl) (fun w hS => by kernel_rfl) hq67_ ?_
  refine A_tk 5 (v := (vA #[(vI .i64 x51_.created_Main), (vI .i64 x51_.created_Sub)])) rfl (by kernel_rfl) (fun w hS => x_loadN (vs := [(vI .i64 x51_.created_Main), (vI .i64 x51_.created_Sub)]) rfl Try.underlying58 rfl z58 rfl (Rd.cells hS.1 1 rfl)) hq67_ ?_
  refine A_tk 7 (v := (vP (some ⟨b57_, 3, none⟩))) rfl (by kernel_rfl) (fun w hS => by kernel_rfl) hq67_ ?_
  refine A_tk 8 (v := x51_.revs) rfl (by kernel_rfl) (fun w hS => x_load1 rfl Try.underlying80 rfl (hS.1 3 x51_.revs rfl)) hq67_ ?_
  refine A_ready (i := 1) (rs := [6]) (by kernel_rfl) ?_
  refine AllR.cons ?_ ?_
  ·skip
   refine A_op (ls' := #[true, true, true, true, true, true, false, true, true, false, false, false, false, false, false]) rfl (by kernel_rfl) (T_val (v := gv) (x_load1 rfl Try.underlying32 rfl ((Holds.rd H66_ 2 rfl) 2 gv rfl)) ?_)
   refine ⟨⟨Holds.rd H66_ 0 rfl, (Holds.ro_at H66_ 5 rfl)⟩, ?_⟩
   refine A_ready (i := 6) (rs := []) (by kernel_rfl) ?_
   refine AllR.cons ?_ AllR.nil
   refine A_op (ls' := #[true, true, true, true, true, true, true, true, true, false, false, false, false, false, false]) rfl (by kernel_rfl) (T_callW (al := [(vA #[(vI .i64 x51_.created_Main), (vI .i64 x51_.created_Sub)])]) rfl rfl cb41 (Calls.into (n := 8) (al := [(vA #[(vI .i64 x51_.created_Main), (vI .i64 x51_.created_Sub)])]) Try.func41 rfl Try.ntmps41 rfl rfl ?_))
   refine C_seq (fun K68_ hK68_ => C_reg ?_)
   refine S_list (T_box (v := (vA #[(vI .i64 x51_.created_Main), (vI .i64 x51_.created_Sub)])) rfl H66_ ?_)
   intro b69_ w70_ S72_ H71_
   have S73_ := Same.trans (Same.trans S65_ (Same.drew _)) S72_
   refine S_list (T_alloc z31 H71_ ?_)
   intro b74_ w75_ S77_ H76_
   have S78_ := Same.trans S73_ S77_
   refine wpList_nil (X_then (hK68_ _ _ ?_))
   clear hK68_
   refine C_seq (fun K79_ hK79_ => C_reg ?_)
   refine sv (v := (vP (some ⟨b69_, 0, none⟩))) (by kernel_rfl) ?_
   refine sv (v := (vI .i64 x51_.created_Main)) (x_load1 rfl Try.underlying2 rfl ((Holds.rd H76_ 1 rfl) 0 (vI .i64 x51_.created_Main) rfl)) ?_
   refine sv (v := (vP (some ⟨b69_, 1, none⟩))) (by kernel_rfl) ?_
   refine sv (v := (vI .i64 x51_.created_Sub)) (x_load1 rfl Try.underlying2 rfl ((Holds.rd H76_ 1 rfl) 1 (vI .i64 x51_.created_Sub) rfl)) ?_
   refine sv (v := (vA #[(vI .i64 x51_.created_Main), (vI .i64 x51_.created_Sub)])) (by kernel_rfl) ?_
   refine S_list0 (T_storeN (vs := [(vI .i64 x51_.created_Main), (vI .i64 x51_.created_Sub)]) rfl rfl z31 rfl (by simp [Value.oneCell']) H76_ 0 rfl (Nat.le_of_ble_eq_true (by rfl)) ?_)
   intro w80_ S82_ H81_
   have S83_ := Same.trans S78_ S82_
   refine wpList_nil (X_then (hK79_ _ _ ?_))
   clear hK79_
   refine C_ret ?_
   refine R_any (v := (vA #[(vI .i64 x51_.created_Main), (vI .i64 x51_.created_Sub)])) (run_results1 rfl ⟨_, rfl, load_resN Try.underlying31 rfl z31 rfl (vs := [(vI .i64 x51_.created_Main), (vI .i64 x51_.created_Sub)]) (Holds.cl_cells H81_ 0 rfl 0 rfl)⟩) ⟨_, rfl, ?_⟩
   refine ⟨⟨Holds.rd H81_ 2 rfl, (Holds.ro_at H81_ 7 rfl)⟩, ?_⟩
   refine A_ready (i := 9) (rs := []) (by kernel_rfl) ?_
   refine AllR.cons ?_ AllR.nil
   have H85_ := ((Holds.bring H81_ 7 rfl) :)
   refine A_op (ls' := #[true, true, true, true, true, true, true, true, true, true, false, false, false, false, false]) rfl (by kernel_rfl) (T_call (al := [x51_.revs]) (pre := []) rfl rfl cb42 (kRevsOut R1 x51_.revs x51_.l (RS.mono hg56_ hsR1) (by first | assumption | omega)) H85_ ?_)
   rintro v84_ p89_ w86_ ⟨_, rfl, rfl⟩ S88_ H87_
   have S90_ := Same.trans S83_ S88_
   obtain ⟨-, a91_, cp92_, rfl, hle93_⟩ := Holds.sl_len H87_ 1 rfl
   refine ⟨⟨Holds.rd H87_ 4 rfl, (Holds.ro_at H87_ 0 rfl)⟩, ?_⟩
   have hq94_ := And.intro (Holds.rd H87_ 4 rfl) ((Holds.ro_at H87_ 0 rfl))
   refine A_tk 10 (v := (vA #[(vI .i64 x51_.ver), (vI .i64 x51_.created_Main), (vI .i64 x51_.created_Sub), (vS a91_ (List.length x51_.l) cp92_)])) rfl (by kernel_rfl) (fun w hS => by kernel_rfl) hq94_ ?_
   refine A_ready (i := 11) (rs := []) (by kernel_rfl) ?_
   refine AllR.cons ?_ AllR.nil
   refine A_op (ls' := #[true, true, true, true, true, true, true, true, true, true, true, true, false, false, false]) rfl (by kernel_rfl) (T_new (obj := .cells #[(vI .i64 x51_.ver), (vI .i64 x51_.created_Main), (vI .i64 x51_.created_Sub), (vS a91_ (List.length x51_.l) cp92_)] 68) (f := fun b__ => .slice (some ⟨b__, 0, none⟩) 1 1) (A := fun b__ => cl b__ 68 [(vI .i64 x51_.ver), (vI .i64 x51_.created_Main), (vI .i64 x51_.created_Sub), (vS a91_ (List.length x51_.l) cp92_)]) (by kernel_rfl) (fun l h => h.alloc _ _) H87_ ?_)
   intro b95_ w96_ S98_ H97_
   have S99_ := Same.trans S90_ S98_
   refine ⟨⟨Holds.rd H97_ 5 rfl, (Holds.ro_at H97_ 1 rfl)⟩, ?_⟩
   refine A_ready (i := 12) (rs := []) (by kernel_rfl) ?_
   refine AllR.cons ?_ AllR.nil
   refine A_op (ls' := #[true, true, true, true, true, true, true, true, true, true, true, true, true, false, false]) rfl (by kernel_rfl) (T_append rfl rfl Try.underlying32 z68 rfl (by decide) H97_ 6 rfl (Holds.cl_src H97_ 0 rfl Try.underlying32 (by simp [Value.oneCell']) rfl) (by have hz_ := congrArg List.length hm; rw [List.length_map, List.length_map, List.length_take] at hz_; omega) ?_)
   intro v100_ w101_ S103_ H102_
   have S104_ := Same.trans S99_ S103_
   refine ⟨⟨Holds.rd H102_ 5 rfl, (Holds.ro_at H102_ 1 rfl)⟩, ?_⟩
   have hq105_ := And.intro (Holds.rd H102_ 5 rfl) ((Holds.ro_at H102_ 1 rfl))
   refine A_tk 13 (v := (vP (some ⟨b29_, 2, none⟩))) rfl (by kernel_rfl) (fun w hS => by kernel_rfl) hq105_ ?_
   refine A_ready (i := 14) (rs := []) (by kernel_rfl) ?_
   refine AllR.cons ?_ AllR.nil
   refine A_op0 (ls' := #[true, true, true, true, true, true, true, true, true, true, true, true, true, true, true]) rfl (by kernel_rfl) (T_store1 (v := v100_) rfl rfl z32 (Holds.sl_one H102_ 6 rfl) H102_ 7 rfl (Nat.le_of_ble_eq_true (by rfl)) ?_)
   intro w106_ S108_ H107_
   have S109_ := Same.trans S104_ S108_
   refine ⟨⟨Holds.rd H107_ 5 rfl, (Holds.ro_at H107_ 1 rfl)⟩, ?_⟩
   refine A_done (by kernel_rfl) ?_
   refine (X_blkN (X_then (hK49_ _ _ ?_)))
   clear hK49_
   refine C_reg ?_
   refine sv (v := (vI .i64 (k : Int))) (x_move rfl) ?_
   refine sv (v := (vI .i64 ((k : Int) + 1))) (x_bin rfl rfl (ib_add (IntWalk.i64_in _ (by omega)))) ?_
   refine sv (v := (vI .i64 ((k : Int) + 1))) (x_assign rfl) ?_
   refine wpList_nil (X_then ?_)
   have H110_ := ((Holds.bring (Holds.bring H107_ 2 rfl) 2 rfl) :)
   obtain ⟨R111_, hs112_, ⟨R113_, ha114_, hs115_⟩, H116_⟩ := Holds.gift H110_
   have hz_R_R111_ := Sub.trans' hsR1 hs112_
   have hr117_ : RS R111_ 2 (vS a91_ (List.length x51_.l) cp92_) (List.length x51_.l) (x51_.l.flatMap RV.cells) := (sl_RS ha114_ (Sub.rfl' _)).mono hs115_
   have H118_ := Holds.resl H116_ 5 rfl (by simp [GN.cells] : (N'.flatMap GN.cells) ++ [(vI .i64 x51_.ver), (vI .i64 x51_.created_Main), (vI .i64 x51_.created_Sub), (vS a91_ (List.length x51_.l) cp92_)] = (N' ++ [(⟨x51_.ver, x51_.created_Main, x51_.created_Sub, (vS a91_ (List.length x51_.l) cp92_), x51_.l⟩ : GN)]).flatMap GN.cells) (by simp : (List.length N') + 1 = (List.length (N' ++ [(⟨x51_.ver, x51_.created_Main, x51_.created_Sub, (vS a91_ (List.length x51_.l) cp92_), x51_.l⟩ : GN)])))
   have H119_ : Holds w106_ (sl 68 4 v100_ (List.length (N' ++ [(⟨x51_.ver, x51_.created_Main, x51_.created_Sub, (vS a91_ (List.length x51_.l) cp92_), x51_.l⟩ : GN)])) ((N' ++ [(⟨x51_.ver, x51_.created_Main, x51_.created_Sub, (vS a91_ (List.length x51_.l) cp92_), x51_.l⟩ : GN)]).flatMap GN.cells) :: cl b29_ 34 [(vI .i64 m), (vI .i64 n), v100_] :: cl b7_ 34 [(vI .i64 0), (vI .i64 0), (vS none 0 0)] :: cl b2_ 61 [(vI .i64 m), (vI .i64 n), v] :: ro R111_ :: F) := (Holds.pkF H118_ [5, 5, 5, 5, 0] 4 :)
   exact ⟨⟨R111_, k + 1, v100_, (N' ++ [(⟨x51_.ver, x51_.created_Main, x51_.created_Sub, (vS a91_ (List.length x51_.l) cp92_), x51_.l⟩ : GN)])⟩, ⟨_, congrArg (fun e => mkA 37 e []) (ch (ch (ch (ch rfl rfl) rfl) rfl) (congrArg (vI .i64) ((by first | rfl | omega | (simp; done) | (simp; omega)) : (k : Int) + 1 = ((k + 1 : Nat) : Int)))), H119_, S109_, (hz_R_R111_), (by first | assumption | omega | exact rfl), (map_m_snoc hm hx52_ rfl), (all_snoc (fun x hx => (hN x hx).mono hs112_) (show RS _ 2 _ _ _ from hr117_))⟩, by first | omega | (dsimp only; omega) | (simp; omega)⟩
  refine AllR.cons ?_ AllR.nil
  refine A_op (ls' := #[true, false, true, true, true, true, true, true, true, false, false, false, false, false, false]) rfl (by kernel_rfl) (T_callW (al := [(vA #[(vI .i64 x51_.created_Main), (vI .i64 x51_.created_Sub)])]) rfl rfl cb41 (Calls.into (n := 8) (al := [(vA #[(vI .i64 x51_.created_Main), (vI .i64 x51_.created_Sub)])]) Try.func41 rfl Try.ntmps41 rfl rfl ?_))
  refine C_seq (fun K120_ hK120_ => C_reg ?_)
  refine S_list (T_box (v := (vA #[(vI .i64 x51_.created_Main), (vI .i64 x51_.created_Sub)])) rfl H66_ ?_)
  intro b121_ w122_ S124_ H123_
  have S125_ := Same.trans (Same.trans S65_ (Same.drew _)) S124_
  refine S_list (T_alloc z31 H123_ ?_)
  intro b126_ w127_ S129_ H128_
  have S130_ := Same.trans S125_ S129_
  refine wpList_nil (X_then (hK120_ _ _ ?_))
  clear hK120_
  refine C_seq (fun K131_ hK131_ => C_reg ?_)
  refine sv (v := (vP (some ⟨b121_, 0, none⟩))) (by kernel_rfl) ?_
  refine sv (v := (vI .i64 x51_.created_Main)) (x_load1 rfl Try.underlying2 rfl ((Holds.rd H128_ 1 rfl) 0 (vI .i64 x51_.created_Main) rfl)) ?_
  refine sv (v := (vP (some ⟨b121_, 1, none⟩))) (by kernel_rfl) ?_
  refine sv (v := (vI .i64 x51_.created_Sub)) (x_load1 rfl Try.underlying2 rfl ((Holds.rd H128_ 1 rfl) 1 (vI .i64 x51_.created_Sub) rfl)) ?_
  refine sv (v := (vA #[(vI .i64 x51_.created_Main), (vI .i64 x51_.created_Sub)])) (by kernel_rfl) ?_
  refine S_list0 (T_storeN (vs := [(vI .i64 x51_.created_Main), (vI .i64 x51_.created_Sub)]) rfl rfl z31 rfl (by simp [Value.oneCell']) H128_ 0 rfl (Nat.le_of_ble_eq_true (by rfl)) ?_)
  intro w132_ S134_ H133_
  have S135_ := Same.trans S130_ S134_
  refine wpList_nil (X_then (hK131_ _ _ ?_))
  clear hK131_
  refine C_ret ?_
  refine R_any (v := (vA #[(vI .i64 x51_.created_Main), (vI .i64 x51_.created_Sub)])) (run_results1 rfl ⟨_, rfl, load_resN Try.underlying31 rfl z31 rfl (vs := [(vI .i64 x51_.created_Main), (vI .i64 x51_.created_Sub)]) (Holds.cl_cells H133_ 0 rfl 0 rfl)⟩) ⟨_, rfl, ?_⟩
  refine ⟨⟨Holds.rd H133_ 2 rfl, (Holds.ro_at H133_ 7 rfl)⟩, ?_⟩
  refine A_ready (i := 1) (rs := [9]) (by kernel_rfl) ?_
  refine AllR.cons ?_ ?_
  ·skip
   refine A_op (ls' := #[true, true, true, true, true, true, true, true, true, false, false, false, false, false, false]) rfl (by kernel_rfl) (T_val (v := gv) (x_load1 rfl Try.underlying32 rfl ((Holds.rd H133_ 4 rfl) 2 gv rfl)) ?_)
   refine ⟨⟨Holds.rd H133_ 2 rfl, (Holds.ro_at H133_ 7 rfl)⟩, ?_⟩
   refine A_ready (i := 9) (rs := []) (by kernel_rfl) ?_
   refine AllR.cons ?_ AllR.nil
   have H137_ := ((Holds.bring H133_ 7 rfl) :)
   refine A_op (ls' := #[true, true, true, true, true, true, true, true, true, true, false, false, false, false, false]) rfl (by kernel_rfl) (T_call (al := [x51_.revs]) (pre := []) rfl rfl cb42 (kRevsOut R1 x51_.revs x51_.l (RS.mono hg56_ hsR1) (by first | assumption | omega)) H137_ ?_)
   rintro v136_ p141_ w138_ ⟨_, rfl, rfl⟩ S140_ H139_
   have S142_ := Same.trans S135_ S140_
   obtain ⟨-, a143_, cp144_, rfl, hle145_⟩ := Holds.sl_len H139_ 1 rfl
   refine ⟨⟨Holds.rd H139_ 4 rfl, (Holds.ro_at H139_ 0 rfl)⟩, ?_⟩
   have hq146_ := And.intro (Holds.rd H139_ 4 rfl) ((Holds.ro_at H139_ 0 rfl))
   refine A_tk 10 (v := (vA #[(vI .i64 x51_.ver), (vI .i64 x51_.created_Main), (vI .i64 x51_.created_Sub), (vS a143_ (List.length x51_.l) cp144_)])) rfl (by kernel_rfl) (fun w hS => by kernel_rfl) hq146_ ?_
   refine A_ready (i := 11) (rs := []) (by kernel_rfl) ?_
   refine AllR.cons ?_ AllR.nil
   refine A_op (ls' := #[true, true, true, true, true, true, true, true, true, true, true, true, false, false, false]) rfl (by kernel_rfl) (T_new (obj := .cells #[(vI .i64 x51_.ver), (vI .i64 x51_.created_Main), (vI .i64 x51_.created_Sub), (vS a143_ (List.length x51_.l) cp144_)] 68) (f := fun b__ => .slice (some ⟨b__, 0, none⟩) 1 1) (A := fun b__ => cl b__ 68 [(vI .i64 x51_.ver), (vI .i64 x51_.created_Main), (vI .i64 x51_.created_Sub), (vS a143_ (List.length x51_.l) cp144_)]) (by kernel_rfl) (fun l h => h.alloc _ _) H139_ ?_)
   intro b147_ w148_ S150_ H149_
   have S151_ := Same.trans S142_ S150_
   refine ⟨⟨Holds.rd H149_ 5 rfl, (Holds.ro_at H149_ 1 rfl)⟩, ?_⟩
   refine A_ready (i := 12) (rs := []) (by kernel_rfl) ?_
   refine AllR.cons ?_ AllR.nil
   refine A_op (ls' := #[true, true, true, true, true, true, true, true, true, true, true, true, true, false, false]) rfl (by kernel_rfl) (T_append rfl rfl Try.underlying32 z68 rfl (by decide) H149_ 6 rfl (Holds.cl_src H149_ 0 rfl Try.underlying32 (by simp [Value.oneCell']) rfl) (by have hz_ := congrArg List.length hm; rw [List.length_map, List.length_map, List.length_take] at hz_; omega) ?_)
   intro v152_ w153_ S155_ H154_
   have S156_ := Same.trans S151_ S155_
   refine ⟨⟨Holds.rd H154_ 5 rfl, (Holds.ro_at H154_ 1 rfl)⟩, ?_⟩
   have hq157_ := And.intro (Holds.rd H154_ 5 rfl) ((Holds.ro_at H154_ 1 rfl))
   refine A_tk 13 (v := (vP (some ⟨b29_, 2, none⟩))) rfl (by kernel_rfl) (fun w hS => by kernel_rfl) hq157_ ?_
   refine A_ready (i := 14) (rs := []) (by kernel_rfl) ?_
   refine AllR.cons ?_ AllR.nil
   refine A_op0 (ls' := #[true, true, true, true, true, true, true, true, true, true, true, true, true, true, true]) rfl (by kernel_rfl) (T_store1 (v := v152_) rfl rfl z32 (Holds.sl_one H154_ 6 rfl) H154_ 7 rfl (Nat.le_of_ble_eq_true (by rfl)) ?_)
   intro w158_ S160_ H159_
   have S161_ := Same.trans S156_ S160_
   refine ⟨⟨Holds.rd H159_ 5 rfl, (Holds.ro_at H159_ 1 rfl)⟩, ?_⟩
   refine A_done (by kernel_rfl) ?_
   refine (X_blkN (X_then (hK49_ _ _ ?_)))
   clear hK49_
   refine C_reg ?_
   refine sv (v := (vI .i64 (k : Int))) (x_move rfl) ?_
   refine sv (v := (vI .i64 ((k : Int) + 1))) (x_bin rfl rfl (ib_add (IntWalk.i64_in _ (by omega)))) ?_
   refine sv (v := (vI .i64 ((k : Int) + 1))) (x_assign rfl) ?_
   refine wpList_nil (X_then ?_)
   have H162_ := ((Holds.bring (Holds.bring H159_ 2 rfl) 2 rfl) :)
   obtain ⟨R163_, hs164_, ⟨R165_, ha166_, hs167_⟩, H168_⟩ := Holds.gift H162_
   have hz_R_R163_ := Sub.trans' hsR1 hs164_
   have hr169_ : RS R163_ 2 (vS a143_ (List.length x51_.l) cp144_) (List.length x51_.l) (x51_.l.flatMap RV.cells) := (sl_RS ha166_ (Sub.rfl' _)).mono hs167_
   have H170_ := Holds.resl H168_ 5 rfl (by simp [GN.cells] : (N'.flatMap GN.cells) ++ [(vI .i64 x51_.ver), (vI .i64 x51_.created_Main), (vI .i64 x51_.created_Sub), (vS a143_ (List.length x51_.l) cp144_)] = (N' ++ [(⟨x51_.ver, x51_.created_Main, x51_.created_Sub, (vS a143_ (List.length x51_.l) cp144_), x51_.l⟩ : GN)]).flatMap GN.cells) (by simp : (List.length N') + 1 = (List.length (N' ++ [(⟨x51_.ver, x51_.created_Main, x51_.created_Sub, (vS a143_ (List.length x51_.l) cp144_), x51_.l⟩ : GN)])))
   have H171_ : Holds w158_ (sl 68 4 v152_ (List.length (N' ++ [(⟨x51_.ver, x51_.created_Main, x51_.created_Sub, (vS a143_ (List.length x51_.l) cp144_), x51_.l⟩ : GN)])) ((N' ++ [(⟨x51_.ver, x51_.created_Main, x51_.created_Sub, (vS a143_ (List.length x51_.l) cp144_), x51_.l⟩ : GN)]).flatMap GN.cells) :: cl b29_ 34 [(vI .i64 m), (vI .i64 n), v152_] :: cl b7_ 34 [(vI .i64 0), (vI .i64 0), (vS none 0 0)] :: cl b2_ 61 [(vI .i64 m), (vI .i64 n), v] :: ro R163_ :: F) := (Holds.pkF H170_ [5, 5, 5, 5, 0] 4 :)
   exact ⟨⟨R163_, k + 1, v152_, (N' ++ [(⟨x51_.ver, x51_.created_Main, x51_.created_Sub, (vS a143_ (List.length x51_.l) cp144_), x51_.l⟩ : GN)])⟩, ⟨_, congrArg (fun e => mkA 37 e []) (ch (ch (ch (ch rfl rfl) rfl) rfl) (congrArg (vI .i64) ((by first | rfl | omega | (simp; done) | (simp; omega)) : (k : Int) + 1 = ((k + 1 : Nat) : Int)))), H171_, S161_, (hz_R_R163_), (by first | assumption | omega | exact rfl), (map_m_snoc hm hx52_ rfl), (all_snoc (fun x hx => (hN x hx).mono hs164_) (show RS _ 2 _ _ _ from hr169_))⟩, by first | omega | (dsimp only; omega) | (simp; omega)⟩
  refine AllR.cons ?_ AllR.nil
  have H173_ := ((Holds.bring H133_ 7 rfl) :)
  refine A_op (ls' := #[true, false, true, true, true, true, true, true, true, true, false, false, false, false, false]) rfl (by kernel_rfl) (T_call (al := [x51_.revs]) (pre := []) rfl rfl cb42 (kRevsOut R1 x51_.revs x51_.l (RS.mono hg56_ hsR1) (by first | assumption | omega)) H173_ ?_)
  rintro v172_ p177_ w174_ ⟨_, rfl, rfl⟩ S176_ H175_
  have S178_ := Same.trans S135_ S176_
  obtain ⟨-, a179_, cp180_, rfl, hle181_⟩ := Holds.sl_len H175_ 1 rfl
  refine ⟨⟨Holds.rd H175_ 4 rfl, (Holds.ro_at H175_ 0 rfl)⟩, ?_⟩
  have hq182_ := And.intro (Holds.rd H175_ 4 rfl) ((Holds.ro_at H175_ 0 rfl))
  refine A_tk 10 (v := (vA #[(vI .i64 x51_.ver), (vI .i64 x51_.created_Main), (vI .i64 x51_.created_Sub), (vS a179_ (List.length x51_.l) cp180_)])) rfl (by kernel_rfl) (fun w hS => by kernel_rfl) hq182_ ?_
  refine A_ready (i := 1) (rs := [11]) (by kernel_rfl) ?_
  refine AllR.cons ?_ ?_
  ·skip
   refine A_op (ls' := #[true, true, true, true, true, true, true, true, true, true, true, false, false, false, false]) rfl (by kernel_rfl) (T_val (v := gv) (x_load1 rfl Try.underlying32 rfl ((Holds.rd H175_ 6 rfl) 2 gv rfl)) ?_)
   refine ⟨⟨Holds.rd H175_ 4 rfl, (Holds.ro_at H175_ 0 rfl)⟩, ?_⟩
   refine A_ready (i := 11) (rs := []) (by kernel_rfl) ?_
   refine AllR.cons ?_ AllR.nil
   refine A_op (ls' := #[true, true, true, true, true, true, true, true, true, true, true, true, false, false, false]) rfl (by kernel_rfl) (T_new (obj := .cells #[(vI .i64 x51_.ver), (vI .i64 x51_.created_Main), (vI .i64 x51_.created_Sub), (vS a179_ (List.length x51_.l) cp180_)] 68) (f := fun b__ => .slice (some ⟨b__, 0, none⟩) 1 1) (A := fun b__ => cl b__ 68 [(vI .i64 x51_.ver), (vI .i64 x51_.created_Main), (vI .i64 x51_.created_Sub), (vS a179_ (List.length x51_.l) cp180_)]) (by kernel_rfl) (fun l h => h.alloc _ _) H175_ ?_)
   intro b183_ w184_ S186_ H185_
   have S187_ := Same.trans S178_ S186_
   refine ⟨⟨Holds.rd H185_ 5 rfl, (Holds.ro_at H185_ 1 rfl)⟩, ?_⟩
   refine A_ready (i := 12) (rs := []) (by kernel_rfl) ?_
   refine AllR.cons ?_ AllR.nil
   refine A_op (ls' := #[true, true, true, true, true, true, true, true, true, true, true, true, true, false, false]) rfl (by kernel_rfl) (T_append rfl rfl Try.underlying32 z68 rfl (by decide) H185_ 6 rfl (Holds.cl_src H185_ 0 rfl Try.underlying32 (by simp [Value.oneCell']) rfl) (by have hz_ := congrArg List.length hm; rw [List.length_map, List.length_map, List.length_take] at hz_; omega) ?_)
   intro v188_ w189_ S191_ H190_
   have S192_ := Same.trans S187_ S191_
   refine ⟨⟨Holds.rd H190_ 5 rfl, (Holds.ro_at H190_ 1 rfl)⟩, ?_⟩
   have hq193_ := And.intro (Holds.rd H190_ 5 rfl) ((Holds.ro_at H190_ 1 rfl))
   refine A_tk 13 (v := (vP (some ⟨b29_, 2, none⟩))) rfl (by kernel_rfl) (fun w hS => by kernel_rfl) hq193_ ?_
   refine A_ready (i := 14) (rs := []) (by kernel_rfl) ?_
   refine AllR.cons ?_ AllR.nil
   refine A_op0 (ls' := #[true, true, true, true, true, true, true, true, true, true, true, true, true, true, true]) rfl (by kernel_rfl) (T_store1 (v := v188_) rfl rfl z32 (Holds.sl_one H190_ 6 rfl) H190_ 7 rfl (Nat.le_of_ble_eq_true (by rfl)) ?_)
   intro w194_ S196_ H195_
   have S197_ := Same.trans S192_ S196_
   refine ⟨⟨Holds.rd H195_ 5 rfl, (Holds.ro_at H195_ 1 rfl)⟩, ?_⟩
   refine A_done (by kernel_rfl) ?_
   refine (X_blkN (X_then (hK49_ _ _ ?_)))
   clear hK49_
   refine C_reg ?_
   refine sv (v := (vI .i64 (k : Int))) (x_move rfl) ?_
   refine sv (v := (vI .i64 ((k : Int) + 1))) (x_bin rfl rfl (ib_add (IntWalk.i64_in _ (by omega)))) ?_
   refine sv (v := (vI .i64 ((k : Int) + 1))) (x_assign rfl) ?_
   refine wpList_nil (X_then ?_)
   have H198_ := ((Holds.bring (Holds.bring H195_ 2 rfl) 2 rfl) :)
   obtain ⟨R199_, hs200_, ⟨R201_, ha202_, hs203_⟩, H204_⟩ := Holds.gift H198_
   have hz_R_R199_ := Sub.trans' hsR1 hs200_
   have hr205_ : RS R199_ 2 (vS a179_ (List.length x51_.l) cp180_) (List.length x51_.l) (x51_.l.flatMap RV.cells) := (sl_RS ha202_ (Sub.rfl' _)).mono hs203_
   have H206_ := Holds.resl H204_ 5 rfl (by simp [GN.cells] : (N'.flatMap GN.cells) ++ [(vI .i64 x51_.ver), (vI .i64 x51_.created_Main), (vI .i64 x51_.created_Sub), (vS a179_ (List.length x51_.l) cp180_)] = (N' ++ [(⟨x51_.ver, x51_.created_Main, x51_.created_Sub, (vS a179_ (List.length x51_.l) cp180_), x51_.l⟩ : GN)]).flatMap GN.cells) (by simp : (List.length N') + 1 = (List.length (N' ++ [(⟨x51_.ver, x51_.created_Main, x51_.created_Sub, (vS a179_ (List.length x51_.l) cp180_), x51_.l⟩ : GN)])))
   have H207_ : Holds w194_ (sl 68 4 v188_ (List.length (N' ++ [(⟨x51_.ver, x51_.created_Main, x51_.created_Sub, (vS a179_ (List.length x51_.l) cp180_), x51_.l⟩ : GN)])) ((N' ++ [(⟨x51_.ver, x51_.created_Main, x51_.created_Sub, (vS a179_ (List.length x51_.l) cp180_), x51_.l⟩ : GN)]).flatMap GN.cells) :: cl b29_ 34 [(vI .i64 m), (vI .i64 n), v188_] :: cl b7_ 34 [(vI .i64 0), (vI .i64 0), (vS none 0 0)] :: cl b2_ 61 [(vI .i64 m), (vI .i64 n), v] :: ro R199_ :: F) := (Holds.pkF H206_ [5, 5, 5, 5, 0] 4 :)
   exact ⟨⟨R199_, k + 1, v188_, (N' ++ [(⟨x51_.ver, x51_.created_Main, x51_.created_Sub, (vS a179_ (List.length x51_.l) cp180_), x51_.l⟩ : GN)])⟩, ⟨_, congrArg (fun e => mkA 37 e []) (ch (ch (ch (ch rfl rfl) rfl) rfl) (congrArg (vI .i64) ((by first | rfl | omega | (simp; done) | (simp; omega)) : (k : Int) + 1 = ((k + 1 : Nat) : Int)))), H207_, S197_, (hz_R_R199_), (by first | assumption | omega | exact rfl), (map_m_snoc hm hx52_ rfl), (all_snoc (fun x hx => (hN x hx).mono hs200_) (show RS _ 2 _ _ _ from hr205_))⟩, by first | omega | (dsimp only; omega) | (simp; omega)⟩
  refine AllR.cons ?_ AllR.nil
  refine A_op (ls' := #[true, false, true, true, true, true, true, true, true, true, true, true, false, false, false]) rfl (by kernel_rfl) (T_new (obj := .cells #[(vI .i64 x51_.ver), (vI .i64 x51_.created_Main), (vI .i64 x51_.created_Sub), (vS a179_ (List.length x51_.l) cp180_)] 68) (f := fun b__ => .slice (some ⟨b__, 0, none⟩) 1 1) (A := fun b__ => cl b__ 68 [(vI .i64 x51_.ver), (vI .i64 x51_.created_Main), (vI .i64 x51_.created_Sub), (vS a179_ (List.length x51_.l) cp180_)]) (by kernel_rfl) (fun l h => h.alloc _ _) H175_ ?_)
  intro b208_ w209_ S211_ H210_
  have S212_ := Same.trans S178_ S211_
  refine ⟨⟨Holds.rd H210_ 5 rfl, (Holds.ro_at H210_ 1 rfl)⟩, ?_⟩
  refine A_ready (i := 1) (rs := []) (by kernel_rfl) ?_
  refine AllR.cons ?_ AllR.nil
  refine A_op (ls' := #[true, true, true, true, true, true, true, true, true, true, true, true, false, false, false]) rfl (by kernel_rfl) (T_val (v := gv) (x_load1 rfl Try.underlying32 rfl ((Holds.rd H210_ 7 rfl) 2 gv rfl)) ?_)
  refine ⟨⟨Holds.rd H210_ 5 rfl, (Holds.ro_at H210_ 1 rfl)⟩, ?_⟩
  refine A_ready (i := 12) (rs := []) (by kernel_rfl) ?_
  refine AllR.cons ?_ AllR.nil
  refine A_op (ls' := #[true, true, true, true, true, true, true, true, true, true, true, true, true, false, false]) rfl (by kernel_rfl) (T_append rfl rfl Try.underlying32 z68 rfl (by decide) H210_ 6 rfl (Holds.cl_src H210_ 0 rfl Try.underlying32 (by simp [Value.oneCell']) rfl) (by have hz_ := congrArg List.length hm; rw [List.length_map, List.length_map, List.length_take] at hz_; omega) ?_)
  intro v213_ w214_ S216_ H215_
  have S217_ := Same.trans S212_ S216_
  refine ⟨⟨Holds.rd H215_ 5 rfl, (Holds.ro_at H215_ 1 rfl)⟩, ?_⟩
  have hq218_ := And.intro (Holds.rd H215_ 5 rfl) ((Holds.ro_at H215_ 1 rfl))
  refine A_tk 13 (v := (vP (some ⟨b29_, 2, none⟩))) rfl (by kernel_rfl) (fun w hS => by kernel_rfl) hq218_ ?_
  refine A_ready (i := 14) (rs := []) (by kernel_rfl) ?_
  refine AllR.cons ?_ AllR.nil
  refine A_op0 (ls' := #[true, true, true, true, true, true, true, true, true, true, true, true, true, true, true]) rfl (by kernel_rfl) (T_store1 (v := v213_) rfl rfl z32 (Holds.sl_one H215_ 6 rfl) H215_ 7 rfl (Nat.le_of_ble_eq_true (by rfl)) ?_)
  intro w219_ S221_ H220_
  have S222_ := Same.trans S217_ S221_
  refine ⟨⟨Holds.rd H220_ 5 rfl, (Holds.ro_at H220_ 1 rfl)⟩, ?_⟩
  refine A_done (by kernel_rfl) ?_
  refine (X_blkN (X_then (hK49_ _ _ ?_)))
  clear hK49_
  refine C_reg ?_
  refine sv (v := (vI .i64 (k : Int))) (x_move rfl) ?_
  refine sv (v := (vI .i64 ((k : Int) + 1))) (x_bin rfl rfl (ib_add (IntWalk.i64_in _ (by omega)))) ?_
  refine sv (v := (vI .i64 ((k : Int) + 1))) (x_assign rfl) ?_
  refine wpList_nil (X_then ?_)
  have H223_ := ((Holds.bring (Holds.bring H220_ 2 rfl) 2 rfl) :)
  obtain ⟨R224_, hs225_, ⟨R226_, ha227_, hs228_⟩, H229_⟩ := Holds.gift H223_
  have hz_R_R224_ := Sub.trans' hsR1 hs225_
  have hr230_ : RS R224_ 2 (vS a179_ (List.length x51_.l) cp180_) (List.length x51_.l) (x51_.l.flatMap RV.cells) := (sl_RS ha227_ (Sub.rfl' _)).mono hs228_
  have H231_ := Holds.resl H229_ 5 rfl (by simp [GN.cells] : (N'.flatMap GN.cells) ++ [(vI .i64 x51_.ver), (vI .i64 x51_.created_Main), (vI .i64 x51_.created_Sub), (vS a179_ (List.length x51_.l) cp180_)] = (N' ++ [(⟨x51_.ver, x51_.created_Main, x51_.created_Sub, (vS a179_ (List.length x51_.l) cp180_), x51_.l⟩ : GN)]).flatMap GN.cells) (by simp : (List.length N') + 1 = (List.length (N' ++ [(⟨x51_.ver, x51_.created_Main, x51_.created_Sub, (vS a179_ (List.length x51_.l) cp180_), x51_.l⟩ : GN)])))
  have H232_ : Holds w219_ (sl 68 4 v213_ (List.length (N' ++ [(⟨x51_.ver, x51_.created_Main, x51_.created_Sub, (vS a179_ (List.length x51_.l) cp180_), x51_.l⟩ : GN)])) ((N' ++ [(⟨x51_.ver, x51_.created_Main, x51_.created_Sub, (vS a179_ (List.length x51_.l) cp180_), x51_.l⟩ : GN)]).flatMap GN.cells) :: cl b29_ 34 [(vI .i64 m), (vI .i64 n), v213_] :: cl b7_ 34 [(vI .i64 0), (vI .i64 0), (vS none 0 0)] :: cl b2_ 61 [(vI .i64 m), (vI .i64 n), v] :: ro R224_ :: F) := (Holds.pkF H231_ [5, 5, 5, 5, 0] 4 :)
  exact ⟨⟨R224_, k + 1, v213_, (N' ++ [(⟨x51_.ver, x51_.created_Main, x51_.created_Sub, (vS a179_ (List.length x51_.l) cp180_), x51_.l⟩ : GN)])⟩, ⟨_, congrArg (fun e => mkA 37 e []) (ch (ch (ch (ch rfl rfl) rfl) rfl) (congrArg (vI .i64) ((by first | rfl | omega | (simp; done) | (simp; omega)) : (k : Int) + 1 = ((k + 1 : Nat) : Int)))), H232_, S222_, (hz_R_R224_), (by first | assumption | omega | exact rfl), (map_m_snoc hm hx52_ rfl), (all_snoc (fun x hx => (hN x hx).mono hs225_) (show RS _ 2 _ _ _ from hr230_))⟩, by first | omega | (dsimp only; omega) | (simp; omega)⟩
 ·have c48_fp : ¬ ((k : Int) < ((List.length N) : Int)) := of_decide_eq_false c48_f
  refine C_exit (X_thenX (X_thenX (X_blkHit ?_)))
  refine (X_then (hK38_ _ _ ?_))
  clear hK38_
  refine C_seq (fun K233_ hK233_ => C_reg ?_)
  refine sv (v := (vA #[(vI .i64 m), (vI .i64 n), gv])) (x_loadN (vs := [(vI .i64 m), (vI .i64 n), gv]) rfl Try.underlying34 rfl z34 rfl (Rd.cells (Holds.rd H44_ 1 rfl) 0 rfl)) ?_
  refine S_list0 (T_storeN (vs := [(vI .i64 m), (vI .i64 n), gv]) rfl rfl z34 rfl (List.forall_mem_cons.2 ⟨rfl, (List.forall_mem_cons.2 ⟨rfl, (List.forall_mem_cons.2 ⟨(Holds.sl_one H44_ 0 rfl), (fun _ h__ => by cases h__)⟩)⟩)⟩) H44_ 2 rfl (Nat.le_of_ble_eq_true (by rfl)) ?_)
  intro w234_ S236_ H235_
  have S237_ := Same.trans S45_ S236_
  refine wpList_nil (X_then (hK233_ _ _ ?_))
  clear hK233_
  refine C_ret ?_
  refine R_any (v := (vA #[(vI .i64 m), (vI .i64 n), gv])) (run_results1 rfl ⟨_, rfl, load_resN Try.underlying34 rfl z34 rfl (vs := [(vI .i64 m), (vI .i64 n), gv]) (Holds.cl_cells H235_ 2 rfl 0 rfl)⟩) ?_
  have H238_ := ((Holds.bring H235_ 4 rfl) :)
  obtain ⟨R239_, hs240_, ⟨R241_, ha242_, hs243_⟩, H244_⟩ := Holds.gift H238_
  have hz_R_R239_ := Sub.trans' hsR1 hs240_
  have hr245_ : RS R239_ 4 gv (List.length N') (N'.flatMap GN.cells) := (sl_RS ha242_ (Sub.rfl' _)).mono hs243_
  rw [List.take_of_length_le (by omega)] at hm
  have H246_ : Holds w234_ (ro R239_ :: F) := (Holds.pkF H244_ [0] 3 :)
  exact ⟨R239_, _, _, rfl, hz_R_R239_, ⟨gv, N', rfl, rfl, (hm), (hr245_), (fun x hx => (hN x hx).mono hs240_)⟩, S237_, H246_⟩
end Go.Proofs.Ytiblemgccgbhoaa
set_option linter.unusedVariables false
set_option linter.unusedSimpArgs false
namespace Go.Proofs.Ytiblemgccgbhoaa
open Go Go.RowKit Gw
open Go.Value renaming int → vI, bool → vB, slice → vS, pointer → vP, agg → vA, tuple → vT

theorem gsrc {P : Program} {w : World} {l : List SP} {R : HP} {N T : List GN} {lv : Value} {ll : List RV} {x : GN} {t e' ty : Nat} (hN : ∀ x ∈ N, GOk R x) (hR : Sub R (hp w)) (hT : Tlk T lv ll) (H : Holds w l) (i : Nat) (hi : l[i]? = some (sl ty 2 lv ll.length (ll.flatMap RV.cells))) (hx : x ∈ N ++ T) (hk : P.underlying t = some (.slice e')) : Src P 2 t x.revs x.l.length (x.l.flatMap RV.cells) w := by
  rcases List.mem_append.1 hx with hx | hx
  · exact RS.src (hN x hx) hR hk (ones_RV _)
  · rcases hT with ⟨rfl, _, _⟩ | ⟨a, b, c, rfl⟩
    · cases hx
    · rcases List.mem_singleton.1 hx with rfl
      exact Holds.sl_src H i hi hk (ones_RV _)

theorem gone1 {w : World} {l : List SP} {R : HP} {N T : List GN} {lv : Value} {ll : List RV} {x : GN} {ty : Nat} (hN : ∀ x ∈ N, GOk R x) (hT : Tlk T lv ll) (H : Holds w l) (i : Nat) (hi : l[i]? = some (sl ty 2 lv ll.length (ll.flatMap RV.cells))) (hx : x ∈ N ++ T) : x.revs.oneCell' = true := by
  rcases List.mem_append.1 hx with hx | hx
  · exact RS.one (hN x hx)
  · rcases hT with ⟨rfl, _, _⟩ | ⟨a, b, c, rfl⟩
    · cases hx
    · rcases List.mem_singleton.1 hx with rfl
      exact Holds.sl_one H i hi

set_option maxHeartbeats 4000000 in
theorem kZzOut (R : HP) (kb : Nat) (ka : Option Addr) (kl kc : Nat) (m n : Int) (gv lv : Value) (N0 T : List GN) (ll : List RV) (hT : Tlk T lv ll) (hN : ∀ x ∈ N0, GOk R x) (hb1 : (N0 ++ T).length ≤ 100000) (hb2 : ∀ x ∈ N0 ++ T, x.l.length ≤ 100000) :
    TriG Try.prog 65 #[(vP (some ⟨kb, 0, none⟩))] R [cl kb 104 [(vS ka kl kc), (vI .i64 m), (vI .i64 n), gv], sl 106 4 gv (List.length (N0 ++ T)) ((N0 ++ T).flatMap GN.cells), sl 58 2 lv (List.length ll) (ll.flatMap RV.cells)] (fun R' v__ post__ => ∃ (v' : Value) (N' : List GN), v__ = (vA #[(vI .i64 m), (vI .i64 n), v']) ∧ post__ = [cl kb 104 [(vS ka kl kc), (vI .i64 m), (vI .i64 n), gv], sl 106 4 gv (List.length (N0 ++ T)) ((N0 ++ T).flatMap GN.cells), sl 58 2 lv (List.length ll) (ll.flatMap RV.cells)] ∧ (N'.map GN.m = (N0 ++ T).map GN.m) ∧ (RS R' 4 v' (List.length N') (N'.flatMap GN.cells)) ∧ (∀ x ∈ N', GOk R' x)) := by
 refine TriG.into (n := 35) (al := [(vP (some ⟨kb, 0, none⟩))]) Try.func65 rfl Try.ntmps65 rfl rfl fun w F H => ?_
 refine C_seq (fun K1_ hK1_ => C_reg ?_)
 refine S_list (T_alloc z61 H ?_)
 intro b2_ w3_ S5_ H4_
 have S6_ := Same.trans (Same.refl w) S5_
 refine wpList_nil (X_then (hK1_ _ _ ?_))
 clear hK1_
 refine C_seq (fun K7_ hK7_ => C_reg ?_)
 refine sv (v := (vP (some ⟨kb, 0, none⟩))) (x_move rfl) ?_
 refine sv (v := (vP (some ⟨kb, 0, none⟩))) (by kernel_rfl) ?_
 refine sv (v := (vP (some ⟨kb, 1, none⟩))) (by kernel_rfl) ?_
 refine sv (v := (vA #[(vI .i64 m), (vI .i64 n)])) (x_loadN (vs := [(vI .i64 m), (vI .i64 n)]) rfl Try.underlying58 rfl z58 rfl (Rd.cells (Holds.rd H4_ 2 rfl) 1 rfl)) ?_
 refine sv (v := (vA #[(vI .i64 m), (vI .i64 n), (vS none 0 0)])) (by kernel_rfl) ?_
 refine S_list (T_alloc z61 H4_ ?_)
 intro b8_ w9_ S11_ H10_
 have S12_ := Same.trans S6_ S11_
 refine S_list0 (T_storeN (vs := [(vI .i64 m), (vI .i64 n), (vS none 0 0)]) rfl rfl z61 rfl (by simp [Value.oneCell']) H10_ 0 rfl (Nat.le_of_ble_eq_true (by rfl)) ?_)
 intro w13_ S15_ H14_
 have S16_ := Same.trans S12_ S15_
 refine wpList_nil (X_then (hK7_ _ _ ?_))
 clear hK7_
 refine C_seq (fun K17_ hK17_ => ?_)
 refine C_seq (fun K18_ hK18_ => C_reg ?_)
 refine sv (v := (vP (some ⟨kb, 0, none⟩))) (x_move rfl) ?_
 refine sv (v := (vP (some ⟨kb, 0, none⟩))) (by kernel_rfl) ?_
 refine sv (v := (vP (some ⟨kb, 3, none⟩))) (by kernel_rfl) ?_
 refine sv (v := gv) (x_load1 rfl Try.underlying102 rfl ((Holds.rd H14_ 3 rfl) 3 gv rfl)) ?_
 refine sv (v := (vI .i64 ((List.length (N0 ++ T)) : Int))) (x_lenSl rfl H14_ 4 rfl Try.underlying102) ?_
 refine sv (v := (vI .i64 0)) (x_move rfl) ?_
 refine wpList_nil (X_then (hK18_ _ _ ?_))
 clear hK18_
 refine C_block ?_
 have H19_ : Holds w13_ (sl 83 4 (vS none 0 0) (List.length ([] : List GN)) (([] : List GN).flatMap GN.cells) :: cl b8_ 61 [(vI .i64 m), (vI .i64 n), (vS none 0 0)] :: cl b2_ 61 [(vI .i64 0), (vI .i64 0), (vS none 0 0)] :: ro R :: cl kb 104 [(vS ka kl kc), (vI .i64 m), (vI .i64 n), gv] :: sl 106 4 gv (List.length (N0 ++ T)) ((N0 ++ T).flatMap GN.cells) :: sl 58 2 lv (List.length ll) (ll.flatMap RV.cells) :: F) := Holds.add_nil H14_ 83 4
 have H20_ := Holds.recl H19_ 1 rfl ((lcons rfl (lcons rfl (lcons (rfl : (vS none 0 0) = ((vS none 0 0))) rfl))) : [(vI .i64 m), (vI .i64 n), (vS none 0 0)] = [(vI .i64 m), (vI .i64 n), ((vS none 0 0))])
 refine C_loop (γ := HP × Nat × Value × (List GN)) (fun x__ a__ w1__ => match x__ with | ⟨R1, k, gv2, N'⟩ => ∃ h : Env, a__ = mkA 35 (upd (upd (upd (upd (upd h 2 (vP (some ⟨b2_, 0, none⟩))) 3 (vP (some ⟨b8_, 0, none⟩))) 14 gv) 15 (vI .i64 ((List.length (N0 ++ T)) : Int))) 16 (vI .i64 (k : Int))) [] ∧ Holds w1__ (sl 83 4 gv2 (List.length N') (N'.flatMap GN.cells) :: cl b8_ 61 [(vI .i64 m), (vI .i64 n), gv2] :: cl b2_ 61 [(vI .i64 0), (vI .i64 0), (vS none 0 0)] :: ro R1 :: cl kb 104 [(vS ka kl kc), (vI .i64 m), (vI .i64 n), gv] :: sl 106 4 gv (List.length (N0 ++ T)) ((N0 ++ T).flatMap GN.cells) :: sl 58 2 lv (List.length ll) (ll.flatMap RV.cells) :: F) ∧ Same w w1__ ∧ (Sub R R1) ∧ (k ≤ (N0 ++ T).length) ∧ (N'.map GN.m = ((N0 ++ T).take k).map GN.m) ∧ (∀ x ∈ N', GOk R1 x)) (fun x__ => match x__ with | ⟨R1, k, gv2, N'⟩ => (N0 ++ T).length - k) (⟨R, 0, (vS none 0 0), ([] : List GN)⟩) ⟨_, congrArg (fun e => mkA 35 e []) (ch (ch (ch (ch (ch rfl rfl) rfl) rfl) rfl) (congrArg (vI .i64) ((by first | rfl | omega | (simp; done) | (simp; omega)) : 0 = (0 : Int)))), H20_, S16_, (Sub.rfl' _), (by first | assumption | omega | exact rfl), (rfl), (fun x hx => by cases hx)⟩ ?_
 rintro ⟨R1, k, gv2, N'⟩ _ w21_ ⟨h, rfl, H22_, S23_, hsR1, hk, hm, hN2⟩
 refine C_seq (fun K24_ hK24_ => C_reg ?_)
 refine sv (v := (vB (decide ((k : Int) < ((List.length (N0 ++ T)) : Int))))) (x_bin rfl rfl rfl) ?_
 refine wpList_nil (X_then (hK24_ _ _ ?_))
 clear hK24_
 refine C_seq (fun K25_ hK25_ => ?_)
 refine C_cond (b := decide ((k : Int) < ((List.length (N0 ++ T)) : Int))) rfl (fun c26_t => ?_) (fun c26_f => ?_)
 ·have c26_tp : (k : Int) < ((List.length (N0 ++ T)) : Int) := of_decide_eq_true c26_t
  refine C_skip (X_then (hK25_ _ _ ?_))
  clear hK25_
  refine C_seq (fun K27_ hK27_ => ?_)
  refine C_block ?_
  refine C_seq (fun K28_ hK28_ => C_reg ?_)
  have hr29_ := Holds.sl_RSw H22_ 5 rfl
  refine sv (v := (vP (some ⟨(sb gv), so gv + (k * 4 + 0), none⟩))) (x_idxSlR (v := gv) rfl hr29_ rfl Try.underlying102 z106 (by omega) (by omega) (by omega : _ = k) rfl) ?_
  obtain ⟨x30_, hx31_, hm32_⟩ := elem_at (N0 ++ T) k (by omega)
  have hxl_ := hb2 x30_ hm32_
  have ho33_ := gone1 hN hT H22_ 6 rfl hm32_
  refine sv (v := (vA #[(vI .i64 x30_.ver), (vI .i64 x30_.created_Main), (vI .i64 x30_.created_Sub), x30_.revs])) (x_loadN (vs := [(vI .i64 x30_.ver), (vI .i64 x30_.created_Main), (vI .i64 x30_.created_Sub), x30_.revs]) rfl Try.underlying106 rfl z106 rfl (SlRd.cells (Holds.slrd H22_ 5 rfl) (k * 4 + 0) (fm_cells GN.len hx31_ (i := 0) rfl))) ?_
  refine S_list (T_alloc z106 H22_ ?_)
  intro b34_ w35_ S37_ H36_
  have S38_ := Same.trans S23_ S37_
  refine S_list0 (T_storeN (vs := [(vI .i64 x30_.ver), (vI .i64 x30_.created_Main), (vI .i64 x30_.created_Sub), x30_.revs]) rfl rfl z106 rfl (List.forall_mem_cons.2 ⟨rfl, (List.forall_mem_cons.2 ⟨rfl, (List.forall_mem_cons.2 ⟨rfl, (List.forall_mem_cons.2 ⟨ho33_, (fun _ h__ => by cases h__)⟩)⟩)⟩)⟩) H36_ 0 rfl (Nat.le_of_ble_eq_true (by rfl)) ?_)
  intro w39_ S41_ H40_
  have S42_ := Same.trans S38_ S41_
  refine wpList_nil (X_then (hK28_ _ _ ?_))
  clear hK28_
  refine A_start (S := fun w => Rd b34_ [(vI .i64 x30_.ver), (vI .i64 x30_.created_Main), (vI .i64 x30_.created_Sub), x30_.revs] w ∧ SlRd gv ((N0 ++ T).flatMap GN.cells) w ∧ SlRd lv (ll.flatMap RV.cells) w ∧ Sub R1 (hp w)) (N := 14) foll rfl rfl ?_
  have H43_ := Holds.drew_ H40_
  have hq44_ := And.intro (Holds.rd H43_ 0 rfl) (And.intro (Holds.slrd H43_ 6 rfl) (And.intro (Holds.slrd H43_ 7 rfl) ((Holds.ro_at H43_ 4 rfl))))
  refine A_tk 0 (v := (vP (some ⟨b8_, 2, none⟩))) rfl (by kernel_rfl) (fun w hS => by kernel_rfl) hq44_ ?_
  refine A_tk 2 (v := (vP (some ⟨b34_, 0, none⟩))) rfl (by kernel_rfl) (fun w hS => by kernel_rfl) hq44_ ?_
  refine A_tk 3 (v := (vI .i64 x30_.ver)) rfl (by kernel_rfl) (fun w hS => x_load1 rfl Try.underlying2 rfl (hS.1 0 (vI .i64 x30_.ver) rfl)) hq44_ ?_
  refine A_tk 4 (v := (vP (some ⟨b34_, 1, none⟩))) rfl (by kernel_rfl) (fun w hS => by kernel_rfl) hq44_ ?_
  refine A_tk 5 (v := (vA #[(vI .i64 x30_.created_Main), (vI .i64 x30_.created_Sub)])) rfl (by kernel_rfl) (fun w hS => x_loadN (vs := [(vI .i64 x30_.created_Main), (vI .i64 x30_.created_Sub)]) rfl Try.underlying58 rfl z58 rfl (Rd.cells hS.1 1 rfl)) hq44_ ?_
  refine A_tk 6 (v := (vP (some ⟨b34_, 3, none⟩))) rfl (by kernel_rfl) (fun w hS => by kernel_rfl) hq44_ ?_
  refine A_tk 7 (v := x30_.revs) rfl (by kernel_rfl) (fun w hS => x_load1 rfl Try.underlying80 rfl (hS.1 3 x30_.revs rfl)) hq44_ ?_
  refine A_ready (i := 1) (rs := [8]) (by kernel_rfl) ?_
  refine AllR.cons ?_ ?_
  ·skip
   refine A_op (ls' := #[true, true, true, true, true, true, true, true, false, false, false, false, false, false]) rfl (by kernel_rfl) (T_val (v := gv2) (x_load1 rfl Try.underlying59 rfl ((Holds.rd H43_ 2 rfl) 2 gv2 rfl)) ?_)
   refine ⟨⟨Holds.rd H43_ 0 rfl, Holds.slrd H43_ 6 rfl, Holds.slrd H43_ 7 rfl, (Holds.ro_at H43_ 4 rfl)⟩, ?_⟩
   refine A_ready (i := 8) (rs := []) (by kernel_rfl) ?_
   refine AllR.cons ?_ AllR.nil
   have H45_ : Holds w39_.drew (sl 58 2 (.slice none 0 0) 0 [] :: cl b34_ 106 [(vI .i64 x30_.ver), (vI .i64 x30_.created_Main), (vI .i64 x30_.created_Sub), x30_.revs] :: sl 83 4 gv2 (List.length N') (N'.flatMap GN.cells) :: cl b8_ 61 [(vI .i64 m), (vI .i64 n), gv2] :: cl b2_ 61 [(vI .i64 0), (vI .i64 0), (vS none 0 0)] :: ro R1 :: cl kb 104 [(vS ka kl kc), (vI .i64 m), (vI .i64 n), gv] :: sl 106 4 gv (List.length (N0 ++ T)) ((N0 ++ T).flatMap GN.cells) :: sl 58 2 lv (List.length ll) (ll.flatMap RV.cells) :: F) := Holds.add_nil H43_ 58 2
   have hsrc47_ := gsrc (P := Try.prog) (t := 80) (fun x hx => (hN x hx).mono hsR1) (Holds.ro_at H45_ 5 rfl) hT H45_ 8 rfl hm32_ Try.underlying80
   refine A_op (ls' := #[true, true, true, true, true, true, true, true, true, false, false, false, false, false]) rfl (by kernel_rfl) (T_append rfl rfl Try.underlying80 z58 rfl (by decide) H45_ 0 rfl hsrc47_ (by omega) ?_)
   intro v46_ w48_ S50_ H49_
   have S51_ := Same.trans (Same.trans S42_ (Same.drew _)) S50_
   have H52_ := Holds.resl H49_ 0 rfl (by simp : [] ++ x30_.l.flatMap RV.cells = x30_.l.flatMap RV.cells) (by simp : 0 + List.length x30_.l = (List.length x30_.l))
   obtain ⟨-, a53_, cp54_, rfl, hle55_⟩ := Holds.sl_len H52_ 0 rfl
   refine ⟨⟨Holds.rd H52_ 1 rfl, Holds.slrd H52_ 7 rfl, Holds.slrd H52_ 8 rfl, (Holds.ro_at H52_ 5 rfl)⟩, ?_⟩
   have hq56_ := And.intro (Holds.rd H52_ 1 rfl) (And.intro (Holds.slrd H52_ 7 rfl) (And.intro (Holds.slrd H52_ 8 rfl) ((Holds.ro_at H52_ 5 rfl))))
   refine A_tk 9 (v := (vA #[(vI .i64 x30_.ver), (vI .i64 x30_.created_Main), (vI .i64 x30_.created_Sub), (vS a53_ (List.length x30_.l) cp54_)])) rfl (by kernel_rfl) (fun w hS => by kernel_rfl) hq56_ ?_
   refine A_ready (i := 10) (rs := []) (by kernel_rfl) ?_
   refine AllR.cons ?_ AllR.nil
   refine A_op (ls' := #[true, true, true, true, true, true, true, true, true, true, true, false, false, false]) rfl (by kernel_rfl) (T_new (obj := .cells #[(vI .i64 x30_.ver), (vI .i64 x30_.created_Main), (vI .i64 x30_.created_Sub), (vS a53_ (List.length x30_.l) cp54_)] 83) (f := fun b__ => .slice (some ⟨b__, 0, none⟩) 1 1) (A := fun b__ => cl b__ 83 [(vI .i64 x30_.ver), (vI .i64 x30_.created_Main), (vI .i64 x30_.created_Sub), (vS a53_ (List.length x30_.l) cp54_)]) (by kernel_rfl) (fun l h => h.alloc _ _) H52_ ?_)
   intro b57_ w58_ S60_ H59_
   have S61_ := Same.trans S51_ S60_
   refine ⟨⟨Holds.rd H59_ 2 rfl, Holds.slrd H59_ 8 rfl, Holds.slrd H59_ 9 rfl, (Holds.ro_at H59_ 6 rfl)⟩, ?_⟩
   refine A_ready (i := 11) (rs := []) (by kernel_rfl) ?_
   refine AllR.cons ?_ AllR.nil
   refine A_op (ls' := #[true, true, true, true, true, true, true, true, true, true, true, true, false, false]) rfl (by kernel_rfl) (T_append rfl rfl Try.underlying59 z83 rfl (by decide) H59_ 3 rfl (Holds.cl_src H59_ 0 rfl Try.underlying59 (by simp [Value.oneCell']) rfl) (by have hz_ := congrArg List.length hm; rw [List.length_map, List.length_map, List.length_take] at hz_; omega) ?_)
   intro v62_ w63_ S65_ H64_
   have S66_ := Same.trans S61_ S65_
   refine ⟨⟨Holds.rd H64_ 2 rfl, Holds.slrd H64_ 8 rfl, Holds.slrd H64_ 9 rfl, (Holds.ro_at H64_ 6 rfl)⟩, ?_⟩
   have hq67_ := And.intro (Holds.rd H64_ 2 rfl) (And.intro (Holds.slrd H64_ 8 rfl) (And.intro (Holds.slrd H64_ 9 rfl) ((Holds.ro_at H64_ 6 rfl))))
   refine A_tk 12 (v := (vP (some ⟨b8_, 2, none⟩))) rfl (by kernel_rfl) (fun w hS => by kernel_rfl) hq67_ ?_
   refine A_ready (i := 13) (rs := []) (by kernel_rfl) ?_
   refine AllR.cons ?_ AllR.nil
   refine A_op0 (ls' := #[true, true, true, true, true, true, true, true, true, true, true, true, true, true]) rfl (by kernel_rfl) (T_store1 (v := v62_) rfl rfl z59 (Holds.sl_one H64_ 3 rfl) H64_ 4 rfl (Nat.le_of_ble_eq_true (by rfl)) ?_)
   intro w68_ S70_ H69_
   have S71_ := Same.trans S66_ S70_
   refine ⟨⟨Holds.rd H69_ 2 rfl, Holds.slrd H69_ 8 rfl, Holds.slrd H69_ 9 rfl, (Holds.ro_at H69_ 6 rfl)⟩, ?_⟩
   refine A_done (by kernel_rfl) ?_
   refine (X_blkN (X_then (hK27_ _ _ ?_)))
   clear hK27_
   refine C_reg ?_
   refine sv (v := (vI .i64 ((k : Int) + 1))) (x_bin rfl rfl (ib_add (IntWalk.i64_in _ (by omega)))) ?_
   refine sv (v := (vI .i64 ((k : Int) + 1))) (x_move rfl) ?_
   refine wpList_nil (X_then ?_)
   have H72_ := ((Holds.bring (Holds.bring H69_ 1 rfl) 6 rfl) :)
   obtain ⟨R73_, hs74_, ⟨R75_, ha76_, hs77_⟩, H78_⟩ := Holds.gift H72_
   have hz_R_R73_ := Sub.trans' hsR1 hs74_
   have hr79_ : RS R73_ 2 (vS a53_ (List.length x30_.l) cp54_) (List.length x30_.l) (x30_.l.flatMap RV.cells) := (sl_RS ha76_ (Sub.rfl' _)).mono hs77_
   have H80_ := Holds.resl H78_ 3 rfl (by simp [GN.cells] : (N'.flatMap GN.cells) ++ [(vI .i64 x30_.ver), (vI .i64 x30_.created_Main), (vI .i64 x30_.created_Sub), (vS a53_ (List.length x30_.l) cp54_)] = (N' ++ [(⟨x30_.ver, x30_.created_Main, x30_.created_Sub, ((vS a53_ (List.length x30_.l) cp54_)), x30_.l⟩ : GN)]).flatMap GN.cells) (by simp : (List.length N') + 1 = (List.length (N' ++ [(⟨x30_.ver, x30_.created_Main, x30_.created_Sub, ((vS a53_ (List.length x30_.l) cp54_)), x30_.l⟩ : GN)])))
   have H81_ : Holds w68_ (sl 83 4 v62_ (List.length (N' ++ [(⟨x30_.ver, x30_.created_Main, x30_.created_Sub, ((vS a53_ (List.length x30_.l) cp54_)), x30_.l⟩ : GN)])) ((N' ++ [(⟨x30_.ver, x30_.created_Main, x30_.created_Sub, ((vS a53_ (List.length x30_.l) cp54_)), x30_.l⟩ : GN)]).flatMap GN.cells) :: cl b8_ 61 [(vI .i64 m), (vI .i64 n), v62_] :: cl b2_ 61 [(vI .i64 0), (vI .i64 0), (vS none 0 0)] :: ro R73_ :: cl kb 104 [(vS ka kl kc), (vI .i64 m), (vI .i64 n), gv] :: sl 106 4 gv (List.length (N0 ++ T)) ((N0 ++ T).flatMap GN.cells) :: sl 58 2 lv (List.length ll) (ll.flatMap RV.cells) :: F) := (Holds.pkF H80_ [3, 3, 3, 0, 2, 2, 2] 2 :)
   exact ⟨⟨R73_, k + 1, v62_, (N' ++ [(⟨x30_.ver, x30_.created_Main, x30_.created_Sub, ((vS a53_ (List.length x30_.l) cp54_)), x30_.l⟩ : GN)])⟩, ⟨_, congrArg (fun e => mkA 35 e []) (ch (ch (ch (ch (ch rfl rfl) rfl) rfl) rfl) (congrArg (vI .i64) ((by first | rfl | omega | (simp; done) | (simp; omega)) : (k : Int) + 1 = ((k + 1 : Nat) : Int)))), H81_, S71_, (hz_R_R73_), (by first | assumption | omega | exact rfl), (map_m_snoc hm hx31_ rfl), (all_snoc (fun x hx => (hN2 x hx).mono hs74_) (show RS _ 2 _ _ _ from hr79_))⟩, by first | omega | (dsimp only; omega) | (simp; omega)⟩
  refine AllR.cons ?_ AllR.nil
  have H82_ : Holds w39_.drew (sl 58 2 (.slice none 0 0) 0 [] :: cl b34_ 106 [(vI .i64 x30_.ver), (vI .i64 x30_.created_Main), (vI .i64 x30_.created_Sub), x30_.revs] :: sl 83 4 gv2 (List.length N') (N'.flatMap GN.cells) :: cl b8_ 61 [(vI .i64 m), (vI .i64 n), gv2] :: cl b2_ 61 [(vI .i64 0), (vI .i64 0), (vS none 0 0)] :: ro R1 :: cl kb 104 [(vS ka kl kc), (vI .i64 m), (vI .i64 n), gv] :: sl 106 4 gv (List.length (N0 ++ T)) ((N0 ++ T).flatMap GN.cells) :: sl 58 2 lv (List.length ll) (ll.flatMap RV.cells) :: F) := Holds.add_nil H43_ 58 2
  have hsrc84_ := gsrc (P := Try.prog) (t := 80) (fun x hx => (hN x hx).mono hsR1) (Holds.ro_at H82_ 5 rfl) hT H82_ 8 rfl hm32_ Try.underlying80
  refine A_op (ls' := #[true, false, true, true, true, true, true, true, true, false, false, false, false, false]) rfl (by kernel_rfl) (T_append rfl rfl Try.underlying80 z58 rfl (by decide) H82_ 0 rfl hsrc84_ (by omega) ?_)
  intro v83_ w85_ S87_ H86_
  have S88_ := Same.trans (Same.trans S42_ (Same.drew _)) S87_
  have H89_ := Holds.resl H86_ 0 rfl (by simp : [] ++ x30_.l.flatMap RV.cells = x30_.l.flatMap RV.cells) (by simp : 0 + List.length x30_.l = (List.length x30_.l))
  obtain ⟨-, a90_, cp91_, rfl, hle92_⟩ := Holds.sl_len H89_ 0 rfl
  refine ⟨⟨Holds.rd H89_ 1 rfl, Holds.slrd H89_ 7 rfl, Holds.slrd H89_ 8 rfl, (Holds.ro_at H89_ 5 rfl)⟩, ?_⟩
  have hq93_ := And.intro (Holds.rd H89_ 1 rfl) (And.intro (Holds.slrd H89_ 7 rfl) (And.intro (Holds.slrd H89_ 8 rfl) ((Holds.ro_at H89_ 5 rfl))))
  refine A_tk 9 (v := (vA #[(vI .i64 x30_.ver), (vI .i64 x30_.created_Main), (vI .i64 x30_.created_Sub), (vS a90_ (List.length x30_.l) cp91_)])) rfl (by kernel_rfl) (fun w hS => by kernel_rfl) hq93_ ?_
  refine A_ready (i := 1) (rs := [10]) (by kernel_rfl) ?_
  refine AllR.cons ?_ ?_
  ·skip
   refine A_op (ls' := #[true, true, true, true, true, true, true, true, true, true, false, false, false, false]) rfl (by kernel_rfl) (T_val (v := gv2) (x_load1 rfl Try.underlying59 rfl ((Holds.rd H89_ 3 rfl) 2 gv2 rfl)) ?_)
   refine ⟨⟨Holds.rd H89_ 1 rfl, Holds.slrd H89_ 7 rfl, Holds.slrd H89_ 8 rfl, (Holds.ro_at H89_ 5 rfl)⟩, ?_⟩
   refine A_ready (i := 10) (rs := []) (by kernel_rfl) ?_
   refine AllR.cons ?_ AllR.nil
   refine A_op (ls' := #[true, true, true, true, true, true, true, true, true, true, true, false, false, false]) rfl (by kernel_rfl) (T_new (obj := .cells #[(vI .i64 x30_.ver), (vI .i64 x30_.created_Main), (vI .i64 x30_.created_Sub), (vS a90_ (List.length x30_.l) cp91_)] 83) (f := fun b__ => .slice (some ⟨b__, 0, none⟩) 1 1) (A := fun b__ => cl b__ 83 [(vI .i64 x30_.ver), (vI .i64 x30_.created_Main), (vI .i64 x30_.created_Sub), (vS a90_ (List.length x30_.l) cp91_)]) (by kernel_rfl) (fun l h => h.alloc _ _) H89_ ?_)
   intro b94_ w95_ S97_ H96_
   have S98_ := Same.trans S88_ S97_
   refine ⟨⟨Holds.rd H96_ 2 rfl, Holds.slrd H96_ 8 rfl, Holds.slrd H96_ 9 rfl, (Holds.ro_at H96_ 6 rfl)⟩, ?_⟩
   refine A_ready (i := 11) (rs := []) (by kernel_rfl) ?_
   refine AllR.cons ?_ AllR.nil
   refine A_op (ls' := #[true, true, true, true, true, true, true, true, true, true, true, true, false, false]) rfl (by kernel_rfl) (T_append rfl rfl Try.underlying59 z83 rfl (by decide) H96_ 3 rfl (Holds.cl_src H96_ 0 rfl Try.underlying59 (by simp [Value.oneCell']) rfl) (by have hz_ := congrArg List.length hm; rw [List.length_map, List.length_map, List.length_take] at hz_; omega) ?_)
   intro v99_ w100_ S102_ H101_
   have S103_ := Same.trans S98_ S102_
   refine ⟨⟨Holds.rd H101_ 2 rfl, Holds.slrd H101_ 8 rfl, Holds.slrd H101_ 9 rfl, (Holds.ro_at H101_ 6 rfl)⟩, ?_⟩
   have hq104_ := And.intro (Holds.rd H101_ 2 rfl) (And.intro (Holds.slrd H101_ 8 rfl) (And.intro (Holds.slrd H101_ 9 rfl) ((Holds.ro_at H101_ 6 rfl))))
   refine A_tk 12 (v := (vP (some ⟨b8_, 2, none⟩))) rfl (by kernel_rfl) (fun w hS => by kernel_rfl) hq104_ ?_
   refine A_ready (i := 13) (rs := []) (by kernel_rfl) ?_
   refine AllR.cons ?_ AllR.nil
   refine A_op0 (ls' := #[true, true, true, true, true, true, true, true, true, true, true, true, true, true]) rfl (by kernel_rfl) (T_store1 (v := v99_) rfl rfl z59 (Holds.sl_one H101_ 3 rfl) H101_ 4 rfl (Nat.le_of_ble_eq_true (by rfl)) ?_)
   intro w105_ S107_ H106_
   have S108_ := Same.trans S103_ S107_
   refine ⟨⟨Holds.rd H106_ 2 rfl, Holds.slrd H106_ 8 rfl, Holds.slrd H106_ 9 rfl, (Holds.ro_at H106_ 6 rfl)⟩, ?_⟩
   refine A_done (by kernel_rfl) ?_
   refine (X_blkN (X_then (hK27_ _ _ ?_)))
   clear hK27_
   refine C_reg ?_
   refine sv (v := (vI .i64 ((k : Int) + 1))) (x_bin rfl rfl (ib_add (IntWalk.i64_in _ (by omega)))) ?_
   refine sv (v := (vI .i64 ((k : Int) + 1))) (x_move rfl) ?_
   refine wpList_nil (X_then ?_)
   have H109_ := ((Holds.bring (Holds.bring H106_ 1 rfl) 6 rfl) :)
   obtain ⟨R110_, hs111_, ⟨R112_, ha113_, hs114_⟩, H115_⟩ := Holds.gift H109_
   have hz_R_R110_ := Sub.trans' hsR1 hs111_
   have hr116_ : RS R110_ 2 (vS a90_ (List.length x30_.l) cp91_) (List.length x30_.l) (x30_.l.flatMap RV.cells) := (sl_RS ha113_ (Sub.rfl' _)).mono hs114_
   have H117_ := Holds.resl H115_ 3 rfl (by simp [GN.cells] : (N'.flatMap GN.cells) ++ [(vI .i64 x30_.ver), (vI .i64 x30_.created_Main), (vI .i64 x30_.created_Sub), (vS a90_ (List.length x30_.l) cp91_)] = (N' ++ [(⟨x30_.ver, x30_.created_Main, x30_.created_Sub, ((vS a90_ (List.length x30_.l) cp91_)), x30_.l⟩ : GN)]).flatMap GN.cells) (by simp : (List.length N') + 1 = (List.length (N' ++ [(⟨x30_.ver, x30_.created_Main, x30_.created_Sub, ((vS a90_ (List.length x30_.l) cp91_)), x30_.l⟩ : GN)])))
   have H118_ : Holds w105_ (sl 83 4 v99_ (List.length (N' ++ [(⟨x30_.ver, x30_.created_Main, x30_.created_Sub, ((vS a90_ (List.length x30_.l) cp91_)), x30_.l⟩ : GN)])) ((N' ++ [(⟨x30_.ver, x30_.created_Main, x30_.created_Sub, ((vS a90_ (List.length x30_.l) cp91_)), x30_.l⟩ : GN)]).flatMap GN.cells) :: cl b8_ 61 [(vI .i64 m), (vI .i64 n), v99_] :: cl b2_ 61 [(vI .i64 0), (vI .i64 0), (vS none 0 0)] :: ro R110_ :: cl kb 104 [(vS ka kl kc), (vI .i64 m), (vI .i64 n), gv] :: sl 106 4 gv (List.length (N0 ++ T)) ((N0 ++ T).flatMap GN.cells) :: sl 58 2 lv (List.length ll) (ll.flatMap RV.cells) :: F) := (Holds.pkF H117_ [3, 3, 3, 0, 2, 2, 2] 2 :)
   exact ⟨⟨R110_, k + 1, v99_, (N' ++ [(⟨x30_.ver, x30_.created_Main, x30_.created_Sub, ((vS a90_ (List.length x30_.l) cp91_)), x30_.l⟩ : GN)])⟩, ⟨_, congrArg (fun e => mkA 35 e []) (ch (ch (ch (ch (ch rfl rfl) rfl) rfl) rfl) (congrArg (vI .i64) ((by first | rfl | omega | (simp; done) | (simp; omega)) : (k : Int) + 1 = ((k + 1 : Nat) : Int)))), H118_, S108_, (hz_R_R110_), (by first | assumption | omega | exact rfl), (map_m_snoc hm hx31_ rfl), (all_snoc (fun x hx => (hN2 x hx).mono hs111_) (show RS _ 2 _ _ _ from hr116_))⟩, by first | omega | (dsimp only; omega) | (simp; omega)⟩
  refine AllR.cons ?_ AllR.nil
  refine A_op (ls' := #[true, false, true, true, true, true, true, true, true, true, true, false, false, false]) rfl (by kernel_rfl) (T_new (obj := .cells #[(vI .i64 x30_.ver), (vI .i64 x30_.created_Main), (vI .i64 x30_.created_Sub), (vS a90_ (List.length x30_.l) cp91_)] 83) (f := fun b__ => .slice (some ⟨b__, 0, none⟩) 1 1) (A := fun b__ => cl b__ 83 [(vI .i64 x30_.ver), (vI .i64 x30_.created_Main), (vI .i64 x30_.created_Sub), (vS a90_ (List.length x30_.l) cp91_)]) (by kernel_rfl) (fun l h => h.alloc _ _) H89_ ?_)
  intro b119_ w120_ S122_ H121_
  have S123_ := Same.trans S88_ S122_
  refine ⟨⟨Holds.rd H121_ 2 rfl, Holds.slrd H121_ 8 rfl, Holds.slrd H121_ 9 rfl, (Holds.ro_at H121_ 6 rfl)⟩, ?_⟩
  refine A_ready (i := 1) (rs := []) (by kernel_rfl) ?_
  refine AllR.cons ?_ AllR.nil
  refine A_op (ls' := #[true, true, true, true, true, true, true, true, true, true, true, false, false, false]) rfl (by kernel_rfl) (T_val (v := gv2) (x_load1 rfl Try.underlying59 rfl ((Holds.rd H121_ 4 rfl) 2 gv2 rfl)) ?_)
  refine ⟨⟨Holds.rd H121_ 2 rfl, Holds.slrd H121_ 8 rfl, Holds.slrd H121_ 9 rfl, (Holds.ro_at H121_ 6 rfl)⟩, ?_⟩
  refine A_ready (i := 11) (rs := []) (by kernel_rfl) ?_
  refine AllR.cons ?_ AllR.nil
  refine A_op (ls' := #[true, true, true, true, true, true, true, true, true, true, true, true, false, false]) rfl (by kernel_rfl) (T_append rfl rfl Try.underlying59 z83 rfl (by decide) H121_ 3 rfl (Holds.cl_src H121_ 0 rfl Try.underlying59 (by simp [Value.oneCell']) rfl) (by have hz_ := congrArg List.length hm; rw [List.length_map, List.length_map, List.length_take] at hz_; omega) ?_)
  intro v124_ w125_ S127_ H126_
  have S128_ := Same.trans S123_ S127_
  refine ⟨⟨Holds.rd H126_ 2 rfl, Holds.slrd H126_ 8 rfl, Holds.slrd H126_ 9 rfl, (Holds.ro_at H126_ 6 rfl)⟩, ?_⟩
  have hq129_ := And.intro (Holds.rd H126_ 2 rfl) (And.intro (Holds.slrd H126_ 8 rfl) (And.intro (Holds.slrd H126_ 9 rfl) ((Holds.ro_at H126_ 6 rfl))))
  refine A_tk 12 (v := (vP (some ⟨b8_, 2, none⟩))) rfl (by kernel_rfl) (fun w hS => by kernel_rfl) hq129_ ?_
  refine A_ready (i := 13) (rs := []) (by kernel_rfl) ?_
  refine AllR.cons ?_ AllR.nil
  refine A_op0 (ls' := #[true, true, true, true, true, true, true, true, true, true, true, true, true, true]) rfl (by kernel_rfl) (T_store1 (v := v124_) rfl rfl z59 (Holds.sl_one H126_ 3 rfl) H126_ 4 rfl (Nat.le_of_ble_eq_true (by rfl)) ?_)
  intro w130_ S132_ H131_
  have S133_ := Same.trans S128_ S132_
  refine ⟨⟨Holds.rd H131_ 2 rfl, Holds.slrd H131_ 8 rfl, Holds.slrd H131_ 9 rfl, (Holds.ro_at H131_ 6 rfl)⟩, ?_⟩
  refine A_done (by kernel_rfl) ?_
  refine (X_blkN (X_then (hK27_ _ _ ?_)))
  clear hK27_
  refine C_reg ?_
  refine sv (v := (vI .i64 ((k : Int) + 1))) (x_bin rfl rfl (ib_add (IntWalk.i64_in _ (by omega)))) ?_
  refine sv (v := (vI .i64 ((k : Int) + 1))) (x_move rfl) ?_
  refine wpList_nil (X_then ?_)
  have H134_ := ((Holds.bring (Holds.bring H131_ 1 rfl) 6 rfl) :)
  obtain ⟨R135_, hs136_, ⟨R137_, ha138_, hs139_⟩, H140_⟩ := Holds.gift H134_
  have hz_R_R135_ := Sub.trans' hsR1 hs136_
  have hr141_ : RS R135_ 2 (vS a90_ (List.length x30_.l) cp91_) (List.length x30_.l) (x30_.l.flatMap RV.cells) := (sl_RS ha138_ (Sub.rfl' _)).mono hs139_
  have H142_ := Holds.resl H140_ 3 rfl (by simp [GN.cells] : (N'.flatMap GN.cells) ++ [(vI .i64 x30_.ver), (vI .i64 x30_.created_Main), (vI .i64 x30_.created_Sub), (vS a90_ (List.length x30_.l) cp91_)] = (N' ++ [(⟨x30_.ver, x30_.created_Main, x30_.created_Sub, ((vS a90_ (List.length x30_.l) cp91_)), x30_.l⟩ : GN)]).flatMap GN.cells) (by simp : (List.length N') + 1 = (List.length (N' ++ [(⟨x30_.ver, x30_.created_Main, x30_.created_Sub, ((vS a90_ (List.length x30_.l) cp91_)), x30_.l⟩ : GN)])))
  have H143_ : Holds w130_ (sl 83 4 v124_ (List.length (N' ++ [(⟨x30_.ver, x30_.created_Main, x30_.created_Sub, ((vS a90_ (List.length x30_.l) cp91_)), x30_.l⟩ : GN)])) ((N' ++ [(⟨x30_.ver, x30_.created_Main, x30_.created_Sub, ((vS a90_ (List.length x30_.l) cp91_)), x30_.l⟩ : GN)]).flatMap GN.cells) :: cl b8_ 61 [(vI .i64 m), (vI .i64 n), v124_] :: cl b2_ 61 [(vI .i64 0), (vI .i64 0), (vS none 0 0)] :: ro R135_ :: cl kb 104 [(vS ka kl kc), (vI .i64 m), (vI .i64 n), gv] :: sl 106 4 gv (List.length (N0 ++ T)) ((N0 ++ T).flatMap GN.cells) :: sl 58 2 lv (List.length ll) (ll.flatMap RV.cells) :: F) := (Holds.pkF H142_ [3, 3, 3, 0, 2, 2, 2] 2 :)
  exact ⟨⟨R135_, k + 1, v124_, (N' ++ [(⟨x30_.ver, x30_.created_Main, x30_.created_Sub, ((vS a90_ (List.length x30_.l) cp91_)), x30_.l⟩ : GN)])⟩, ⟨_, congrArg (fun e => mkA 35 e []) (ch (ch (ch (ch (ch rfl rfl) rfl) rfl) rfl) (congrArg (vI .i64) ((by first | rfl | omega | (simp; done) | (simp; omega)) : (k : Int) + 1 = ((k + 1 : Nat) : Int)))), H143_, S133_, (hz_R_R135_), (by first | assumption | omega | exact rfl), (map_m_snoc hm hx31_ rfl), (all_snoc (fun x hx => (hN2 x hx).mono hs136_) (show RS _ 2 _ _ _ from hr141_))⟩, by first | omega | (dsimp only; omega) | (simp; omega)⟩
 ·have c26_fp : ¬ ((k : Int) < ((List.length (N0 ++ T)) : Int)) := of_decide_eq_false c26_f
  refine C_exit (X_thenX (X_thenX (X_blkHit ?_)))
  refine (X_then (hK17_ _ _ ?_))
  clear hK17_
  refine C_seq (fun K144_ hK144_ => C_reg ?_)
  refine sv (v := (vA #[(vI .i64 m), (vI .i64 n), gv2])) (x_loadN (vs := [(vI .i64 m), (vI .i64 n), gv2]) rfl Try.underlying61 rfl z61 rfl (Rd.cells (Holds.rd H22_ 1 rfl) 0 rfl)) ?_
  refine S_list0 (T_storeN (vs := [(vI .i64 m), (vI .i64 n), gv2]) rfl rfl z61 rfl (List.forall_mem_cons.2 ⟨rfl, (List.forall_mem_cons.2 ⟨rfl, (List.forall_mem_cons.2 ⟨(Holds.sl_one H22_ 0 rfl), (fun _ h__ => by cases h__)⟩)⟩)⟩) H22_ 2 rfl (Nat.le_of_ble_eq_true (by rfl)) ?_)
  intro w145_ S147_ H146_
  have S148_ := Same.trans S23_ S147_
  refine wpList_nil (X_then (hK144_ _ _ ?_))
  clear hK144_
  refine C_ret ?_
  refine R_any (v := (vA #[(vI .i64 m), (vI .i64 n), gv2])) (run_results1 rfl ⟨_, rfl, load_resN Try.underlying61 rfl z61 rfl (vs := [(vI .i64 m), (vI .i64 n), gv2]) (Holds.cl_cells H146_ 2 rfl 0 rfl)⟩) ?_
  have H149_ := ((Holds.bring H146_ 3 rfl) :)
  obtain ⟨R150_, hs151_, ⟨R152_, ha153_, hs154_⟩, H155_⟩ := Holds.gift H149_
  have hz_R_R150_ := Sub.trans' hsR1 hs151_
  have hr156_ : RS R150_ 4 gv2 (List.length N') (N'.flatMap GN.cells) := (sl_RS ha153_ (Sub.rfl' _)).mono hs154_
  rw [List.take_of_length_le (by omega)] at hm
  have H157_ : Holds w145_ (ro R150_ :: cl kb 104 [(vS ka kl kc), (vI .i64 m), (vI .i64 n), gv] :: sl 106 4 gv (List.length (N0 ++ T)) ((N0 ++ T).flatMap GN.cells) :: sl 58 2 lv (List.length ll) (ll.flatMap RV.cells) :: F) := (Holds.pkF H155_ [0, 2, 2, 2] 2 :)
  exact ⟨R150_, _, _, rfl, hz_R_R150_, ⟨gv2, N', rfl, rfl, (hm), (hr156_), (fun x hx => (hN2 x hx).mono hs151_)⟩, S148_, H157_⟩
end Go.Proofs.Ytiblemgccgbhoaa
set_option linter.unusedVariables false
set_option linter.unusedSimpArgs false
namespace Go.Proofs.Ytiblemgccgbhoaa
open Go Go.RowKit Gw
open Go.Value renaming int → vI, bool → vB, slice → vS, pointer → vP, agg → vA, tuple → vT

def gEnd (g : GM) : Int := (g.l.getLast?.map RV.main).getD 0
def gBeg (g : GM) : Int := (g.l.head?.map RV.main).getD 0
/-- The life at a number, among the first n of some lives. -/
def iFindN (G : List GM) (at_ : Int) : Nat → Option Nat
  | 0 => none
  | c + 1 => match G[c]? with
    | none => none
    | some g => if g.l.length = 0 then iFindN G at_ c else if c + 1 ≠ G.length ∧ gEnd g ≤ at_ then none else if gBeg g ≤ at_ then some c else iFindN G at_ c
def iFind (G : List GM) (at_ : Int) : Option Nat := iFindN G at_ G.length
section
variable {N : List GN} {at_ : Int} {c : Nat} {x : GN} {y z : RV}
theorem gmap_at (h : N[((c : Int) - 1).toNat]? = some x) (hc : 0 < c) : (N.map GN.m)[c - 1]? = some x.m ∧ c = c - 1 + 1 := by
  rw [show ((c : Int) - 1).toNat = c - 1 by omega] at h
  exact ⟨by rw [List.getElem?_map, h]; rfl, by omega⟩
theorem gEnd_at (h : x.l[((x.l.length : Int) - 1).toNat]? = some y) : gEnd x.m = y.main := by
  rw [show ((x.l.length : Int) - 1).toNat = x.l.length - 1 by omega] at h
  unfold gEnd
  rw [List.getLast?_eq_getElem?, show x.m.l = x.l from rfl, h]; rfl
theorem gBeg_at (h : x.l[0]? = some z) : gBeg x.m = z.main := by
  unfold gBeg
  rw [List.head?_eq_getElem?, show x.m.l = x.l from rfl, h]; rfl
theorem iFind_empty (h : N[((c : Int) - 1).toNat]? = some x) (hc : 0 < c) (he : (x.l.length : Int) = 0) : iFindN (N.map GN.m) at_ c = iFindN (N.map GN.m) at_ (c - 1) := by
  obtain ⟨h1, h2⟩ := gmap_at h hc
  rw [h2, iFindN, h1]
  simp only [show x.m.l.length = 0 from by show x.l.length = 0; omega, if_true, Nat.add_sub_cancel]
theorem iFind_ended (h : N[((c : Int) - 1).toNat]? = some x) (hc : 0 < c) (he : ¬ (x.l.length : Int) = 0) (hl : (c : Int) - 1 ≠ (N.length : Int) - 1) (hy : x.l[((x.l.length : Int) - 1).toNat]? = some y) (ha : y.main ≤ at_) : iFindN (N.map GN.m) at_ c = none := by
  obtain ⟨h1, h2⟩ := gmap_at h hc
  rw [h2, iFindN, h1]
  simp only [if_neg (show ¬ x.m.l.length = 0 from fun e => he (by rw [show x.m.l = x.l from rfl] at e; omega)), gEnd_at hy, List.length_map]
  rw [if_pos ⟨by omega, ha⟩]
theorem iFind_yes (h : N[((c : Int) - 1).toNat]? = some x) (hc : 0 < c) (he : ¬ (x.l.length : Int) = 0) (hl : (c : Int) - 1 = (N.length : Int) - 1 ∨ ∃ y, x.l[((x.l.length : Int) - 1).toNat]? = some y ∧ ¬ y.main ≤ at_) (hz : x.l[0]? = some z) (ha : z.main ≤ at_) : iFindN (N.map GN.m) at_ c = some ((c : Int) - 1).toNat := by
  obtain ⟨h1, h2⟩ := gmap_at h hc
  rw [h2, iFindN, h1]
  simp only [if_neg (show ¬ x.m.l.length = 0 from fun e => he (by rw [show x.m.l = x.l from rfl] at e; omega)), List.length_map]
  rw [if_neg, gBeg_at hz, if_pos ha, show ((c - 1 + 1 : Nat) : Int) - 1 = ((c - 1 : Nat) : Int) by omega, Int.toNat_natCast]
  rintro ⟨h3, h4⟩
  rcases hl with hl | ⟨y, hy, hl⟩
  · omega
  · rw [gEnd_at hy] at h4; exact hl h4
theorem iFind_no (h : N[((c : Int) - 1).toNat]? = some x) (hc : 0 < c) (he : ¬ (x.l.length : Int) = 0) (hl : (c : Int) - 1 = (N.length : Int) - 1 ∨ ∃ y, x.l[((x.l.length : Int) - 1).toNat]? = some y ∧ ¬ y.main ≤ at_) (hz : x.l[0]? = some z) (ha : ¬ z.main ≤ at_) : iFindN (N.map GN.m) at_ c = iFindN (N.map GN.m) at_ (c - 1) := by
  obtain ⟨h1, h2⟩ := gmap_at h hc
  conv => lhs; rw [h2, iFindN, h1]
  simp only [if_neg (show ¬ x.m.l.length = 0 from fun e => he (by rw [show x.m.l = x.l from rfl] at e; omega)), List.length_map]
  rw [if_neg, gBeg_at hz, if_neg ha]
  rintro ⟨h3, h4⟩
  rcases hl with hl | ⟨y, hy, hl⟩
  · omega
  · rw [gEnd_at hy] at h4; exact hl h4
end


set_option maxHeartbeats 4000000 in
theorem kFind (R : HP) (kb : Nat) (ka : Option Addr) (kl kc : Nat) (m n : Int) (gv : Value) (N : List GN) (at_ : Int) (h1 : RS R 4 gv (List.length N) (N.flatMap GN.cells)) (hg1 : ∀ x ∈ N, GOk R x) (hb1 : N.length ≤ 100000) (hb2 : ∀ x ∈ N, x.l.length ≤ 100000) :
    Tri Try.prog 70 #[(vP (some ⟨kb, 0, none⟩)), (vI .i64 at_)] R [cl kb 104 [(vS ka kl kc), (vI .i64 m), (vI .i64 n), gv]] (fun v__ post__ => (v__ = (vP none) ∧ post__ = [cl kb 104 [(vS ka kl kc), (vI .i64 m), (vI .i64 n), gv]] ∧ (iFind (N.map GN.m) at_ = none)) ∨ (∃ (j : Nat) (x : GN), v__ = (vP (some ⟨(sb gv), so gv + (j * 4 + 0), none⟩)) ∧ post__ = [cl kb 104 [(vS ka kl kc), (vI .i64 m), (vI .i64 n), gv]] ∧ (iFind (N.map GN.m) at_ = some j) ∧ (N[j]? = some x))) := by
 refine Tri.into (n := 67) (al := [(vP (some ⟨kb, 0, none⟩)), (vI .i64 at_)]) Try.func70 rfl Try.ntmps70 rfl rfl fun w F H => ?_
 refine C_seq (fun K1_ hK1_ => C_reg ?_)
 refine sv (v := (vP none)) (x_assign rfl) ?_
 refine wpList_nil (X_then (hK1_ _ _ ?_))
 clear hK1_
 refine C_seq (fun K2_ hK2_ => C_reg ?_)
 refine sv (v := (vP (some ⟨kb, 0, none⟩))) (x_move rfl) ?_
 refine sv (v := (vP (some ⟨kb, 0, none⟩))) (by kernel_rfl) ?_
 refine sv (v := (vP (some ⟨kb, 3, none⟩))) (by kernel_rfl) ?_
 refine sv (v := gv) (x_load1 rfl Try.underlying102 rfl ((Holds.rd H 1 rfl) 3 gv rfl)) ?_
 refine sv (v := (vI .i64 ((List.length N) : Int))) (x_lenRS rfl h1 Try.underlying102) ?_
 refine sv (v := (vI .i64 (((List.length N) : Int) - 1))) (x_bin rfl rfl (ib_sub (IntWalk.i64_in _ (by omega)))) ?_
 refine sv (v := (vI .i64 (((List.length N) : Int) - 1))) (x_assign rfl) ?_
 refine wpList_nil (X_then (hK2_ _ _ ?_))
 clear hK2_
 refine C_seq (fun K3_ hK3_ => C_reg ?_)
 refine sv (v := (vI .i64 (((List.length N) : Int) - 1))) (x_move rfl) ?_
 refine sv (v := (vI .i64 (((List.length N) : Int) - 1))) (x_assign rfl) ?_
 refine wpList_nil (X_then (hK3_ _ _ ?_))
 clear hK3_
 refine C_seq (fun K4_ hK4_ => ?_)
 refine C_block ?_
 refine C_loop (γ := Nat × Value) (fun x__ a__ w1__ => match x__ with | ⟨c, t4_v⟩ => ∃ h : Env, a__ = mkA 67 (upd (upd (upd (upd (upd h 0 (vP (some ⟨kb, 0, none⟩))) 1 (vI .i64 at_)) 4 t4_v) 5 (vI .i64 (((List.length N) : Int) - 1))) 6 (vI .i64 ((c : Int) - 1))) [] ∧ Holds w1__ (ro R :: cl kb 104 [(vS ka kl kc), (vI .i64 m), (vI .i64 n), gv] :: F) ∧ Same w w1__ ∧ (c ≤ N.length) ∧ (iFindN (N.map GN.m) at_ N.length = iFindN (N.map GN.m) at_ c)) (fun x__ => match x__ with | ⟨c, t4_v⟩ => c) (⟨N.length, (vP none)⟩) ⟨_, congrArg (fun e => mkA 67 e []) (ch (ch (ch (ch (ch rfl rfl) rfl) (rfl : (vP none) = ((vP none)))) rfl) (congrArg (vI .i64) ((by first | rfl | omega | (simp; done) | (simp; omega)) : ((List.length N) : Int) - 1 = (N.length : Int) - 1))), H, (Same.refl w), (by first | assumption | omega | exact rfl), (rfl)⟩ ?_
 rintro ⟨c, t4_v⟩ _ w5_ ⟨h, rfl, H6_, S7_, hc, hin⟩
 refine C_seq (fun K8_ hK8_ => ?_)
 refine C_seq (fun K9_ hK9_ => C_reg ?_)
 refine sv (v := (vI .i64 ((c : Int) - 1))) (x_move rfl) ?_
 refine sv (v := (vB (decide (0 ≤ (c : Int) - 1)))) (x_bin rfl rfl rfl) ?_
 refine wpList_nil (X_then (hK9_ _ _ ?_))
 clear hK9_
 refine C_cond (b := decide (0 ≤ (c : Int) - 1)) rfl (fun c10_t => ?_) (fun c10_f => ?_)
 ·have c10_tp : 0 ≤ (c : Int) - 1 := of_decide_eq_true c10_t
  refine C_skip (X_then (hK8_ _ _ ?_))
  clear hK8_
  refine C_block ?_
  refine C_seq (fun K11_ hK11_ => ?_)
  refine C_seq (fun K12_ hK12_ => C_reg ?_)
  refine sv (v := (vP (some ⟨kb, 0, none⟩))) (x_move rfl) ?_
  refine sv (v := (vP (some ⟨kb, 0, none⟩))) (by kernel_rfl) ?_
  refine sv (v := (vP (some ⟨kb, 3, none⟩))) (by kernel_rfl) ?_
  refine sv (v := gv) (x_load1 rfl Try.underlying102 rfl ((Holds.rd H6_ 1 rfl) 3 gv rfl)) ?_
  refine sv (v := (vI .i64 ((c : Int) - 1))) (x_move rfl) ?_
  obtain ⟨x13_, hx14_, hm15_⟩ := elem_at N (((c : Int) - 1).toNat) (by omega)
  have hp16_ := hg1 x13_ hm15_
  have hp17_ := hb2 x13_ hm15_
  have hg18_ := hg1 x13_ hm15_
  refine sv (v := (vP (some ⟨(sb gv), so gv + ((((c : Int) - 1).toNat) * 4 + 0), none⟩))) (x_idxRS (v := gv) rfl h1 rfl Try.underlying102 z106 (by omega) (by omega) (by omega : _ = ((c : Int) - 1).toNat) rfl) ?_
  refine sv (v := (vP (some ⟨(sb gv), so gv + ((((c : Int) - 1).toNat) * 4 + 3), none⟩))) (by kernel_rfl) ?_
  refine sv (v := x13_.revs) (x_load1 rfl Try.underlying80 rfl (RC.cell (RS.rc h1) (Holds.ro_at H6_ 0 rfl) (j := (((c : Int) - 1).toNat) * 4 + 3) (u := x13_.revs) (fm_cell GN.len hx14_ (i := 3) rfl))) ?_
  refine sv (v := (vI .i64 ((List.length x13_.l) : Int))) (x_lenRS rfl hg18_ Try.underlying80) ?_
  refine sv (v := (vB (decide (((List.length x13_.l) : Int) = 0)))) (x_bin rfl rfl rfl) ?_
  refine wpList_nil (X_then (hK12_ _ _ ?_))
  clear hK12_
  refine C_cond (b := decide (((List.length x13_.l) : Int) = 0)) rfl (fun c19_t => ?_) (fun c19_f => ?_)
  ·have c19_tp : ((List.length x13_.l) : Int) = 0 := of_decide_eq_true c19_t
   refine C_seq (fun K20_ hK20_ => C_reg ?_)
   refine sv (v := (vI .i64 ((c : Int) - 1))) (x_move rfl) ?_
   refine sv (v := (vI .i64 (((c : Int) - 1) - 1))) (x_bin rfl rfl (ib_sub (IntWalk.i64_in _ (by omega)))) ?_
   refine sv (v := (vI .i64 (((c : Int) - 1) - 1))) (x_assign rfl) ?_
   refine wpList_nil (X_then (hK20_ _ _ ?_))
   clear hK20_
   refine C_exit (X_thenX (X_blkHit ?_))
   refine (X_then ?_)
   exact ⟨⟨c - 1, t4_v⟩, ⟨_, congrArg (fun e => mkA 67 e []) (ch (ch (ch (ch (ch rfl rfl) rfl) rfl) rfl) (congrArg (vI .i64) ((by first | rfl | omega | (simp; done) | (simp; omega)) : ((c : Int) - 1) - 1 = ((c - 1 : Nat) : Int) - 1))), H6_, S7_, (by first | assumption | omega | exact rfl), (by rw [hin, iFind_empty hx14_ (by omega) c19_tp])⟩, by first | omega | (dsimp only; omega) | (simp; omega)⟩
  ·have c19_fp : ¬ (((List.length x13_.l) : Int) = 0) := of_decide_eq_false c19_f
   refine C_skip (X_then (hK11_ _ _ ?_))
   clear hK11_
   refine C_seq (fun K21_ hK21_ => C_reg ?_)
   refine sv (v := (vP (some ⟨kb, 0, none⟩))) (x_move rfl) ?_
   refine sv (v := (vP (some ⟨kb, 0, none⟩))) (by kernel_rfl) ?_
   refine sv (v := (vP (some ⟨kb, 3, none⟩))) (by kernel_rfl) ?_
   refine sv (v := gv) (x_load1 rfl Try.underlying102 rfl ((Holds.rd H6_ 1 rfl) 3 gv rfl)) ?_
   refine sv (v := (vI .i64 ((c : Int) - 1))) (x_move rfl) ?_
   refine sv (v := (vP (some ⟨(sb gv), so gv + ((((c : Int) - 1).toNat) * 4 + 0), none⟩))) (x_idxRS (v := gv) rfl h1 rfl Try.underlying102 z106 (by omega) (by omega) (by omega : _ = ((c : Int) - 1).toNat) rfl) ?_
   refine sv (v := (vA #[(vI .i64 x13_.ver), (vI .i64 x13_.created_Main), (vI .i64 x13_.created_Sub), x13_.revs])) (x_loadN (vs := [(vI .i64 x13_.ver), (vI .i64 x13_.created_Main), (vI .i64 x13_.created_Sub), x13_.revs]) rfl Try.underlying106 rfl z106 rfl (RC.cells (RS.rc h1) (Holds.ro_at H6_ 0 rfl) ((((c : Int) - 1).toNat) * 4 + 0) (fm_cells GN.len hx14_ (i := 0) rfl))) ?_
   refine S_list (T_alloc z106 H6_ ?_)
   intro b22_ w23_ S25_ H24_
   have S26_ := Same.trans S7_ S25_
   refine S_list0 (T_storeN (vs := [(vI .i64 x13_.ver), (vI .i64 x13_.created_Main), (vI .i64 x13_.created_Sub), x13_.revs]) rfl rfl z106 rfl (List.forall_mem_cons.2 ⟨rfl, (List.forall_mem_cons.2 ⟨rfl, (List.forall_mem_cons.2 ⟨rfl, (List.forall_mem_cons.2 ⟨(RS.one hg18_), (fun _ h__ => by cases h__)⟩)⟩)⟩)⟩) H24_ 0 rfl (Nat.le_of_ble_eq_true (by rfl)) ?_)
   intro w27_ S29_ H28_
   have S30_ := Same.trans S26_ S29_
   refine wpList_nil (X_then (hK21_ _ _ ?_))
   clear hK21_
   refine C_seq (fun K31_ hK31_ => ?_)
   refine C_seq (fun K32_ hK32_ => C_reg ?_)
   refine sv (v := (vI .i64 ((c : Int) - 1))) (x_move rfl) ?_
   refine sv (v := (vI .i64 (((List.length N) : Int) - 1))) (x_move rfl) ?_
   refine sv (v := (vB (decide ((c : Int) - 1 ≠ ((List.length N) : Int) - 1)))) (x_bin rfl rfl rfl) ?_
   refine wpList_nil (X_then (hK32_ _ _ ?_))
   clear hK32_
   refine C_cond (b := decide ((c : Int) - 1 ≠ ((List.length N) : Int) - 1)) rfl (fun c33_t => ?_) (fun c33_f => ?_)
   ·have c33_tp : (c : Int) - 1 ≠ ((List.length N) : Int) - 1 := of_decide_eq_true c33_t
    refine C_seq (fun K34_ hK34_ => C_reg ?_)
    refine sv (v := (vP (some ⟨b22_, 3, none⟩))) (by kernel_rfl) ?_
    refine sv (v := x13_.revs) (x_load1 rfl Try.underlying80 rfl ((Holds.rd H28_ 0 rfl) 3 x13_.revs rfl)) ?_
    refine sv (v := (vP (some ⟨b22_, 3, none⟩))) (by kernel_rfl) ?_
    refine sv (v := x13_.revs) (x_load1 rfl Try.underlying80 rfl ((Holds.rd H28_ 0 rfl) 3 x13_.revs rfl)) ?_
    refine sv (v := (vI .i64 ((List.length x13_.l) : Int))) (x_lenRS rfl hg18_ Try.underlying80) ?_
    refine sv (v := (vI .i64 (((List.length x13_.l) : Int) - 1))) (x_bin rfl rfl (ib_sub (IntWalk.i64_in _ (by omega)))) ?_
    obtain ⟨x35_, hx36_, hm37_⟩ := elem_at x13_.l ((((List.length x13_.l) : Int) - 1).toNat) (by omega)
    refine sv (v := (vP (some ⟨(sb x13_.revs), so x13_.revs + (((((List.length x13_.l) : Int) - 1).toNat) * 2 + 0), none⟩))) (x_idxRS (v := x13_.revs) rfl hg18_ rfl Try.underlying80 z58 (by omega) (by omega) (by omega : _ = (((List.length x13_.l) : Int) - 1).toNat) rfl) ?_
    refine sv (v := (vP (some ⟨(sb x13_.revs), so x13_.revs + (((((List.length x13_.l) : Int) - 1).toNat) * 2 + 0), none⟩))) (by kernel_rfl) ?_
    refine sv (v := (vI .i64 x35_.main)) (x_load1 rfl Try.underlying2 rfl (RC.cell (RS.rc hg18_) (Holds.ro_at H28_ 1 rfl) (j := ((((List.length x13_.l) : Int) - 1).toNat) * 2 + 0) (u := (vI .i64 x35_.main)) (fm_cell RV.len hx36_ (i := 0) rfl))) ?_
    refine sv (v := (vI .i64 x35_.main)) (x_assign rfl) ?_
    refine wpList_nil (X_then (hK34_ _ _ ?_))
    clear hK34_
    refine C_seq (fun K38_ hK38_ => C_reg ?_)
    refine sv (v := (vI .i64 x35_.main)) (x_move rfl) ?_
    refine sv (v := (vI .i64 at_)) (x_move rfl) ?_
    refine sv (v := (vB (decide (x35_.main ≤ at_)))) (x_bin rfl rfl rfl) ?_
    refine wpList_nil (X_then (hK38_ _ _ ?_))
    clear hK38_
    refine C_cond (b := decide (x35_.main ≤ at_)) rfl (fun c39_t => ?_) (fun c39_f => ?_)
    ·have c39_tp : x35_.main ≤ at_ := of_decide_eq_true c39_t
     refine C_seq (fun K40_ hK40_ => C_reg ?_)
     refine sv (v := (vP none)) (x_assign rfl) ?_
     refine wpList_nil (X_then (hK40_ _ _ ?_))
     clear hK40_
     refine C_ret (X_thenR (X_blkR (X_thenR (X_blkR (X_thenR ?_)))))
     refine R_any (v := (vP none)) (run_results1 rfl rfl) ?_
     have H41_ : Holds w27_ (ro R :: cl kb 104 [(vS ka kl kc), (vI .i64 m), (vI .i64 n), gv] :: F) := (Holds.pkF H28_ [1, 1] 1 :)
     exact ⟨_, _, rfl, (.inl ⟨rfl, rfl, (by rw [iFind, List.length_map, hin, iFind_ended hx14_ (by omega) c19_fp c33_tp hx36_ c39_tp])⟩), S30_, H41_⟩
    ·have c39_fp : ¬ (x35_.main ≤ at_) := of_decide_eq_false c39_f
     refine C_skip (X_then (hK31_ _ _ ?_))
     clear hK31_
     refine C_seq (fun K42_ hK42_ => ?_)
     refine C_seq (fun K43_ hK43_ => C_reg ?_)
     refine sv (v := (vP (some ⟨b22_, 3, none⟩))) (by kernel_rfl) ?_
     refine sv (v := x13_.revs) (x_load1 rfl Try.underlying80 rfl ((Holds.rd H28_ 0 rfl) 3 x13_.revs rfl)) ?_
     obtain ⟨x44_, hx45_, hm46_⟩ := elem_at x13_.l 0 (by omega)
     refine sv (v := (vP (some ⟨(sb x13_.revs), so x13_.revs + (0 + 0), none⟩))) (x_idxRS (v := x13_.revs) rfl hg18_ rfl Try.underlying80 z58 (by omega) (by omega) (by omega : _ = 0) rfl) ?_
     refine sv (v := (vP (some ⟨(sb x13_.revs), so x13_.revs + (0 + 0), none⟩))) (by kernel_rfl) ?_
     refine sv (v := (vI .i64 x44_.main)) (x_load1 rfl Try.underlying2 rfl (RC.cell (RS.rc hg18_) (Holds.ro_at H28_ 1 rfl) (j := 0 + 0) (u := (vI .i64 x44_.main)) (fm_cell RV.len hx45_ (i := 0) rfl))) ?_
     refine sv (v := (vI .i64 at_)) (x_move rfl) ?_
     refine sv (v := (vB (decide (x44_.main ≤ at_)))) (x_bin rfl rfl rfl) ?_
     refine wpList_nil (X_then (hK43_ _ _ ?_))
     clear hK43_
     refine C_cond (b := decide (x44_.main ≤ at_)) rfl (fun c47_t => ?_) (fun c47_f => ?_)
     ·have c47_tp : x44_.main ≤ at_ := of_decide_eq_true c47_t
      refine C_seq (fun K48_ hK48_ => C_reg ?_)
      refine sv (v := (vP (some ⟨kb, 0, none⟩))) (x_move rfl) ?_
      refine sv (v := (vP (some ⟨kb, 0, none⟩))) (by kernel_rfl) ?_
      refine sv (v := (vP (some ⟨kb, 3, none⟩))) (by kernel_rfl) ?_
      refine sv (v := gv) (x_load1 rfl Try.underlying102 rfl ((Holds.rd H28_ 2 rfl) 3 gv rfl)) ?_
      refine sv (v := (vI .i64 ((c : Int) - 1))) (x_move rfl) ?_
      refine sv (v := (vP (some ⟨(sb gv), so gv + ((((c : Int) - 1).toNat) * 4 + 0), none⟩))) (x_idxRS (v := gv) rfl h1 rfl Try.underlying102 z106 (by omega) (by omega) (by omega : _ = ((c : Int) - 1).toNat) rfl) ?_
      refine sv (v := (vP (some ⟨(sb gv), so gv + ((((c : Int) - 1).toNat) * 4 + 0), none⟩))) (x_assign rfl) ?_
      refine wpList_nil (X_then (hK48_ _ _ ?_))
      clear hK48_
      refine C_ret (X_thenR (X_blkR (X_thenR (X_blkR (X_thenR ?_)))))
      refine R_any (v := (vP (some ⟨(sb gv), so gv + ((((c : Int) - 1).toNat) * 4 + 0), none⟩))) (run_results1 rfl rfl) ?_
      have H49_ : Holds w27_ (ro R :: cl kb 104 [(vS ka kl kc), (vI .i64 m), (vI .i64 n), gv] :: F) := (Holds.pkF H28_ [1, 1] 1 :)
      exact ⟨_, _, rfl, (.inr ⟨((c : Int) - 1).toNat, x13_, rfl, rfl, (by rw [iFind, List.length_map, hin, iFind_yes hx14_ (by omega) c19_fp (.inr ⟨_, hx36_, c39_fp⟩) hx45_ c47_tp]), (hx14_)⟩), S30_, H49_⟩
     ·have c47_fp : ¬ (x44_.main ≤ at_) := of_decide_eq_false c47_f
      refine C_skip (X_then (hK42_ _ _ ?_))
      clear hK42_
      refine C_reg ?_
      refine sv (v := (vI .i64 ((c : Int) - 1))) (x_move rfl) ?_
      refine sv (v := (vI .i64 (((c : Int) - 1) - 1))) (x_bin rfl rfl (ib_sub (IntWalk.i64_in _ (by omega)))) ?_
      refine sv (v := (vI .i64 (((c : Int) - 1) - 1))) (x_assign rfl) ?_
      refine wpList_nil (X_blkN (X_then ?_))
      have H50_ : Holds w27_ (ro R :: cl kb 104 [(vS ka kl kc), (vI .i64 m), (vI .i64 n), gv] :: F) := (Holds.pkF H28_ [1, 1] 1 :)
      exact ⟨⟨c - 1, t4_v⟩, ⟨_, congrArg (fun e => mkA 67 e []) (ch (ch (ch (ch (ch rfl rfl) rfl) rfl) rfl) (congrArg (vI .i64) ((by first | rfl | omega | (simp; done) | (simp; omega)) : ((c : Int) - 1) - 1 = ((c - 1 : Nat) : Int) - 1))), H50_, S30_, (by first | assumption | omega | exact rfl), (by rw [hin, iFind_no hx14_ (by omega) c19_fp (.inr ⟨_, hx36_, c39_fp⟩) hx45_ c47_fp])⟩, by first | omega | (dsimp only; omega) | (simp; omega)⟩
   ·have c33_fp : ¬ ((c : Int) - 1 ≠ ((List.length N) : Int) - 1) := of_decide_eq_false c33_f
    refine C_skip (X_then (hK31_ _ _ ?_))
    clear hK31_
    refine C_seq (fun K51_ hK51_ => ?_)
    refine C_seq (fun K52_ hK52_ => C_reg ?_)
    refine sv (v := (vP (some ⟨b22_, 3, none⟩))) (by kernel_rfl) ?_
    refine sv (v := x13_.revs) (x_load1 rfl Try.underlying80 rfl ((Holds.rd H28_ 0 rfl) 3 x13_.revs rfl)) ?_
    obtain ⟨x53_, hx54_, hm55_⟩ := elem_at x13_.l 0 (by omega)
    refine sv (v := (vP (some ⟨(sb x13_.revs), so x13_.revs + (0 + 0), none⟩))) (x_idxRS (v := x13_.revs) rfl hg18_ rfl Try.underlying80 z58 (by omega) (by omega) (by omega : _ = 0) rfl) ?_
    refine sv (v := (vP (some ⟨(sb x13_.revs), so x13_.revs + (0 + 0), none⟩))) (by kernel_rfl) ?_
    refine sv (v := (vI .i64 x53_.main)) (x_load1 rfl Try.underlying2 rfl (RC.cell (RS.rc hg18_) (Holds.ro_at H28_ 1 rfl) (j := 0 + 0) (u := (vI .i64 x53_.main)) (fm_cell RV.len hx54_ (i := 0) rfl))) ?_
    refine sv (v := (vI .i64 at_)) (x_move rfl) ?_
    refine sv (v := (vB (decide (x53_.main ≤ at_)))) (x_bin rfl rfl rfl) ?_
    refine wpList_nil (X_then (hK52_ _ _ ?_))
    clear hK52_
    refine C_cond (b := decide (x53_.main ≤ at_)) rfl (fun c56_t => ?_) (fun c56_f => ?_)
    ·have c56_tp : x53_.main ≤ at_ := of_decide_eq_true c56_t
     refine C_seq (fun K57_ hK57_ => C_reg ?_)
     refine sv (v := (vP (some ⟨kb, 0, none⟩))) (x_move rfl) ?_
     refine sv (v := (vP (some ⟨kb, 0, none⟩))) (by kernel_rfl) ?_
     refine sv (v := (vP (some ⟨kb, 3, none⟩))) (by kernel_rfl) ?_
     refine sv (v := gv) (x_load1 rfl Try.underlying102 rfl ((Holds.rd H28_ 2 rfl) 3 gv rfl)) ?_
     refine sv (v := (vI .i64 ((c : Int) - 1))) (x_move rfl) ?_
     refine sv (v := (vP (some ⟨(sb gv), so gv + ((((c : Int) - 1).toNat) * 4 + 0), none⟩))) (x_idxRS (v := gv) rfl h1 rfl Try.underlying102 z106 (by omega) (by omega) (by omega : _ = ((c : Int) - 1).toNat) rfl) ?_
     refine sv (v := (vP (some ⟨(sb gv), so gv + ((((c : Int) - 1).toNat) * 4 + 0), none⟩))) (x_assign rfl) ?_
     refine wpList_nil (X_then (hK57_ _ _ ?_))
     clear hK57_
     refine C_ret (X_thenR (X_blkR (X_thenR (X_blkR (X_thenR ?_)))))
     refine R_any (v := (vP (some ⟨(sb gv), so gv + ((((c : Int) - 1).toNat) * 4 + 0), none⟩))) (run_results1 rfl rfl) ?_
     have H58_ : Holds w27_ (ro R :: cl kb 104 [(vS ka kl kc), (vI .i64 m), (vI .i64 n), gv] :: F) := (Holds.pkF H28_ [1, 1] 1 :)
     exact ⟨_, _, rfl, (.inr ⟨((c : Int) - 1).toNat, x13_, rfl, rfl, (by rw [iFind, List.length_map, hin, iFind_yes hx14_ (by omega) c19_fp (.inl (by omega)) hx54_ c56_tp]), (hx14_)⟩), S30_, H58_⟩
    ·have c56_fp : ¬ (x53_.main ≤ at_) := of_decide_eq_false c56_f
     refine C_skip (X_then (hK51_ _ _ ?_))
     clear hK51_
     refine C_reg ?_
     refine sv (v := (vI .i64 ((c : Int) - 1))) (x_move rfl) ?_
     refine sv (v := (vI .i64 (((c : Int) - 1) - 1))) (x_bin rfl rfl (ib_sub (IntWalk.i64_in _ (by omega)))) ?_
     refine sv (v := (vI .i64 (((c : Int) - 1) - 1))) (x_assign rfl) ?_
     refine wpList_nil (X_blkN (X_then ?_))
     have H59_ : Holds w27_ (ro R :: cl kb 104 [(vS ka kl kc), (vI .i64 m), (vI .i64 n), gv] :: F) := (Holds.pkF H28_ [1, 1] 1 :)
     exact ⟨⟨c - 1, t4_v⟩, ⟨_, congrArg (fun e => mkA 67 e []) (ch (ch (ch (ch (ch rfl rfl) rfl) rfl) rfl) (congrArg (vI .i64) ((by first | rfl | omega | (simp; done) | (simp; omega)) : ((c : Int) - 1) - 1 = ((c - 1 : Nat) : Int) - 1))), H59_, S30_, (by first | assumption | omega | exact rfl), (by rw [hin, iFind_no hx14_ (by omega) c19_fp (.inl (by omega)) hx54_ c56_fp])⟩, by first | omega | (dsimp only; omega) | (simp; omega)⟩
 ·have c10_fp : ¬ (0 ≤ (c : Int) - 1) := of_decide_eq_false c10_f
  refine C_exit (X_thenX (X_thenX (X_blkHit ?_)))
  refine (X_then (hK4_ _ _ ?_))
  clear hK4_
  refine C_seq (fun K60_ hK60_ => C_reg ?_)
  refine sv (v := (vP none)) (x_assign rfl) ?_
  refine wpList_nil (X_then (hK60_ _ _ ?_))
  clear hK60_
  refine C_ret ?_
  refine R_any (v := (vP none)) (run_results1 rfl rfl) ?_
  exact ⟨_, _, rfl, (.inl ⟨rfl, rfl, (by rw [iFind, List.length_map, hin, show c = 0 by omega]; rfl)⟩), S7_, H6_⟩
end Go.Proofs.Ytiblemgccgbhoaa
set_option linter.unusedVariables false
set_option linter.unusedSimpArgs false
namespace Go.Proofs.Ytiblemgccgbhoaa
open Go Go.RowKit Gw
open Go.Value renaming int → vI, bool → vB, slice → vS, pointer → vP, agg → vA, tuple → vT

def rLastN (K : List RV) (at_ : Int) : Nat → Nat
  | 0 => 0
  | n + 1 => match K[n]? with
    | some v => if v.main ≤ at_ then n + 1 else rLastN K at_ n
    | none => rLastN K at_ n
theorem rLastN_le (K : List RV) (at_ : Int) (n : Nat) : rLastN K at_ n ≤ n := by
  induction n with
  | zero => exact Nat.le_refl 0
  | succ n ih =>
    unfold rLastN
    split
    · split <;> omega
    · omega
theorem rLastN_yes {K : List RV} {at_ : Int} {i : Nat} {y : RV} (h : K[((K.length : Int) - (i : Int) - 1).toNat]? = some y) (hi : i < K.length) (hy : y.main ≤ at_) : rLastN K at_ (K.length - i) = K.length - i := by
  rw [show ((K.length : Int) - (i : Int) - 1).toNat = K.length - i - 1 by omega] at h
  obtain ⟨m, hm⟩ : ∃ m, K.length - i = m + 1 := ⟨K.length - i - 1, by omega⟩
  rw [hm, Nat.add_sub_cancel] at h
  rw [hm, rLastN, h]
  simp only [if_pos hy]
theorem rLastN_no {K : List RV} {at_ : Int} {i : Nat} {y : RV} (h : K[((K.length : Int) - (i : Int) - 1).toNat]? = some y) (hi : i < K.length) (hy : ¬ y.main ≤ at_) : rLastN K at_ (K.length - i) = rLastN K at_ (K.length - (i + 1)) := by
  rw [show ((K.length : Int) - (i : Int) - 1).toNat = K.length - i - 1 by omega] at h
  obtain ⟨m, hm⟩ : ∃ m, K.length - i = m + 1 := ⟨K.length - i - 1, by omega⟩
  rw [hm, Nat.add_sub_cancel] at h
  rw [hm, rLastN, h]
  simp only [if_neg hy]
  rw [show K.length - (i + 1) = m by omega]
/-- The change that holds at a number: its revision, where its life began, and which it is. -/
def iGet (G : List GM) (at_ : Int) : Option (Int × Int × Int × Int × Int) :=
  match iFind G at_ with
  | none => none
  | some j => match G[j]? with
    | none => none
    | some g => if g.l.length = 0 then none else if rLastN g.l at_ g.l.length = 0 then none else match g.l[rLastN g.l at_ g.l.length - 1]? with
      | none => none
      | some r => some (r.main, r.sub, g.cm, g.cs, g.ver - ((g.l.length : Int) - rLastN g.l at_ g.l.length))
section
variable {N : List GN} {at_ : Int} {j : Nat} {x : GN} {y : RV}
theorem iGet_none (h : iFind (N.map GN.m) at_ = none) : iGet (N.map GN.m) at_ = none := by
  unfold iGet
  rw [h]
theorem iGet_j (h : iFind (N.map GN.m) at_ = some j) (hx : N[j]? = some x) : iGet (N.map GN.m) at_ = if x.l.length = 0 then none else if rLastN x.l at_ x.l.length = 0 then none else match x.l[rLastN x.l at_ x.l.length - 1]? with
      | none => none
      | some r => some (r.main, r.sub, x.created_Main, x.created_Sub, x.ver - ((x.l.length : Int) - rLastN x.l at_ x.l.length)) := by
  unfold iGet
  rw [h]
  simp only [List.getElem?_map, hx, Option.map_some]
  rfl
theorem iGet_emp (h : iFind (N.map GN.m) at_ = some j) (hx : N[j]? = some x) (h0 : (x.l.length : Int) = 0) : iGet (N.map GN.m) at_ = none := by
  rw [iGet_j h hx, if_pos (by omega)]
theorem iGet_no (h : iFind (N.map GN.m) at_ = some j) (hx : N[j]? = some x) (h0 : ¬ (x.l.length : Int) = 0) (h1 : ¬ (rLastN x.l at_ x.l.length : Int) - 1 ≠ -1) : iGet (N.map GN.m) at_ = none := by
  rw [iGet_j h hx, if_neg (by omega), if_pos (by omega)]
theorem iGet_yes (h : iFind (N.map GN.m) at_ = some j) (hx : N[j]? = some x) (h0 : ¬ (x.l.length : Int) = 0) (h1 : (rLastN x.l at_ x.l.length : Int) - 1 ≠ -1) (hy : x.l[((rLastN x.l at_ x.l.length : Int) - 1).toNat]? = some y) :
    iGet (N.map GN.m) at_ = some (y.main, y.sub, x.created_Main, x.created_Sub, x.ver - ((x.l.length : Int) - ((rLastN x.l at_ x.l.length : Int) - 1) - 1)) := by
  rw [iGet_j h hx, if_neg (by omega), if_neg (by omega), show rLastN x.l at_ x.l.length - 1 = ((rLastN x.l at_ x.l.length : Int) - 1).toNat by omega, hy]
  simp only [Option.some.injEq, Prod.mk.injEq, true_and]
  omega
theorem one_of (h : (N.length : Int) = 1) (hx : N[0]? = some x) : N = [x] := by
  match N, h, hx with
  | [y], _, hx => simp at hx; rw [hx]
end


set_option maxHeartbeats 1600000 in
theorem kWalk (R : HP) (gv : Value) (N : List GN) (j : Nat) (x : GN) (ab : Nat) (at_ : Int) (h1 : RS R 4 gv (List.length N) (N.flatMap GN.cells)) (hx : N[j]? = some x) (hgx : RS R 2 x.revs (List.length x.l) (x.l.flatMap RV.cells)) (hlx : x.l.length ≤ 100000) :
    Tri Try.prog 71 #[(vP (some ⟨(sb gv), so gv + (j * 4 + 0), none⟩)), (Value.func (.func 72) #[] #[(vP (some ⟨ab, 0, none⟩))])] R [cl ab 2 [(vI .i64 at_)]] (fun v__ post__ => v__ = (vI .i64 ((rLastN x.l at_ x.l.length : Int) - 1)) ∧ post__ = [cl ab 2 [(vI .i64 at_)]]) := by
 refine Tri.into (n := 40) (al := [(vP (some ⟨(sb gv), so gv + (j * 4 + 0), none⟩)), (Value.func (.func 72) #[] #[(vP (some ⟨ab, 0, none⟩))])]) Try.func71 rfl Try.ntmps71 rfl rfl fun w F H => ?_
 refine C_seq (fun K1_ hK1_ => C_reg ?_)
 refine sv (v := (vI .i64 0)) (x_assign rfl) ?_
 refine wpList_nil (X_then (hK1_ _ _ ?_))
 clear hK1_
 refine C_seq (fun K2_ hK2_ => C_reg ?_)
 refine sv (v := (vP (some ⟨(sb gv), so gv + (j * 4 + 0), none⟩))) (x_move rfl) ?_
 refine sv (v := (vP (some ⟨(sb gv), so gv + (j * 4 + 0), none⟩))) (by kernel_rfl) ?_
 refine sv (v := (vP (some ⟨(sb gv), so gv + (j * 4 + 3), none⟩))) (by kernel_rfl) ?_
 refine sv (v := x.revs) (x_load1 rfl Try.underlying80 rfl (RC.cell (RS.rc h1) (Holds.ro_at H 0 rfl) (j := j * 4 + 3) (u := x.revs) (fm_cell GN.len hx (i := 3) rfl))) ?_
 refine sv (v := (vI .i64 ((List.length x.l) : Int))) (x_lenRS rfl hgx Try.underlying80) ?_
 refine sv (v := (vI .i64 ((List.length x.l) : Int))) (x_assign rfl) ?_
 refine wpList_nil (X_then (hK2_ _ _ ?_))
 clear hK2_
 refine C_seq (fun K3_ hK3_ => ?_)
 refine C_seq (fun K4_ hK4_ => C_reg ?_)
 refine sv (v := (vP (some ⟨(sb gv), so gv + (j * 4 + 0), none⟩))) (x_move rfl) ?_
 refine sv (v := (vP (some ⟨(sb gv), so gv + (j * 4 + 0), none⟩))) (by kernel_rfl) ?_
 refine sv (v := (vP (some ⟨(sb gv), so gv + (j * 4 + 3), none⟩))) (by kernel_rfl) ?_
 refine sv (v := x.revs) (x_load1 rfl Try.underlying80 rfl (RC.cell (RS.rc h1) (Holds.ro_at H 0 rfl) (j := j * 4 + 3) (u := x.revs) (fm_cell GN.len hx (i := 3) rfl))) ?_
 refine sv (v := (vI .i64 ((List.length x.l) : Int))) (x_lenRS rfl hgx Try.underlying80) ?_
 refine sv (v := (vI .i64 0)) (x_move rfl) ?_
 refine wpList_nil (X_then (hK4_ _ _ ?_))
 clear hK4_
 refine C_block ?_
 refine C_loop (γ := Nat × Int) (fun x__ a__ w1__ => match x__ with | ⟨i, t4_v⟩ => ∃ h : Env, a__ = mkA 40 (upd (upd (upd (upd (upd (upd h 0 (vP (some ⟨(sb gv), so gv + (j * 4 + 0), none⟩))) 1 (Value.func (.func 72) #[] #[(vP (some ⟨ab, 0, none⟩))])) 4 (vI .i64 t4_v)) 5 (vI .i64 ((List.length x.l) : Int))) 17 (vI .i64 ((List.length x.l) : Int))) 18 (vI .i64 (i : Int))) [] ∧ Holds w1__ (ro R :: cl ab 2 [(vI .i64 at_)] :: F) ∧ Same w w1__ ∧ (i ≤ x.l.length) ∧ (rLastN x.l at_ x.l.length = rLastN x.l at_ (x.l.length - i))) (fun x__ => match x__ with | ⟨i, t4_v⟩ => x.l.length - i) (⟨0, 0⟩) ⟨_, congrArg (fun e => mkA 40 e []) (ch (ch (ch (ch (ch (ch rfl rfl) rfl) rfl) rfl) rfl) (congrArg (vI .i64) ((by first | rfl | omega | (simp; done) | (simp; omega)) : 0 = (0 : Int)))), H, (Same.refl w), (by first | assumption | omega | exact rfl), (rfl)⟩ ?_
 rintro ⟨i, t4_v⟩ _ w5_ ⟨h, rfl, H6_, S7_, hi, hin⟩
 refine C_seq (fun K8_ hK8_ => C_reg ?_)
 refine sv (v := (vB (decide ((i : Int) < ((List.length x.l) : Int))))) (x_bin rfl rfl rfl) ?_
 refine wpList_nil (X_then (hK8_ _ _ ?_))
 clear hK8_
 refine C_seq (fun K9_ hK9_ => ?_)
 refine C_cond (b := decide ((i : Int) < ((List.length x.l) : Int))) rfl (fun c10_t => ?_) (fun c10_f => ?_)
 ·have c10_tp : (i : Int) < ((List.length x.l) : Int) := of_decide_eq_true c10_t
  refine C_skip (X_then (hK9_ _ _ ?_))
  clear hK9_
  refine C_seq (fun K11_ hK11_ => ?_)
  refine C_block ?_
  refine C_seq (fun K12_ hK12_ => C_reg ?_)
  refine sv (v := (vI .i64 (i : Int))) (x_move rfl) ?_
  refine sv (v := (vI .i64 (i : Int))) (x_assign rfl) ?_
  refine wpList_nil (X_then (hK12_ _ _ ?_))
  clear hK12_
  refine C_seq (fun K13_ hK13_ => C_reg ?_)
  refine sv (v := (Value.func (.func 72) #[] #[(vP (some ⟨ab, 0, none⟩))])) (x_move rfl) ?_
  refine sv (v := (vP (some ⟨(sb gv), so gv + (j * 4 + 0), none⟩))) (x_move rfl) ?_
  refine sv (v := (vP (some ⟨(sb gv), so gv + (j * 4 + 0), none⟩))) (by kernel_rfl) ?_
  refine sv (v := (vP (some ⟨(sb gv), so gv + (j * 4 + 3), none⟩))) (by kernel_rfl) ?_
  refine sv (v := x.revs) (x_load1 rfl Try.underlying80 rfl (RC.cell (RS.rc h1) (Holds.ro_at H6_ 0 rfl) (j := j * 4 + 3) (u := x.revs) (fm_cell GN.len hx (i := 3) rfl))) ?_
  refine sv (v := (vI .i64 ((List.length x.l) : Int))) (x_move rfl) ?_
  refine sv (v := (vI .i64 (i : Int))) (x_move rfl) ?_
  refine sv (v := (vI .i64 (((List.length x.l) : Int) - (i : Int)))) (x_bin rfl rfl (ib_sub (IntWalk.i64_in _ (by omega)))) ?_
  refine sv (v := (vI .i64 ((((List.length x.l) : Int) - (i : Int)) - 1))) (x_bin rfl rfl (ib_sub (IntWalk.i64_in _ (by omega)))) ?_
  obtain ⟨x14_, hx15_, hm16_⟩ := elem_at x.l (((((List.length x.l) : Int) - (i : Int)) - 1).toNat) (by omega)
  refine sv (v := (vP (some ⟨(sb x.revs), so x.revs + ((((((List.length x.l) : Int) - (i : Int)) - 1).toNat) * 2 + 0), none⟩))) (x_idxRS (v := x.revs) rfl hgx rfl Try.underlying80 z58 (by omega) (by omega) (by omega : _ = ((((List.length x.l) : Int) - (i : Int)) - 1).toNat) rfl) ?_
  refine sv (v := (vA #[(vI .i64 x14_.main), (vI .i64 x14_.sub)])) (x_loadN (vs := [(vI .i64 x14_.main), (vI .i64 x14_.sub)]) rfl Try.underlying58 rfl z58 rfl (RC.cells (RS.rc hgx) (Holds.ro_at H6_ 0 rfl) ((((((List.length x.l) : Int) - (i : Int)) - 1).toNat) * 2 + 0) (fm_cells RV.len hx15_ (i := 0) rfl))) ?_
  refine S_list (T_callW (al := [(vA #[(vI .i64 x14_.main), (vI .i64 x14_.sub)]), (vP (some ⟨ab, 0, none⟩))]) rfl rfl cb72 (Calls.into (n := 8) (al := [(vA #[(vI .i64 x14_.main), (vI .i64 x14_.sub)]), (vP (some ⟨ab, 0, none⟩))]) Try.func72 rfl Try.ntmps72 rfl rfl ?_))
  refine C_seq (fun K17_ hK17_ => C_reg ?_)
  refine S_list (T_box (v := (vA #[(vI .i64 x14_.main), (vI .i64 x14_.sub)])) rfl H6_ ?_)
  intro b18_ w19_ S21_ H20_
  have S22_ := Same.trans S7_ S21_
  refine sv (v := (vB false)) (x_assign rfl) ?_
  refine wpList_nil (X_then (hK17_ _ _ ?_))
  clear hK17_
  refine C_seq (fun K23_ hK23_ => C_reg ?_)
  refine sv (v := (vP (some ⟨b18_, 0, none⟩))) (by kernel_rfl) ?_
  refine sv (v := (vI .i64 x14_.main)) (x_load1 rfl Try.underlying2 rfl ((Holds.rd H20_ 0 rfl) 0 (vI .i64 x14_.main) rfl)) ?_
  refine sv (v := (vI .i64 at_)) (x_load1 rfl Try.underlying2 rfl ((Holds.rd H20_ 2 rfl) 0 (vI .i64 at_) rfl)) ?_
  refine sv (v := (vB (decide (at_ < x14_.main)))) (x_bin rfl rfl rfl) ?_
  refine sv (v := (vB (decide (at_ < x14_.main)))) (x_assign rfl) ?_
  refine wpList_nil (X_then (hK23_ _ _ ?_))
  clear hK23_
  refine C_ret ?_
  refine R_any (v := (vB (decide (at_ < x14_.main)))) (run_results1 rfl rfl) ⟨_, rfl, ?_⟩
  refine sv (v := (vB (decide (at_ < x14_.main)))) (x_assign rfl) ?_
  refine wpList_nil (X_then (hK13_ _ _ ?_))
  clear hK13_
  refine C_seq (fun K24_ hK24_ => C_reg ?_)
  refine sv (v := (vB (decide (at_ < x14_.main)))) (x_move rfl) ?_
  refine sv (v := (vB (decide (¬ (at_ < x14_.main))))) (x_notP rfl) ?_
  refine wpList_nil (X_then (hK24_ _ _ ?_))
  clear hK24_
  refine C_cond (b := decide (¬ (at_ < x14_.main))) rfl (fun c25_t => ?_) (fun c25_f => ?_)
  ·have c25_tp : ¬ (at_ < x14_.main) := of_decide_eq_true c25_t
   refine C_seq (fun K26_ hK26_ => C_reg ?_)
   refine sv (v := (vI .i64 ((List.length x.l) : Int))) (x_move rfl) ?_
   refine sv (v := (vI .i64 (i : Int))) (x_move rfl) ?_
   refine sv (v := (vI .i64 (((List.length x.l) : Int) - (i : Int)))) (x_bin rfl rfl (ib_sub (IntWalk.i64_in _ (by omega)))) ?_
   refine sv (v := (vI .i64 ((((List.length x.l) : Int) - (i : Int)) - 1))) (x_bin rfl rfl (ib_sub (IntWalk.i64_in _ (by omega)))) ?_
   refine sv (v := (vI .i64 ((((List.length x.l) : Int) - (i : Int)) - 1))) (x_assign rfl) ?_
   refine wpList_nil (X_then (hK26_ _ _ ?_))
   clear hK26_
   refine C_ret (X_blkR (X_thenR (X_thenR (X_blkR (X_thenR ?_)))))
   refine R_any (v := (vI .i64 ((((List.length x.l) : Int) - (i : Int)) - 1))) (run_results1 rfl rfl) ?_
   have H27_ : Holds w19_ (ro R :: cl ab 2 [(vI .i64 at_)] :: F) := (Holds.pkF H20_ [1, 1] 1 :)
   exact ⟨_, _, rfl, ⟨(congrArg (vI .i64) ((by rw [hin, rLastN_yes hx15_ (by omega) (by omega)]; omega) : (((List.length x.l) : Int) - (i : Int)) - 1 = (rLastN x.l at_ x.l.length : Int) - 1)), rfl⟩, S22_, H27_⟩
  ·have c25_fp : ¬ (¬ (at_ < x14_.main)) := of_decide_eq_false c25_f
   refine C_skip (X_blkN (X_then (hK11_ _ _ ?_)))
   clear hK11_
   refine C_reg ?_
   refine sv (v := (vI .i64 ((i : Int) + 1))) (x_bin rfl rfl (ib_add (IntWalk.i64_in _ (by omega)))) ?_
   refine sv (v := (vI .i64 ((i : Int) + 1))) (x_move rfl) ?_
   refine wpList_nil (X_then ?_)
   have H28_ : Holds w19_ (ro R :: cl ab 2 [(vI .i64 at_)] :: F) := (Holds.pkF H20_ [1, 1] 1 :)
   exact ⟨⟨i + 1, t4_v⟩, ⟨_, congrArg (fun e => mkA 40 e []) (ch (ch (ch (ch (ch (ch rfl rfl) rfl) rfl) rfl) rfl) (congrArg (vI .i64) ((by first | rfl | omega | (simp; done) | (simp; omega)) : (i : Int) + 1 = ((i + 1 : Nat) : Int)))), H28_, S22_, (by first | assumption | omega | exact rfl), (by rw [hin, rLastN_no hx15_ (by omega) (by omega)])⟩, by first | omega | (dsimp only; omega) | (simp; omega)⟩
 ·have c10_fp : ¬ ((i : Int) < ((List.length x.l) : Int)) := of_decide_eq_false c10_f
  refine C_exit (X_thenX (X_thenX (X_blkHit ?_)))
  refine (X_then (hK3_ _ _ ?_))
  clear hK3_
  refine C_seq (fun K29_ hK29_ => C_reg ?_)
  refine sv (v := (vI .i64 (-1))) (x_assign rfl) ?_
  refine wpList_nil (X_then (hK29_ _ _ ?_))
  clear hK29_
  refine C_ret ?_
  refine R_any (v := (vI .i64 (-1))) (run_results1 rfl rfl) ?_
  exact ⟨_, _, rfl, ⟨(congrArg (vI .i64) ((by rw [hin, show x.l.length - i = 0 by omega]; rfl) : -1 = (rLastN x.l at_ x.l.length : Int) - 1)), rfl⟩, S7_, H6_⟩
end Go.Proofs.Ytiblemgccgbhoaa
set_option linter.unusedVariables false
set_option linter.unusedSimpArgs false
namespace Go.Proofs.Ytiblemgccgbhoaa
open Go Go.RowKit Gw
open Go.Value renaming int → vI, bool → vB, slice → vS, pointer → vP, agg → vA, tuple → vT

set_option maxHeartbeats 8000000 in
theorem kGetR (R : HP) (kb : Nat) (ka : Option Addr) (kl kc : Nat) (m n : Int) (gv : Value) (N : List GN) (at_ : Int) (h1 : RS R 4 gv (List.length N) (N.flatMap GN.cells)) (hg1 : ∀ x ∈ N, GOk R x) (hb1 : N.length ≤ 100000) (hb2 : ∀ x ∈ N, x.l.length ≤ 100000) (hne : ∀ x, N = [x] → ¬ x.l.length = 0) (hbv : ∀ x ∈ N, 0 ≤ x.ver ∧ x.ver ≤ 1000000) :
    Tri Try.prog 58 #[(vP (some ⟨kb, 0, none⟩)), (vP none), (vI .i64 at_)] R [cl kb 104 [(vS ka kl kc), (vI .i64 m), (vI .i64 n), gv]] (fun v__ post__ => (v__ = (vT #[(vA #[(vI .i64 0), (vI .i64 0)]), (vA #[(vI .i64 0), (vI .i64 0)]), (vI .i64 0), (Value.iface 122 (Value.string (ByteArray.mk #[109, 118, 99, 99, 58, 32, 114, 101, 118, 105, 115, 105, 111, 110, 32, 110, 111, 116, 32, 102, 111, 117, 110, 100])))]) ∧ post__ = [cl kb 104 [(vS ka kl kc), (vI .i64 m), (vI .i64 n), gv]] ∧ (iGet (N.map GN.m) at_ = none)) ∨ (∃ (a b c d e : Int), v__ = (vT #[(vA #[(vI .i64 a), (vI .i64 b)]), (vA #[(vI .i64 c), (vI .i64 d)]), (vI .i64 e), (Value.nilIface)]) ∧ post__ = [cl kb 104 [(vS ka kl kc), (vI .i64 m), (vI .i64 n), gv]] ∧ (iGet (N.map GN.m) at_ = some (a, b, c, d, e)))) := by
 refine Tri.into (n := 55) (al := [(vP (some ⟨kb, 0, none⟩)), (vP none), (vI .i64 at_)]) Try.func58 rfl Try.ntmps58 rfl rfl fun w F H => ?_
 refine C_seq (fun K1_ hK1_ => C_reg ?_)
 refine S_list (T_box (v := (vI .i64 at_)) rfl H ?_)
 intro b2_ w3_ S5_ H4_
 have S6_ := Same.trans (Same.refl w) S5_
 refine S_list (T_alloc z58 H4_ ?_)
 intro b7_ w8_ S10_ H9_
 have S11_ := Same.trans S6_ S10_
 refine S_list (T_alloc z58 H9_ ?_)
 intro b12_ w13_ S15_ H14_
 have S16_ := Same.trans S11_ S15_
 refine sv (v := (vI .i64 0)) (x_assign rfl) ?_
 refine sv (v := (Value.nilIface)) (x_assign rfl) ?_
 refine wpList_nil (X_then (hK1_ _ _ ?_))
 clear hK1_
 refine C_seq (fun K17_ hK17_ => ?_)
 refine C_seq (fun K18_ hK18_ => C_reg ?_)
 refine sv (v := (vP (some ⟨kb, 0, none⟩))) (x_move rfl) ?_
 refine S_list (T_callW (al := [(vP (some ⟨kb, 0, none⟩))]) rfl rfl cb64 (Calls.into (n := 17) (al := [(vP (some ⟨kb, 0, none⟩))]) Try.func64 rfl Try.ntmps64 rfl rfl ?_))
 refine C_seq (fun K19_ hK19_ => C_reg ?_)
 refine sv (v := (vB false)) (x_assign rfl) ?_
 refine wpList_nil (X_then (hK19_ _ _ ?_))
 clear hK19_
 refine C_seq (fun K20_ hK20_ => C_reg ?_)
 refine sv (v := (vP (some ⟨kb, 0, none⟩))) (x_move rfl) ?_
 refine sv (v := (vP (some ⟨kb, 0, none⟩))) (by kernel_rfl) ?_
 refine sv (v := (vP (some ⟨kb, 3, none⟩))) (by kernel_rfl) ?_
 refine sv (v := gv) (x_load1 rfl Try.underlying102 rfl ((Holds.rd H14_ 4 rfl) 3 gv rfl)) ?_
 refine sv (v := (vI .i64 ((List.length N) : Int))) (x_lenRS rfl h1 Try.underlying102) ?_
 refine sv (v := (vB (decide (((List.length N) : Int) = 1)))) (x_bin rfl rfl rfl) ?_
 refine sv (v := (vB (decide (((List.length N) : Int) = 1)))) (x_move rfl) ?_
 rcases Bool.eq_false_or_eq_true (decide (((List.length N) : Int) = 1)) with c21_t | c21_f
 ·have c21_tp : ((List.length N) : Int) = 1 := of_decide_eq_true c21_t
  refine S_yes (j := 6) (dj := 9) (b := true) rfl rfl (congrArg vB c21_t) (T_val (v := (vP (some ⟨kb, 0, none⟩))) (x_move rfl) ?_)
  refine S_yes (j := 6) (dj := 9) (b := true) rfl rfl (congrArg vB c21_t) (T_val (v := (vP (some ⟨kb, 0, none⟩))) (by kernel_rfl) ?_)
  refine S_yes (j := 6) (dj := 9) (b := true) rfl rfl (congrArg vB c21_t) (T_val (v := (vP (some ⟨kb, 3, none⟩))) (by kernel_rfl) ?_)
  refine S_yes (j := 6) (dj := 9) (b := true) rfl rfl (congrArg vB c21_t) (T_val (v := gv) (x_load1 rfl Try.underlying102 rfl ((Holds.rd H14_ 4 rfl) 3 gv rfl)) ?_)
  obtain ⟨x22_, hx23_, hm24_⟩ := elem_at N 0 (by omega)
  have hp25_ := hg1 x22_ hm24_
  have hp26_ := hb2 x22_ hm24_
  have hp27_ := hbv x22_ hm24_
  have hg28_ := hg1 x22_ hm24_
  refine S_yes (j := 6) (dj := 9) (b := true) rfl rfl (congrArg vB c21_t) (T_val (v := (vP (some ⟨(sb gv), so gv + (0 + 0), none⟩))) (x_idxRS (v := gv) rfl h1 rfl Try.underlying102 z106 (by omega) (by omega) (by omega : _ = 0) rfl) ?_)
  refine S_yes (j := 6) (dj := 9) (b := true) rfl rfl (congrArg vB c21_t) (T_callW (al := [(vP (some ⟨(sb gv), so gv + (0 + 0), none⟩))]) rfl rfl cb69 (Calls.into (n := 13) (al := [(vP (some ⟨(sb gv), so gv + (0 + 0), none⟩))]) Try.func69 rfl Try.ntmps69 rfl rfl ?_))
  refine C_seq (fun K29_ hK29_ => C_reg ?_)
  refine sv (v := (vB false)) (x_assign rfl) ?_
  refine wpList_nil (X_then (hK29_ _ _ ?_))
  clear hK29_
  refine C_seq (fun K30_ hK30_ => C_reg ?_)
  refine sv (v := (vP (some ⟨(sb gv), so gv + (0 + 0), none⟩))) (x_move rfl) ?_
  refine sv (v := (vB false)) (by kernel_rfl) ?_
  refine sv (v := (vB false)) (x_move rfl) ?_
  refine S_yes (j := 2) (dj := 5) (b := false) rfl rfl rfl (T_val (v := (vP (some ⟨(sb gv), so gv + (0 + 0), none⟩))) (x_move rfl) ?_)
  refine S_yes (j := 2) (dj := 5) (b := false) rfl rfl rfl (T_val (v := (vP (some ⟨(sb gv), so gv + (0 + 0), none⟩))) (by kernel_rfl) ?_)
  refine S_yes (j := 2) (dj := 5) (b := false) rfl rfl rfl (T_val (v := (vP (some ⟨(sb gv), so gv + (0 + 3), none⟩))) (by kernel_rfl) ?_)
  refine S_yes (j := 2) (dj := 5) (b := false) rfl rfl rfl (T_val (v := x22_.revs) (x_load1 rfl Try.underlying80 rfl (RC.cell (RS.rc h1) (Holds.ro_at H14_ 3 rfl) (j := 0 + 3) (u := x22_.revs) (fm_cell GN.len hx23_ (i := 3) rfl))) ?_)
  refine S_yes (j := 2) (dj := 5) (b := false) rfl rfl rfl (T_val (v := (vI .i64 ((List.length x22_.l) : Int))) (x_lenRS rfl hg28_ Try.underlying80) ?_)
  refine S_yes (j := 2) (dj := 5) (b := false) rfl rfl rfl (T_val (v := (vB (decide (((List.length x22_.l) : Int) = 0)))) (x_bin rfl rfl rfl) ?_)
  refine S_list (T_pickF (v := (vB (decide (((List.length x22_.l) : Int) = 0)))) rfl rfl ?_)
  refine sv (v := (vB (decide (((List.length x22_.l) : Int) = 0)))) (x_assign rfl) ?_
  refine wpList_nil (X_then (hK30_ _ _ ?_))
  clear hK30_
  refine C_ret ?_
  refine R_any (v := (vB (decide (((List.length x22_.l) : Int) = 0)))) (run_results1 rfl rfl) ⟨_, rfl, ?_⟩
  refine S_list (T_pickT (v := (vB (decide (((List.length x22_.l) : Int) = 0)))) (congrArg vB c21_t) rfl ?_)
  refine sv (v := (vB (decide (((List.length x22_.l) : Int) = 0)))) (x_assign rfl) ?_
  refine wpList_nil (X_then (hK20_ _ _ ?_))
  clear hK20_
  refine C_ret ?_
  refine R_any (v := (vB (decide (((List.length x22_.l) : Int) = 0)))) (run_results1 rfl rfl) ⟨_, rfl, ?_⟩
  refine wpList_nil (X_then (hK18_ _ _ ?_))
  clear hK18_
  refine C_cond (b := decide (((List.length x22_.l) : Int) = 0)) rfl (fun c31_t => ?_) (fun c31_f => ?_)
  ·have c31_tp : ((List.length x22_.l) : Int) = 0 := of_decide_eq_true c31_t
   exact absurd (show x22_.l.length = 0 by omega) (hne _ (one_of c21_tp hx23_))
  ·have c31_fp : ¬ (((List.length x22_.l) : Int) = 0) := of_decide_eq_false c31_f
   refine C_skip (X_then (hK17_ _ _ ?_))
   clear hK17_
   refine C_seq (fun K32_ hK32_ => C_reg ?_)
   refine sv (v := (vP (some ⟨kb, 0, none⟩))) (x_move rfl) ?_
   refine sv (v := (vI .i64 at_)) (x_load1 rfl Try.underlying2 rfl ((Holds.rd H14_ 2 rfl) 0 (vI .i64 at_) rfl)) ?_
   have H39_ := ((Holds.bring (Holds.bring H14_ 4 rfl) 4 rfl) :)
   refine S_list (T_call (al := [(vP (some ⟨kb, 0, none⟩)), (vI .i64 at_)]) (pre := [cl kb 104 [(vS ka kl kc), (vI .i64 m), (vI .i64 n), gv]]) rfl rfl cb70 (kFind R kb ka kl kc m n gv N at_ h1 (by first | assumption | omega) (by first | assumption | omega) (by first | assumption | omega)) H39_ ?_)
   rintro v33_ p43_ w40_ hq44_ S42_ H41_
   rcases hq44_ with ⟨rfl, rfl, he34_⟩ | ⟨j35_, x36_, rfl, rfl, he37_, he38_⟩
   ·skip
    have S45_ := Same.trans S16_ S42_
    refine sv (v := (vP none)) (x_assign rfl) ?_
    refine wpList_nil (X_then (hK32_ _ _ ?_))
    clear hK32_
    refine C_seq (fun K47_ hK47_ => ?_)
    refine C_seq (fun K48_ hK48_ => C_reg ?_)
    refine sv (v := (vP none)) (x_move rfl) ?_
    refine S_list (T_callW (al := [(vP none)]) rfl rfl cb69 (Calls.into (n := 13) (al := [(vP none)]) Try.func69 rfl Try.ntmps69 rfl rfl ?_))
    refine C_seq (fun K49_ hK49_ => C_reg ?_)
    refine sv (v := (vB false)) (x_assign rfl) ?_
    refine wpList_nil (X_then (hK49_ _ _ ?_))
    clear hK49_
    refine C_seq (fun K50_ hK50_ => C_reg ?_)
    refine sv (v := (vP none)) (x_move rfl) ?_
    refine sv (v := (vB true)) (by kernel_rfl) ?_
    refine sv (v := (vB true)) (x_move rfl) ?_
    refine S_no (j := 2) (dj := 5) (b := true) rfl rfl rfl (by decide) ?_
    refine S_no (j := 2) (dj := 5) (b := true) rfl rfl rfl (by decide) ?_
    refine S_no (j := 2) (dj := 5) (b := true) rfl rfl rfl (by decide) ?_
    refine S_no (j := 2) (dj := 5) (b := true) rfl rfl rfl (by decide) ?_
    refine S_no (j := 2) (dj := 5) (b := true) rfl rfl rfl (by decide) ?_
    refine S_no (j := 2) (dj := 5) (b := true) rfl rfl rfl (by decide) ?_
    refine S_list (T_pickT (v := (vB true)) rfl rfl ?_)
    refine sv (v := (vB true)) (x_assign rfl) ?_
    refine wpList_nil (X_then (hK50_ _ _ ?_))
    clear hK50_
    refine C_ret ?_
    refine R_any (v := (vB true)) (run_results1 rfl rfl) ⟨_, rfl, ?_⟩
    refine wpList_nil (X_then (hK48_ _ _ ?_))
    clear hK48_
    refine C_condT rfl ?_
    refine C_seq (fun K51_ hK51_ => C_reg ?_)
    refine sv (v := (vA #[(vI .i64 0), (vI .i64 0)])) (by kernel_rfl) ?_
    refine sv (v := (vA #[(vI .i64 0), (vI .i64 0)])) (by kernel_rfl) ?_
    refine sv (v := (Value.iface 122 (Value.string (ByteArray.mk #[109, 118, 99, 99, 58, 32, 114, 101, 118, 105, 115, 105, 111, 110, 32, 110, 111, 116, 32, 102, 111, 117, 110, 100])))) (by kernel_rfl) ?_
    refine S_list0 (T_storeN (vs := [(vI .i64 0), (vI .i64 0)]) rfl rfl z58 rfl (by simp [Value.oneCell']) H41_ 3 rfl (Nat.le_of_ble_eq_true (by rfl)) ?_)
    intro w52_ S54_ H53_
    have S55_ := Same.trans S45_ S54_
    refine S_list0 (T_storeN (vs := [(vI .i64 0), (vI .i64 0)]) rfl rfl z58 rfl (by simp [Value.oneCell']) H53_ 2 rfl (Nat.le_of_ble_eq_true (by rfl)) ?_)
    intro w56_ S58_ H57_
    have S59_ := Same.trans S55_ S58_
    refine sv (v := (vI .i64 0)) (x_assign rfl) ?_
    refine sv (v := (Value.iface 122 (Value.string (ByteArray.mk #[109, 118, 99, 99, 58, 32, 114, 101, 118, 105, 115, 105, 111, 110, 32, 110, 111, 116, 32, 102, 111, 117, 110, 100])))) (x_assign rfl) ?_
    refine wpList_nil (X_then (hK51_ _ _ ?_))
    clear hK51_
    refine C_ret (X_thenR ?_)
    refine R_any (v := (vT #[(vA #[(vI .i64 0), (vI .i64 0)]), (vA #[(vI .i64 0), (vI .i64 0)]), (vI .i64 0), (Value.iface 122 (Value.string (ByteArray.mk #[109, 118, 99, 99, 58, 32, 114, 101, 118, 105, 115, 105, 111, 110, 32, 110, 111, 116, 32, 102, 111, 117, 110, 100])))])) (run_results4 rfl ⟨_, rfl, load_resN Try.underlying58 rfl z58 rfl (vs := [(vI .i64 0), (vI .i64 0)]) (Holds.cl_cells H57_ 3 rfl 0 rfl)⟩ ⟨_, rfl, load_resN Try.underlying58 rfl z58 rfl (vs := [(vI .i64 0), (vI .i64 0)]) (Holds.cl_cells H57_ 2 rfl 0 rfl)⟩ rfl rfl) ?_
    have H60_ : Holds w56_ (ro R :: cl kb 104 [(vS ka kl kc), (vI .i64 m), (vI .i64 n), gv] :: F) := (Holds.pkF H57_ [0, 0] 3 :)
    exact ⟨_, _, rfl, (.inl ⟨rfl, rfl, (iGet_none he34_)⟩), S59_, H60_⟩
   ·skip
    have S46_ := Same.trans S16_ S42_
    have hfm_ := List.mem_of_getElem? he38_
    have hfg_ := hg1 x36_ hfm_
    have hfb_ := hb2 x36_ hfm_
    have hfv_ := hbv x36_ hfm_
    refine sv (v := (vP (some ⟨(sb gv), so gv + (j35_ * 4 + 0), none⟩))) (x_assign rfl) ?_
    refine wpList_nil (X_then (hK32_ _ _ ?_))
    clear hK32_
    refine C_seq (fun K61_ hK61_ => ?_)
    refine C_seq (fun K62_ hK62_ => C_reg ?_)
    refine sv (v := (vP (some ⟨(sb gv), so gv + (j35_ * 4 + 0), none⟩))) (x_move rfl) ?_
    refine S_list (T_callW (al := [(vP (some ⟨(sb gv), so gv + (j35_ * 4 + 0), none⟩))]) rfl rfl cb69 (Calls.into (n := 13) (al := [(vP (some ⟨(sb gv), so gv + (j35_ * 4 + 0), none⟩))]) Try.func69 rfl Try.ntmps69 rfl rfl ?_))
    refine C_seq (fun K63_ hK63_ => C_reg ?_)
    refine sv (v := (vB false)) (x_assign rfl) ?_
    refine wpList_nil (X_then (hK63_ _ _ ?_))
    clear hK63_
    refine C_seq (fun K64_ hK64_ => C_reg ?_)
    refine sv (v := (vP (some ⟨(sb gv), so gv + (j35_ * 4 + 0), none⟩))) (x_move rfl) ?_
    refine sv (v := (vB false)) (by kernel_rfl) ?_
    refine sv (v := (vB false)) (x_move rfl) ?_
    refine S_yes (j := 2) (dj := 5) (b := false) rfl rfl rfl (T_val (v := (vP (some ⟨(sb gv), so gv + (j35_ * 4 + 0), none⟩))) (x_move rfl) ?_)
    refine S_yes (j := 2) (dj := 5) (b := false) rfl rfl rfl (T_val (v := (vP (some ⟨(sb gv), so gv + (j35_ * 4 + 0), none⟩))) (by kernel_rfl) ?_)
    refine S_yes (j := 2) (dj := 5) (b := false) rfl rfl rfl (T_val (v := (vP (some ⟨(sb gv), so gv + (j35_ * 4 + 3), none⟩))) (by kernel_rfl) ?_)
    refine S_yes (j := 2) (dj := 5) (b := false) rfl rfl rfl (T_val (v := x36_.revs) (x_load1 rfl Try.underlying80 rfl (RC.cell (RS.rc h1) (Holds.ro_at H41_ 0 rfl) (j := j35_ * 4 + 3) (u := x36_.revs) (fm_cell GN.len he38_ (i := 3) rfl))) ?_)
    refine S_yes (j := 2) (dj := 5) (b := false) rfl rfl rfl (T_val (v := (vI .i64 ((List.length x36_.l) : Int))) (x_lenRS rfl hfg_ Try.underlying80) ?_)
    refine S_yes (j := 2) (dj := 5) (b := false) rfl rfl rfl (T_val (v := (vB (decide (((List.length x36_.l) : Int) = 0)))) (x_bin rfl rfl rfl) ?_)
    refine S_list (T_pickF (v := (vB (decide (((List.length x36_.l) : Int) = 0)))) rfl rfl ?_)
    refine sv (v := (vB (decide (((List.length x36_.l) : Int) = 0)))) (x_assign rfl) ?_
    refine wpList_nil (X_then (hK64_ _ _ ?_))
    clear hK64_
    refine C_ret ?_
    refine R_any (v := (vB (decide (((List.length x36_.l) : Int) = 0)))) (run_results1 rfl rfl) ⟨_, rfl, ?_⟩
    refine wpList_nil (X_then (hK62_ _ _ ?_))
    clear hK62_
    refine C_cond (b := decide (((List.length x36_.l) : Int) = 0)) rfl (fun c65_t => ?_) (fun c65_f => ?_)
    ·have c65_tp : ((List.length x36_.l) : Int) = 0 := of_decide_eq_true c65_t
     refine C_seq (fun K66_ hK66_ => C_reg ?_)
     refine sv (v := (vA #[(vI .i64 0), (vI .i64 0)])) (by kernel_rfl) ?_
     refine sv (v := (vA #[(vI .i64 0), (vI .i64 0)])) (by kernel_rfl) ?_
     refine sv (v := (Value.iface 122 (Value.string (ByteArray.mk #[109, 118, 99, 99, 58, 32, 114, 101, 118, 105, 115, 105, 111, 110, 32, 110, 111, 116, 32, 102, 111, 117, 110, 100])))) (by kernel_rfl) ?_
     refine S_list0 (T_storeN (vs := [(vI .i64 0), (vI .i64 0)]) rfl rfl z58 rfl (by simp [Value.oneCell']) H41_ 3 rfl (Nat.le_of_ble_eq_true (by rfl)) ?_)
     intro w67_ S69_ H68_
     have S70_ := Same.trans S46_ S69_
     refine S_list0 (T_storeN (vs := [(vI .i64 0), (vI .i64 0)]) rfl rfl z58 rfl (by simp [Value.oneCell']) H68_ 2 rfl (Nat.le_of_ble_eq_true (by rfl)) ?_)
     intro w71_ S73_ H72_
     have S74_ := Same.trans S70_ S73_
     refine sv (v := (vI .i64 0)) (x_assign rfl) ?_
     refine sv (v := (Value.iface 122 (Value.string (ByteArray.mk #[109, 118, 99, 99, 58, 32, 114, 101, 118, 105, 115, 105, 111, 110, 32, 110, 111, 116, 32, 102, 111, 117, 110, 100])))) (x_assign rfl) ?_
     refine wpList_nil (X_then (hK66_ _ _ ?_))
     clear hK66_
     refine C_ret (X_thenR ?_)
     refine R_any (v := (vT #[(vA #[(vI .i64 0), (vI .i64 0)]), (vA #[(vI .i64 0), (vI .i64 0)]), (vI .i64 0), (Value.iface 122 (Value.string (ByteArray.mk #[109, 118, 99, 99, 58, 32, 114, 101, 118, 105, 115, 105, 111, 110, 32, 110, 111, 116, 32, 102, 111, 117, 110, 100])))])) (run_results4 rfl ⟨_, rfl, load_resN Try.underlying58 rfl z58 rfl (vs := [(vI .i64 0), (vI .i64 0)]) (Holds.cl_cells H72_ 3 rfl 0 rfl)⟩ ⟨_, rfl, load_resN Try.underlying58 rfl z58 rfl (vs := [(vI .i64 0), (vI .i64 0)]) (Holds.cl_cells H72_ 2 rfl 0 rfl)⟩ rfl rfl) ?_
     have H75_ : Holds w71_ (ro R :: cl kb 104 [(vS ka kl kc), (vI .i64 m), (vI .i64 n), gv] :: F) := (Holds.pkF H72_ [0, 0] 3 :)
     exact ⟨_, _, rfl, (.inl ⟨rfl, rfl, (iGet_emp he37_ he38_ c65_tp)⟩), S74_, H75_⟩
    ·have c65_fp : ¬ (((List.length x36_.l) : Int) = 0) := of_decide_eq_false c65_f
     refine C_skip (X_then (hK61_ _ _ ?_))
     clear hK61_
     refine C_seq (fun K76_ hK76_ => C_reg ?_)
     refine sv (v := (vP (some ⟨(sb gv), so gv + (j35_ * 4 + 0), none⟩))) (x_move rfl) ?_
     refine sv (v := (Value.func (.func 72) #[] #[(vP (some ⟨b2_, 0, none⟩))])) (by kernel_rfl) ?_
     have H78_ := ((Holds.bring (Holds.bring H41_ 4 rfl) 1 rfl) :)
     refine S_list (T_call (al := [(vP (some ⟨(sb gv), so gv + (j35_ * 4 + 0), none⟩)), (Value.func (.func 72) #[] #[(vP (some ⟨b2_, 0, none⟩))])]) (pre := [cl b2_ 2 [(vI .i64 at_)]]) rfl rfl cb71 (kWalk R gv N j35_ x36_ b2_ at_ h1 (he38_) (hfg_) (hfb_)) H78_ ?_)
     rintro v77_ p82_ w79_ ⟨rfl, rfl⟩ S81_ H80_
     have S83_ := Same.trans S46_ S81_
     refine sv (v := (vI .i64 ((rLastN x36_.l at_ x36_.l.length : Int) - 1))) (x_assign rfl) ?_
     refine wpList_nil (X_then (hK76_ _ _ ?_))
     clear hK76_
     refine C_seq (fun K84_ hK84_ => ?_)
     refine C_seq (fun K85_ hK85_ => C_reg ?_)
     refine sv (v := (vI .i64 ((rLastN x36_.l at_ x36_.l.length : Int) - 1))) (x_move rfl) ?_
     refine sv (v := (vB (decide ((rLastN x36_.l at_ x36_.l.length : Int) - 1 ≠ -1)))) (x_bin rfl rfl rfl) ?_
     refine wpList_nil (X_then (hK85_ _ _ ?_))
     clear hK85_
     refine C_cond (b := decide ((rLastN x36_.l at_ x36_.l.length : Int) - 1 ≠ -1)) rfl (fun c86_t => ?_) (fun c86_f => ?_)
     ·have c86_tp : (rLastN x36_.l at_ x36_.l.length : Int) - 1 ≠ -1 := of_decide_eq_true c86_t
      have hrl_ := rLastN_le x36_.l at_ x36_.l.length
      refine C_seq (fun K87_ hK87_ => ?_)
      refine A_start (S := fun w => Sub R (hp w)) (N := 28) foll rfl rfl ?_
      have H88_ := Holds.drew_ H80_
      have hq89_ := ((Holds.ro_at H88_ 0 rfl))
      refine A_tk 0 (v := (vP (some ⟨(sb gv), so gv + (j35_ * 4 + 0), none⟩))) rfl (by kernel_rfl) (fun w hS => x_move rfl) hq89_ ?_
      refine A_tk 1 (v := (vP (some ⟨(sb gv), so gv + (j35_ * 4 + 0), none⟩))) rfl (by kernel_rfl) (fun w hS => by kernel_rfl) hq89_ ?_
      refine A_tk 2 (v := (vP (some ⟨(sb gv), so gv + (j35_ * 4 + 3), none⟩))) rfl (by kernel_rfl) (fun w hS => by kernel_rfl) hq89_ ?_
      refine A_tk 3 (v := x36_.revs) rfl (by kernel_rfl) (fun w hS => x_load1 rfl Try.underlying80 rfl (RC.cell (RS.rc h1) hS (j := j35_ * 4 + 3) (u := x36_.revs) (fm_cell GN.len he38_ (i := 3) rfl))) hq89_ ?_
      refine A_tk 4 (v := (vI .i64 ((rLastN x36_.l at_ x36_.l.length : Int) - 1))) rfl (by kernel_rfl) (fun w hS => x_move rfl) hq89_ ?_
      obtain ⟨x90_, hx91_, hm92_⟩ := elem_at x36_.l (((rLastN x36_.l at_ x36_.l.length : Int) - 1).toNat) (by omega)
      refine A_tk 5 (v := (vP (some ⟨(sb x36_.revs), so x36_.revs + ((((rLastN x36_.l at_ x36_.l.length : Int) - 1).toNat) * 2 + 0), none⟩))) rfl (by kernel_rfl) (fun w hS => x_idxRS (v := x36_.revs) rfl hfg_ rfl Try.underlying80 z58 (by omega) (by omega) (by omega : _ = ((rLastN x36_.l at_ x36_.l.length : Int) - 1).toNat) rfl) hq89_ ?_
      refine A_tk 6 (v := (vA #[(vI .i64 x90_.main), (vI .i64 x90_.sub)])) rfl (by kernel_rfl) (fun w hS => x_loadN (vs := [(vI .i64 x90_.main), (vI .i64 x90_.sub)]) rfl Try.underlying58 rfl z58 rfl (RC.cells (RS.rc hfg_) hS ((((rLastN x36_.l at_ x36_.l.length : Int) - 1).toNat) * 2 + 0) (fm_cells RV.len hx91_ (i := 0) rfl))) hq89_ ?_
      refine A_tk 7 (v := (vP (some ⟨(sb gv), so gv + (j35_ * 4 + 0), none⟩))) rfl (by kernel_rfl) (fun w hS => x_move rfl) hq89_ ?_
      refine A_tk 8 (v := (vP (some ⟨(sb gv), so gv + (j35_ * 4 + 0), none⟩))) rfl (by kernel_rfl) (fun w hS => by kernel_rfl) hq89_ ?_
      refine A_tk 9 (v := (vP (some ⟨(sb gv), so gv + (j35_ * 4 + 1), none⟩))) rfl (by kernel_rfl) (fun w hS => by kernel_rfl) hq89_ ?_
      refine A_tk 10 (v := (vA #[(vI .i64 x36_.created_Main), (vI .i64 x36_.created_Sub)])) rfl (by kernel_rfl) (fun w hS => x_loadN (vs := [(vI .i64 x36_.created_Main), (vI .i64 x36_.created_Sub)]) rfl Try.underlying58 rfl z58 rfl (RC.cells (RS.rc h1) hS (j35_ * 4 + 1) (fm_cells GN.len he38_ (i := 1) rfl))) hq89_ ?_
      refine A_tk 11 (v := (vP (some ⟨(sb gv), so gv + (j35_ * 4 + 0), none⟩))) rfl (by kernel_rfl) (fun w hS => x_move rfl) hq89_ ?_
      refine A_tk 12 (v := (vP (some ⟨(sb gv), so gv + (j35_ * 4 + 0), none⟩))) rfl (by kernel_rfl) (fun w hS => by kernel_rfl) hq89_ ?_
      refine A_tk 13 (v := (vP (some ⟨(sb gv), so gv + (j35_ * 4 + 0), none⟩))) rfl (by kernel_rfl) (fun w hS => by kernel_rfl) hq89_ ?_
      refine A_tk 14 (v := (vI .i64 x36_.ver)) rfl (by kernel_rfl) (fun w hS => x_load1 rfl Try.underlying2 rfl (RC.cell (RS.rc h1) hS (j := j35_ * 4 + 0) (u := (vI .i64 x36_.ver)) (fm_cell GN.len he38_ (i := 0) rfl))) hq89_ ?_
      refine A_tk 15 (v := (vP (some ⟨(sb gv), so gv + (j35_ * 4 + 0), none⟩))) rfl (by kernel_rfl) (fun w hS => x_move rfl) hq89_ ?_
      refine A_tk 16 (v := (vP (some ⟨(sb gv), so gv + (j35_ * 4 + 0), none⟩))) rfl (by kernel_rfl) (fun w hS => by kernel_rfl) hq89_ ?_
      refine A_tk 17 (v := (vP (some ⟨(sb gv), so gv + (j35_ * 4 + 3), none⟩))) rfl (by kernel_rfl) (fun w hS => by kernel_rfl) hq89_ ?_
      refine A_tk 18 (v := x36_.revs) rfl (by kernel_rfl) (fun w hS => x_load1 rfl Try.underlying80 rfl (RC.cell (RS.rc h1) hS (j := j35_ * 4 + 3) (u := x36_.revs) (fm_cell GN.len he38_ (i := 3) rfl))) hq89_ ?_
      refine A_tk 19 (v := (vI .i64 ((List.length x36_.l) : Int))) rfl (by kernel_rfl) (fun w hS => x_lenRS rfl hfg_ Try.underlying80) hq89_ ?_
      refine A_tk 20 (v := (vI .i64 ((rLastN x36_.l at_ x36_.l.length : Int) - 1))) rfl (by kernel_rfl) (fun w hS => x_move rfl) hq89_ ?_
      refine A_tk 21 (v := (vI .i64 (((List.length x36_.l) : Int) - ((rLastN x36_.l at_ x36_.l.length : Int) - 1)))) rfl (by kernel_rfl) (fun w hS => x_bin rfl rfl (ib_sub (IntWalk.i64_in _ (by omega)))) hq89_ ?_
      refine A_tk 22 (v := (vI .i64 ((((List.length x36_.l) : Int) - ((rLastN x36_.l at_ x36_.l.length : Int) - 1)) - 1))) rfl (by kernel_rfl) (fun w hS => x_bin rfl rfl (ib_sub (IntWalk.i64_in _ (by omega)))) hq89_ ?_
      refine A_tk 23 (v := (vI .i64 (x36_.ver - ((((List.length x36_.l) : Int) - ((rLastN x36_.l at_ x36_.l.length : Int) - 1)) - 1)))) rfl (by kernel_rfl) (fun w hS => x_bin rfl rfl (ib_sub (IntWalk.i64_in _ (by omega)))) hq89_ ?_
      refine A_ready (i := 24) (rs := []) (by kernel_rfl) ?_
      refine AllR.cons ?_ AllR.nil
      refine A_op0 (ls' := #[true, true, true, true, true, true, true, true, true, true, true, true, true, true, true, true, true, true, true, true, true, true, true, true, true, false, false, false]) rfl (by kernel_rfl) (T_storeN (vs := [(vI .i64 x90_.main), (vI .i64 x90_.sub)]) rfl rfl z58 rfl (by simp [Value.oneCell']) H88_ 4 rfl (Nat.le_of_ble_eq_true (by rfl)) ?_)
      intro w93_ S95_ H94_
      have S96_ := Same.trans (Same.trans S83_ (Same.drew _)) S95_
      refine ⟨((Holds.ro_at H94_ 0 rfl)), ?_⟩
      refine A_ready (i := 25) (rs := []) (by kernel_rfl) ?_
      refine AllR.cons ?_ AllR.nil
      refine A_op0 (ls' := #[true, true, true, true, true, true, true, true, true, true, true, true, true, true, true, true, true, true, true, true, true, true, true, true, true, true, false, false]) rfl (by kernel_rfl) (T_storeN (vs := [(vI .i64 x36_.created_Main), (vI .i64 x36_.created_Sub)]) rfl rfl z58 rfl (by simp [Value.oneCell']) H94_ 3 rfl (Nat.le_of_ble_eq_true (by rfl)) ?_)
      intro w97_ S99_ H98_
      have S100_ := Same.trans S96_ S99_
      refine ⟨((Holds.ro_at H98_ 0 rfl)), ?_⟩
      have hq101_ := ((Holds.ro_at H98_ 0 rfl))
      refine A_tk 26 (v := (vI .i64 (x36_.ver - ((((List.length x36_.l) : Int) - ((rLastN x36_.l at_ x36_.l.length : Int) - 1)) - 1)))) rfl (by kernel_rfl) (fun w hS => x_assign rfl) hq101_ ?_
      refine A_tk 27 (v := (Value.nilIface)) rfl (by kernel_rfl) (fun w hS => x_assign rfl) hq101_ ?_
      refine A_done (by kernel_rfl) ?_
      refine (X_then (hK87_ _ _ ?_))
      clear hK87_
      refine C_ret (X_thenR ?_)
      refine R_any (v := (vT #[(vA #[(vI .i64 x90_.main), (vI .i64 x90_.sub)]), (vA #[(vI .i64 x36_.created_Main), (vI .i64 x36_.created_Sub)]), (vI .i64 (x36_.ver - ((((List.length x36_.l) : Int) - ((rLastN x36_.l at_ x36_.l.length : Int) - 1)) - 1))), (Value.nilIface)])) (run_results4 rfl ⟨_, rfl, load_resN Try.underlying58 rfl z58 rfl (vs := [(vI .i64 x90_.main), (vI .i64 x90_.sub)]) (Holds.cl_cells H98_ 4 rfl 0 rfl)⟩ ⟨_, rfl, load_resN Try.underlying58 rfl z58 rfl (vs := [(vI .i64 x36_.created_Main), (vI .i64 x36_.created_Sub)]) (Holds.cl_cells H98_ 3 rfl 0 rfl)⟩ rfl rfl) ?_
      have H102_ : Holds w97_ (ro R :: cl kb 104 [(vS ka kl kc), (vI .i64 m), (vI .i64 n), gv] :: F) := (Holds.pkF H98_ [0, 1] 3 :)
      exact ⟨_, _, rfl, (.inr ⟨x90_.main, x90_.sub, x36_.created_Main, x36_.created_Sub, x36_.ver - ((((List.length x36_.l) : Int) - ((rLastN x36_.l at_ x36_.l.length : Int) - 1)) - 1), rfl, rfl, (iGet_yes he37_ he38_ c65_fp c86_tp hx91_)⟩), S100_, H102_⟩
     ·have c86_fp : ¬ ((rLastN x36_.l at_ x36_.l.length : Int) - 1 ≠ -1) := of_decide_eq_false c86_f
      have hrl_ := rLastN_le x36_.l at_ x36_.l.length
      refine C_skip (X_then (hK84_ _ _ ?_))
      clear hK84_
      refine C_seq (fun K103_ hK103_ => C_reg ?_)
      refine sv (v := (vA #[(vI .i64 0), (vI .i64 0)])) (by kernel_rfl) ?_
      refine sv (v := (vA #[(vI .i64 0), (vI .i64 0)])) (by kernel_rfl) ?_
      refine sv (v := (Value.iface 122 (Value.string (ByteArray.mk #[109, 118, 99, 99, 58, 32, 114, 101, 118, 105, 115, 105, 111, 110, 32, 110, 111, 116, 32, 102, 111, 117, 110, 100])))) (by kernel_rfl) ?_
      refine S_list0 (T_storeN (vs := [(vI .i64 0), (vI .i64 0)]) rfl rfl z58 rfl (by simp [Value.oneCell']) H80_ 4 rfl (Nat.le_of_ble_eq_true (by rfl)) ?_)
      intro w104_ S106_ H105_
      have S107_ := Same.trans S83_ S106_
      refine S_list0 (T_storeN (vs := [(vI .i64 0), (vI .i64 0)]) rfl rfl z58 rfl (by simp [Value.oneCell']) H105_ 3 rfl (Nat.le_of_ble_eq_true (by rfl)) ?_)
      intro w108_ S110_ H109_
      have S111_ := Same.trans S107_ S110_
      refine sv (v := (vI .i64 0)) (x_assign rfl) ?_
      refine sv (v := (Value.iface 122 (Value.string (ByteArray.mk #[109, 118, 99, 99, 58, 32, 114, 101, 118, 105, 115, 105, 111, 110, 32, 110, 111, 116, 32, 102, 111, 117, 110, 100])))) (x_assign rfl) ?_
      refine wpList_nil (X_then (hK103_ _ _ ?_))
      clear hK103_
      refine C_ret ?_
      refine R_any (v := (vT #[(vA #[(vI .i64 0), (vI .i64 0)]), (vA #[(vI .i64 0), (vI .i64 0)]), (vI .i64 0), (Value.iface 122 (Value.string (ByteArray.mk #[109, 118, 99, 99, 58, 32, 114, 101, 118, 105, 115, 105, 111, 110, 32, 110, 111, 116, 32, 102, 111, 117, 110, 100])))])) (run_results4 rfl ⟨_, rfl, load_resN Try.underlying58 rfl z58 rfl (vs := [(vI .i64 0), (vI .i64 0)]) (Holds.cl_cells H109_ 4 rfl 0 rfl)⟩ ⟨_, rfl, load_resN Try.underlying58 rfl z58 rfl (vs := [(vI .i64 0), (vI .i64 0)]) (Holds.cl_cells H109_ 3 rfl 0 rfl)⟩ rfl rfl) ?_
      have H112_ : Holds w108_ (ro R :: cl kb 104 [(vS ka kl kc), (vI .i64 m), (vI .i64 n), gv] :: F) := (Holds.pkF H109_ [0, 1] 3 :)
      exact ⟨_, _, rfl, (.inl ⟨rfl, rfl, (iGet_no he37_ he38_ c65_fp c86_fp)⟩), S111_, H112_⟩
 ·have c21_fp : ¬ (((List.length N) : Int) = 1) := of_decide_eq_false c21_f
  refine S_no (j := 6) (dj := 9) (b := false) rfl rfl (congrArg vB c21_f) (by decide) ?_
  refine S_no (j := 6) (dj := 9) (b := false) rfl rfl (congrArg vB c21_f) (by decide) ?_
  refine S_no (j := 6) (dj := 9) (b := false) rfl rfl (congrArg vB c21_f) (by decide) ?_
  refine S_no (j := 6) (dj := 9) (b := false) rfl rfl (congrArg vB c21_f) (by decide) ?_
  refine S_no (j := 6) (dj := 9) (b := false) rfl rfl (congrArg vB c21_f) (by decide) ?_
  refine S_no (j := 6) (dj := 9) (b := false) rfl rfl (congrArg vB c21_f) (by decide) ?_
  refine S_list (T_pickF (v := (vB false)) (congrArg vB c21_f) rfl ?_)
  refine sv (v := (vB false)) (x_assign rfl) ?_
  refine wpList_nil (X_then (hK20_ _ _ ?_))
  clear hK20_
  refine C_ret ?_
  refine R_any (v := (vB false)) (run_results1 rfl rfl) ⟨_, rfl, ?_⟩
  refine wpList_nil (X_then (hK18_ _ _ ?_))
  clear hK18_
  refine C_condF rfl ?_
  refine C_skip (X_then (hK17_ _ _ ?_))
  clear hK17_
  refine C_seq (fun K113_ hK113_ => C_reg ?_)
  refine sv (v := (vP (some ⟨kb, 0, none⟩))) (x_move rfl) ?_
  refine sv (v := (vI .i64 at_)) (x_load1 rfl Try.underlying2 rfl ((Holds.rd H14_ 2 rfl) 0 (vI .i64 at_) rfl)) ?_
  have H120_ := ((Holds.bring (Holds.bring H14_ 4 rfl) 4 rfl) :)
  refine S_list (T_call (al := [(vP (some ⟨kb, 0, none⟩)), (vI .i64 at_)]) (pre := [cl kb 104 [(vS ka kl kc), (vI .i64 m), (vI .i64 n), gv]]) rfl rfl cb70 (kFind R kb ka kl kc m n gv N at_ h1 (by first | assumption | omega) (by first | assumption | omega) (by first | assumption | omega)) H120_ ?_)
  rintro v114_ p124_ w121_ hq125_ S123_ H122_
  rcases hq125_ with ⟨rfl, rfl, he115_⟩ | ⟨j116_, x117_, rfl, rfl, he118_, he119_⟩
  ·skip
   have S126_ := Same.trans S16_ S123_
   refine sv (v := (vP none)) (x_assign rfl) ?_
   refine wpList_nil (X_then (hK113_ _ _ ?_))
   clear hK113_
   refine C_seq (fun K128_ hK128_ => ?_)
   refine C_seq (fun K129_ hK129_ => C_reg ?_)
   refine sv (v := (vP none)) (x_move rfl) ?_
   refine S_list (T_callW (al := [(vP none)]) rfl rfl cb69 (Calls.into (n := 13) (al := [(vP none)]) Try.func69 rfl Try.ntmps69 rfl rfl ?_))
   refine C_seq (fun K130_ hK130_ => C_reg ?_)
   refine sv (v := (vB false)) (x_assign rfl) ?_
   refine wpList_nil (X_then (hK130_ _ _ ?_))
   clear hK130_
   refine C_seq (fun K131_ hK131_ => C_reg ?_)
   refine sv (v := (vP none)) (x_move rfl) ?_
   refine sv (v := (vB true)) (by kernel_rfl) ?_
   refine sv (v := (vB true)) (x_move rfl) ?_
   refine S_no (j := 2) (dj := 5) (b := true) rfl rfl rfl (by decide) ?_
   refine S_no (j := 2) (dj := 5) (b := true) rfl rfl rfl (by decide) ?_
   refine S_no (j := 2) (dj := 5) (b := true) rfl rfl rfl (by decide) ?_
   refine S_no (j := 2) (dj := 5) (b := true) rfl rfl rfl (by decide) ?_
   refine S_no (j := 2) (dj := 5) (b := true) rfl rfl rfl (by decide) ?_
   refine S_no (j := 2) (dj := 5) (b := true) rfl rfl rfl (by decide) ?_
   refine S_list (T_pickT (v := (vB true)) rfl rfl ?_)
   refine sv (v := (vB true)) (x_assign rfl) ?_
   refine wpList_nil (X_then (hK131_ _ _ ?_))
   clear hK131_
   refine C_ret ?_
   refine R_any (v := (vB true)) (run_results1 rfl rfl) ⟨_, rfl, ?_⟩
   refine wpList_nil (X_then (hK129_ _ _ ?_))
   clear hK129_
   refine C_condT rfl ?_
   refine C_seq (fun K132_ hK132_ => C_reg ?_)
   refine sv (v := (vA #[(vI .i64 0), (vI .i64 0)])) (by kernel_rfl) ?_
   refine sv (v := (vA #[(vI .i64 0), (vI .i64 0)])) (by kernel_rfl) ?_
   refine sv (v := (Value.iface 122 (Value.string (ByteArray.mk #[109, 118, 99, 99, 58, 32, 114, 101, 118, 105, 115, 105, 111, 110, 32, 110, 111, 116, 32, 102, 111, 117, 110, 100])))) (by kernel_rfl) ?_
   refine S_list0 (T_storeN (vs := [(vI .i64 0), (vI .i64 0)]) rfl rfl z58 rfl (by simp [Value.oneCell']) H122_ 3 rfl (Nat.le_of_ble_eq_true (by rfl)) ?_)
   intro w133_ S135_ H134_
   have S136_ := Same.trans S126_ S135_
   refine S_list0 (T_storeN (vs := [(vI .i64 0), (vI .i64 0)]) rfl rfl z58 rfl (by simp [Value.oneCell']) H134_ 2 rfl (Nat.le_of_ble_eq_true (by rfl)) ?_)
   intro w137_ S139_ H138_
   have S140_ := Same.trans S136_ S139_
   refine sv (v := (vI .i64 0)) (x_assign rfl) ?_
   refine sv (v := (Value.iface 122 (Value.string (ByteArray.mk #[109, 118, 99, 99, 58, 32, 114, 101, 118, 105, 115, 105, 111, 110, 32, 110, 111, 116, 32, 102, 111, 117, 110, 100])))) (x_assign rfl) ?_
   refine wpList_nil (X_then (hK132_ _ _ ?_))
   clear hK132_
   refine C_ret (X_thenR ?_)
   refine R_any (v := (vT #[(vA #[(vI .i64 0), (vI .i64 0)]), (vA #[(vI .i64 0), (vI .i64 0)]), (vI .i64 0), (Value.iface 122 (Value.string (ByteArray.mk #[109, 118, 99, 99, 58, 32, 114, 101, 118, 105, 115, 105, 111, 110, 32, 110, 111, 116, 32, 102, 111, 117, 110, 100])))])) (run_results4 rfl ⟨_, rfl, load_resN Try.underlying58 rfl z58 rfl (vs := [(vI .i64 0), (vI .i64 0)]) (Holds.cl_cells H138_ 3 rfl 0 rfl)⟩ ⟨_, rfl, load_resN Try.underlying58 rfl z58 rfl (vs := [(vI .i64 0), (vI .i64 0)]) (Holds.cl_cells H138_ 2 rfl 0 rfl)⟩ rfl rfl) ?_
   have H141_ : Holds w137_ (ro R :: cl kb 104 [(vS ka kl kc), (vI .i64 m), (vI .i64 n), gv] :: F) := (Holds.pkF H138_ [0, 0] 3 :)
   exact ⟨_, _, rfl, (.inl ⟨rfl, rfl, (iGet_none he115_)⟩), S140_, H141_⟩
  ·skip
   have S127_ := Same.trans S16_ S123_
   have hfm_ := List.mem_of_getElem? he119_
   have hfg_ := hg1 x117_ hfm_
   have hfb_ := hb2 x117_ hfm_
   have hfv_ := hbv x117_ hfm_
   refine sv (v := (vP (some ⟨(sb gv), so gv + (j116_ * 4 + 0), none⟩))) (x_assign rfl) ?_
   refine wpList_nil (X_then (hK113_ _ _ ?_))
   clear hK113_
   refine C_seq (fun K142_ hK142_ => ?_)
   refine C_seq (fun K143_ hK143_ => C_reg ?_)
   refine sv (v := (vP (some ⟨(sb gv), so gv + (j116_ * 4 + 0), none⟩))) (x_move rfl) ?_
   refine S_list (T_callW (al := [(vP (some ⟨(sb gv), so gv + (j116_ * 4 + 0), none⟩))]) rfl rfl cb69 (Calls.into (n := 13) (al := [(vP (some ⟨(sb gv), so gv + (j116_ * 4 + 0), none⟩))]) Try.func69 rfl Try.ntmps69 rfl rfl ?_))
   refine C_seq (fun K144_ hK144_ => C_reg ?_)
   refine sv (v := (vB false)) (x_assign rfl) ?_
   refine wpList_nil (X_then (hK144_ _ _ ?_))
   clear hK144_
   refine C_seq (fun K145_ hK145_ => C_reg ?_)
   refine sv (v := (vP (some ⟨(sb gv), so gv + (j116_ * 4 + 0), none⟩))) (x_move rfl) ?_
   refine sv (v := (vB false)) (by kernel_rfl) ?_
   refine sv (v := (vB false)) (x_move rfl) ?_
   refine S_yes (j := 2) (dj := 5) (b := false) rfl rfl rfl (T_val (v := (vP (some ⟨(sb gv), so gv + (j116_ * 4 + 0), none⟩))) (x_move rfl) ?_)
   refine S_yes (j := 2) (dj := 5) (b := false) rfl rfl rfl (T_val (v := (vP (some ⟨(sb gv), so gv + (j116_ * 4 + 0), none⟩))) (by kernel_rfl) ?_)
   refine S_yes (j := 2) (dj := 5) (b := false) rfl rfl rfl (T_val (v := (vP (some ⟨(sb gv), so gv + (j116_ * 4 + 3), none⟩))) (by kernel_rfl) ?_)
   refine S_yes (j := 2) (dj := 5) (b := false) rfl rfl rfl (T_val (v := x117_.revs) (x_load1 rfl Try.underlying80 rfl (RC.cell (RS.rc h1) (Holds.ro_at H122_ 0 rfl) (j := j116_ * 4 + 3) (u := x117_.revs) (fm_cell GN.len he119_ (i := 3) rfl))) ?_)
   refine S_yes (j := 2) (dj := 5) (b := false) rfl rfl rfl (T_val (v := (vI .i64 ((List.length x117_.l) : Int))) (x_lenRS rfl hfg_ Try.underlying80) ?_)
   refine S_yes (j := 2) (dj := 5) (b := false) rfl rfl rfl (T_val (v := (vB (decide (((List.length x117_.l) : Int) = 0)))) (x_bin rfl rfl rfl) ?_)
   refine S_list (T_pickF (v := (vB (decide (((List.length x117_.l) : Int) = 0)))) rfl rfl ?_)
   refine sv (v := (vB (decide (((List.length x117_.l) : Int) = 0)))) (x_assign rfl) ?_
   refine wpList_nil (X_then (hK145_ _ _ ?_))
   clear hK145_
   refine C_ret ?_
   refine R_any (v := (vB (decide (((List.length x117_.l) : Int) = 0)))) (run_results1 rfl rfl) ⟨_, rfl, ?_⟩
   refine wpList_nil (X_then (hK143_ _ _ ?_))
   clear hK143_
   refine C_cond (b := decide (((List.length x117_.l) : Int) = 0)) rfl (fun c146_t => ?_) (fun c146_f => ?_)
   ·have c146_tp : ((List.length x117_.l) : Int) = 0 := of_decide_eq_true c146_t
    refine C_seq (fun K147_ hK147_ => C_reg ?_)
    refine sv (v := (vA #[(vI .i64 0), (vI .i64 0)])) (by kernel_rfl) ?_
    refine sv (v := (vA #[(vI .i64 0), (vI .i64 0)])) (by kernel_rfl) ?_
    refine sv (v := (Value.iface 122 (Value.string (ByteArray.mk #[109, 118, 99, 99, 58, 32, 114, 101, 118, 105, 115, 105, 111, 110, 32, 110, 111, 116, 32, 102, 111, 117, 110, 100])))) (by kernel_rfl) ?_
    refine S_list0 (T_storeN (vs := [(vI .i64 0), (vI .i64 0)]) rfl rfl z58 rfl (by simp [Value.oneCell']) H122_ 3 rfl (Nat.le_of_ble_eq_true (by rfl)) ?_)
    intro w148_ S150_ H149_
    have S151_ := Same.trans S127_ S150_
    refine S_list0 (T_storeN (vs := [(vI .i64 0), (vI .i64 0)]) rfl rfl z58 rfl (by simp [Value.oneCell']) H149_ 2 rfl (Nat.le_of_ble_eq_true (by rfl)) ?_)
    intro w152_ S154_ H153_
    have S155_ := Same.trans S151_ S154_
    refine sv (v := (vI .i64 0)) (x_assign rfl) ?_
    refine sv (v := (Value.iface 122 (Value.string (ByteArray.mk #[109, 118, 99, 99, 58, 32, 114, 101, 118, 105, 115, 105, 111, 110, 32, 110, 111, 116, 32, 102, 111, 117, 110, 100])))) (x_assign rfl) ?_
    refine wpList_nil (X_then (hK147_ _ _ ?_))
    clear hK147_
    refine C_ret (X_thenR ?_)
    refine R_any (v := (vT #[(vA #[(vI .i64 0), (vI .i64 0)]), (vA #[(vI .i64 0), (vI .i64 0)]), (vI .i64 0), (Value.iface 122 (Value.string (ByteArray.mk #[109, 118, 99, 99, 58, 32, 114, 101, 118, 105, 115, 105, 111, 110, 32, 110, 111, 116, 32, 102, 111, 117, 110, 100])))])) (run_results4 rfl ⟨_, rfl, load_resN Try.underlying58 rfl z58 rfl (vs := [(vI .i64 0), (vI .i64 0)]) (Holds.cl_cells H153_ 3 rfl 0 rfl)⟩ ⟨_, rfl, load_resN Try.underlying58 rfl z58 rfl (vs := [(vI .i64 0), (vI .i64 0)]) (Holds.cl_cells H153_ 2 rfl 0 rfl)⟩ rfl rfl) ?_
    have H156_ : Holds w152_ (ro R :: cl kb 104 [(vS ka kl kc), (vI .i64 m), (vI .i64 n), gv] :: F) := (Holds.pkF H153_ [0, 0] 3 :)
    exact ⟨_, _, rfl, (.inl ⟨rfl, rfl, (iGet_emp he118_ he119_ c146_tp)⟩), S155_, H156_⟩
   ·have c146_fp : ¬ (((List.length x117_.l) : Int) = 0) := of_decide_eq_false c146_f
    refine C_skip (X_then (hK142_ _ _ ?_))
    clear hK142_
    refine C_seq (fun K157_ hK157_ => C_reg ?_)
    refine sv (v := (vP (some ⟨(sb gv), so gv + (j116_ * 4 + 0), none⟩))) (x_move rfl) ?_
    refine sv (v := (Value.func (.func 72) #[] #[(vP (some ⟨b2_, 0, none⟩))])) (by kernel_rfl) ?_
    have H159_ := ((Holds.bring (Holds.bring H122_ 4 rfl) 1 rfl) :)
    refine S_list (T_call (al := [(vP (some ⟨(sb gv), so gv + (j116_ * 4 + 0), none⟩)), (Value.func (.func 72) #[] #[(vP (some ⟨b2_, 0, none⟩))])]) (pre := [cl b2_ 2 [(vI .i64 at_)]]) rfl rfl cb71 (kWalk R gv N j116_ x117_ b2_ at_ h1 (he119_) (hfg_) (hfb_)) H159_ ?_)
    rintro v158_ p163_ w160_ ⟨rfl, rfl⟩ S162_ H161_
    have S164_ := Same.trans S127_ S162_
    refine sv (v := (vI .i64 ((rLastN x117_.l at_ x117_.l.length : Int) - 1))) (x_assign rfl) ?_
    refine wpList_nil (X_then (hK157_ _ _ ?_))
    clear hK157_
    refine C_seq (fun K165_ hK165_ => ?_)
    refine C_seq (fun K166_ hK166_ => C_reg ?_)
    refine sv (v := (vI .i64 ((rLastN x117_.l at_ x117_.l.length : Int) - 1))) (x_move rfl) ?_
    refine sv (v := (vB (decide ((rLastN x117_.l at_ x117_.l.length : Int) - 1 ≠ -1)))) (x_bin rfl rfl rfl) ?_
    refine wpList_nil (X_then (hK166_ _ _ ?_))
    clear hK166_
    refine C_cond (b := decide ((rLastN x117_.l at_ x117_.l.length : Int) - 1 ≠ -1)) rfl (fun c167_t => ?_) (fun c167_f => ?_)
    ·have c167_tp : (rLastN x117_.l at_ x117_.l.length : Int) - 1 ≠ -1 := of_decide_eq_true c167_t
     have hrl_ := rLastN_le x117_.l at_ x117_.l.length
     refine C_seq (fun K168_ hK168_ => ?_)
     refine A_start (S := fun w => Sub R (hp w)) (N := 28) foll rfl rfl ?_
     have H169_ := Holds.drew_ H161_
     have hq170_ := ((Holds.ro_at H169_ 0 rfl))
     refine A_tk 0 (v := (vP (some ⟨(sb gv), so gv + (j116_ * 4 + 0), none⟩))) rfl (by kernel_rfl) (fun w hS => x_move rfl) hq170_ ?_
     refine A_tk 1 (v := (vP (some ⟨(sb gv), so gv + (j116_ * 4 + 0), none⟩))) rfl (by kernel_rfl) (fun w hS => by kernel_rfl) hq170_ ?_
     refine A_tk 2 (v := (vP (some ⟨(sb gv), so gv + (j116_ * 4 + 3), none⟩))) rfl (by kernel_rfl) (fun w hS => by kernel_rfl) hq170_ ?_
     refine A_tk 3 (v := x117_.revs) rfl (by kernel_rfl) (fun w hS => x_load1 rfl Try.underlying80 rfl (RC.cell (RS.rc h1) hS (j := j116_ * 4 + 3) (u := x117_.revs) (fm_cell GN.len he119_ (i := 3) rfl))) hq170_ ?_
     refine A_tk 4 (v := (vI .i64 ((rLastN x117_.l at_ x117_.l.length : Int) - 1))) rfl (by kernel_rfl) (fun w hS => x_move rfl) hq170_ ?_
     obtain ⟨x171_, hx172_, hm173_⟩ := elem_at x117_.l (((rLastN x117_.l at_ x117_.l.length : Int) - 1).toNat) (by omega)
     refine A_tk 5 (v := (vP (some ⟨(sb x117_.revs), so x117_.revs + ((((rLastN x117_.l at_ x117_.l.length : Int) - 1).toNat) * 2 + 0), none⟩))) rfl (by kernel_rfl) (fun w hS => x_idxRS (v := x117_.revs) rfl hfg_ rfl Try.underlying80 z58 (by omega) (by omega) (by omega : _ = ((rLastN x117_.l at_ x117_.l.length : Int) - 1).toNat) rfl) hq170_ ?_
     refine A_tk 6 (v := (vA #[(vI .i64 x171_.main), (vI .i64 x171_.sub)])) rfl (by kernel_rfl) (fun w hS => x_loadN (vs := [(vI .i64 x171_.main), (vI .i64 x171_.sub)]) rfl Try.underlying58 rfl z58 rfl (RC.cells (RS.rc hfg_) hS ((((rLastN x117_.l at_ x117_.l.length : Int) - 1).toNat) * 2 + 0) (fm_cells RV.len hx172_ (i := 0) rfl))) hq170_ ?_
     refine A_tk 7 (v := (vP (some ⟨(sb gv), so gv + (j116_ * 4 + 0), none⟩))) rfl (by kernel_rfl) (fun w hS => x_move rfl) hq170_ ?_
     refine A_tk 8 (v := (vP (some ⟨(sb gv), so gv + (j116_ * 4 + 0), none⟩))) rfl (by kernel_rfl) (fun w hS => by kernel_rfl) hq170_ ?_
     refine A_tk 9 (v := (vP (some ⟨(sb gv), so gv + (j116_ * 4 + 1), none⟩))) rfl (by kernel_rfl) (fun w hS => by kernel_rfl) hq170_ ?_
     refine A_tk 10 (v := (vA #[(vI .i64 x117_.created_Main), (vI .i64 x117_.created_Sub)])) rfl (by kernel_rfl) (fun w hS => x_loadN (vs := [(vI .i64 x117_.created_Main), (vI .i64 x117_.created_Sub)]) rfl Try.underlying58 rfl z58 rfl (RC.cells (RS.rc h1) hS (j116_ * 4 + 1) (fm_cells GN.len he119_ (i := 1) rfl))) hq170_ ?_
     refine A_tk 11 (v := (vP (some ⟨(sb gv), so gv + (j116_ * 4 + 0), none⟩))) rfl (by kernel_rfl) (fun w hS => x_move rfl) hq170_ ?_
     refine A_tk 12 (v := (vP (some ⟨(sb gv), so gv + (j116_ * 4 + 0), none⟩))) rfl (by kernel_rfl) (fun w hS => by kernel_rfl) hq170_ ?_
     refine A_tk 13 (v := (vP (some ⟨(sb gv), so gv + (j116_ * 4 + 0), none⟩))) rfl (by kernel_rfl) (fun w hS => by kernel_rfl) hq170_ ?_
     refine A_tk 14 (v := (vI .i64 x117_.ver)) rfl (by kernel_rfl) (fun w hS => x_load1 rfl Try.underlying2 rfl (RC.cell (RS.rc h1) hS (j := j116_ * 4 + 0) (u := (vI .i64 x117_.ver)) (fm_cell GN.len he119_ (i := 0) rfl))) hq170_ ?_
     refine A_tk 15 (v := (vP (some ⟨(sb gv), so gv + (j116_ * 4 + 0), none⟩))) rfl (by kernel_rfl) (fun w hS => x_move rfl) hq170_ ?_
     refine A_tk 16 (v := (vP (some ⟨(sb gv), so gv + (j116_ * 4 + 0), none⟩))) rfl (by kernel_rfl) (fun w hS => by kernel_rfl) hq170_ ?_
     refine A_tk 17 (v := (vP (some ⟨(sb gv), so gv + (j116_ * 4 + 3), none⟩))) rfl (by kernel_rfl) (fun w hS => by kernel_rfl) hq170_ ?_
     refine A_tk 18 (v := x117_.revs) rfl (by kernel_rfl) (fun w hS => x_load1 rfl Try.underlying80 rfl (RC.cell (RS.rc h1) hS (j := j116_ * 4 + 3) (u := x117_.revs) (fm_cell GN.len he119_ (i := 3) rfl))) hq170_ ?_
     refine A_tk 19 (v := (vI .i64 ((List.length x117_.l) : Int))) rfl (by kernel_rfl) (fun w hS => x_lenRS rfl hfg_ Try.underlying80) hq170_ ?_
     refine A_tk 20 (v := (vI .i64 ((rLastN x117_.l at_ x117_.l.length : Int) - 1))) rfl (by kernel_rfl) (fun w hS => x_move rfl) hq170_ ?_
     refine A_tk 21 (v := (vI .i64 (((List.length x117_.l) : Int) - ((rLastN x117_.l at_ x117_.l.length : Int) - 1)))) rfl (by kernel_rfl) (fun w hS => x_bin rfl rfl (ib_sub (IntWalk.i64_in _ (by omega)))) hq170_ ?_
     refine A_tk 22 (v := (vI .i64 ((((List.length x117_.l) : Int) - ((rLastN x117_.l at_ x117_.l.length : Int) - 1)) - 1))) rfl (by kernel_rfl) (fun w hS => x_bin rfl rfl (ib_sub (IntWalk.i64_in _ (by omega)))) hq170_ ?_
     refine A_tk 23 (v := (vI .i64 (x117_.ver - ((((List.length x117_.l) : Int) - ((rLastN x117_.l at_ x117_.l.length : Int) - 1)) - 1)))) rfl (by kernel_rfl) (fun w hS => x_bin rfl rfl (ib_sub (IntWalk.i64_in _ (by omega)))) hq170_ ?_
     refine A_ready (i := 24) (rs := []) (by kernel_rfl) ?_
     refine AllR.cons ?_ AllR.nil
     refine A_op0 (ls' := #[true, true, true, true, true, true, true, true, true, true, true, true, true, true, true, true, true, true, true, true, true, true, true, true, true, false, false, false]) rfl (by kernel_rfl) (T_storeN (vs := [(vI .i64 x171_.main), (vI .i64 x171_.sub)]) rfl rfl z58 rfl (by simp [Value.oneCell']) H169_ 4 rfl (Nat.le_of_ble_eq_true (by rfl)) ?_)
     intro w174_ S176_ H175_
     have S177_ := Same.trans (Same.trans S164_ (Same.drew _)) S176_
     refine ⟨((Holds.ro_at H175_ 0 rfl)), ?_⟩
     refine A_ready (i := 25) (rs := []) (by kernel_rfl) ?_
     refine AllR.cons ?_ AllR.nil
     refine A_op0 (ls' := #[true, true, true, true, true, true, true, true, true, true, true, true, true, true, true, true, true, true, true, true, true, true, true, true, true, true, false, false]) rfl (by kernel_rfl) (T_storeN (vs := [(vI .i64 x117_.created_Main), (vI .i64 x117_.created_Sub)]) rfl rfl z58 rfl (by simp [Value.oneCell']) H175_ 3 rfl (Nat.le_of_ble_eq_true (by rfl)) ?_)
     intro w178_ S180_ H179_
     have S181_ := Same.trans S177_ S180_
     refine ⟨((Holds.ro_at H179_ 0 rfl)), ?_⟩
     have hq182_ := ((Holds.ro_at H179_ 0 rfl))
     refine A_tk 26 (v := (vI .i64 (x117_.ver - ((((List.length x117_.l) : Int) - ((rLastN x117_.l at_ x117_.l.length : Int) - 1)) - 1)))) rfl (by kernel_rfl) (fun w hS => x_assign rfl) hq182_ ?_
     refine A_tk 27 (v := (Value.nilIface)) rfl (by kernel_rfl) (fun w hS => x_assign rfl) hq182_ ?_
     refine A_done (by kernel_rfl) ?_
     refine (X_then (hK168_ _ _ ?_))
     clear hK168_
     refine C_ret (X_thenR ?_)
     refine R_any (v := (vT #[(vA #[(vI .i64 x171_.main), (vI .i64 x171_.sub)]), (vA #[(vI .i64 x117_.created_Main), (vI .i64 x117_.created_Sub)]), (vI .i64 (x117_.ver - ((((List.length x117_.l) : Int) - ((rLastN x117_.l at_ x117_.l.length : Int) - 1)) - 1))), (Value.nilIface)])) (run_results4 rfl ⟨_, rfl, load_resN Try.underlying58 rfl z58 rfl (vs := [(vI .i64 x171_.main), (vI .i64 x171_.sub)]) (Holds.cl_cells H179_ 4 rfl 0 rfl)⟩ ⟨_, rfl, load_resN Try.underlying58 rfl z58 rfl (vs := [(vI .i64 x117_.created_Main), (vI .i64 x117_.created_Sub)]) (Holds.cl_cells H179_ 3 rfl 0 rfl)⟩ rfl rfl) ?_
     have H183_ : Holds w178_ (ro R :: cl kb 104 [(vS ka kl kc), (vI .i64 m), (vI .i64 n), gv] :: F) := (Holds.pkF H179_ [0, 1] 3 :)
     exact ⟨_, _, rfl, (.inr ⟨x171_.main, x171_.sub, x117_.created_Main, x117_.created_Sub, x117_.ver - ((((List.length x117_.l) : Int) - ((rLastN x117_.l at_ x117_.l.length : Int) - 1)) - 1), rfl, rfl, (iGet_yes he118_ he119_ c146_fp c167_tp hx172_)⟩), S181_, H183_⟩
    ·have c167_fp : ¬ ((rLastN x117_.l at_ x117_.l.length : Int) - 1 ≠ -1) := of_decide_eq_false c167_f
     have hrl_ := rLastN_le x117_.l at_ x117_.l.length
     refine C_skip (X_then (hK165_ _ _ ?_))
     clear hK165_
     refine C_seq (fun K184_ hK184_ => C_reg ?_)
     refine sv (v := (vA #[(vI .i64 0), (vI .i64 0)])) (by kernel_rfl) ?_
     refine sv (v := (vA #[(vI .i64 0), (vI .i64 0)])) (by kernel_rfl) ?_
     refine sv (v := (Value.iface 122 (Value.string (ByteArray.mk #[109, 118, 99, 99, 58, 32, 114, 101, 118, 105, 115, 105, 111, 110, 32, 110, 111, 116, 32, 102, 111, 117, 110, 100])))) (by kernel_rfl) ?_
     refine S_list0 (T_storeN (vs := [(vI .i64 0), (vI .i64 0)]) rfl rfl z58 rfl (by simp [Value.oneCell']) H161_ 4 rfl (Nat.le_of_ble_eq_true (by rfl)) ?_)
     intro w185_ S187_ H186_
     have S188_ := Same.trans S164_ S187_
     refine S_list0 (T_storeN (vs := [(vI .i64 0), (vI .i64 0)]) rfl rfl z58 rfl (by simp [Value.oneCell']) H186_ 3 rfl (Nat.le_of_ble_eq_true (by rfl)) ?_)
     intro w189_ S191_ H190_
     have S192_ := Same.trans S188_ S191_
     refine sv (v := (vI .i64 0)) (x_assign rfl) ?_
     refine sv (v := (Value.iface 122 (Value.string (ByteArray.mk #[109, 118, 99, 99, 58, 32, 114, 101, 118, 105, 115, 105, 111, 110, 32, 110, 111, 116, 32, 102, 111, 117, 110, 100])))) (x_assign rfl) ?_
     refine wpList_nil (X_then (hK184_ _ _ ?_))
     clear hK184_
     refine C_ret ?_
     refine R_any (v := (vT #[(vA #[(vI .i64 0), (vI .i64 0)]), (vA #[(vI .i64 0), (vI .i64 0)]), (vI .i64 0), (Value.iface 122 (Value.string (ByteArray.mk #[109, 118, 99, 99, 58, 32, 114, 101, 118, 105, 115, 105, 111, 110, 32, 110, 111, 116, 32, 102, 111, 117, 110, 100])))])) (run_results4 rfl ⟨_, rfl, load_resN Try.underlying58 rfl z58 rfl (vs := [(vI .i64 0), (vI .i64 0)]) (Holds.cl_cells H190_ 4 rfl 0 rfl)⟩ ⟨_, rfl, load_resN Try.underlying58 rfl z58 rfl (vs := [(vI .i64 0), (vI .i64 0)]) (Holds.cl_cells H190_ 3 rfl 0 rfl)⟩ rfl rfl) ?_
     have H193_ : Holds w189_ (ro R :: cl kb 104 [(vS ka kl kc), (vI .i64 m), (vI .i64 n), gv] :: F) := (Holds.pkF H190_ [0, 1] 3 :)
     exact ⟨_, _, rfl, (.inl ⟨rfl, rfl, (iGet_no he118_ he119_ c146_fp c167_fp)⟩), S192_, H193_⟩
end Go.Proofs.Ytiblemgccgbhoaa
set_option linter.unusedVariables false
set_option linter.unusedSimpArgs false
namespace Go.Proofs.Ytiblemgccgbhoaa
open Go Go.RowKit Gw
open Go.Value renaming int → vI, bool → vB, slice → vS, pointer → vP, agg → vA, tuple → vT

theorem kGet (R : HP) (kb : Nat) (ka : Option Addr) (kl kc : Nat) (m n : Int) (gv lv : Value) (N0 T : List GN) (ll : List RV) (at_ : Int) (hT : Tlk T lv ll) (hN : ∀ x ∈ N0, GOk R x) (hb1 : (N0 ++ T).length ≤ 100000) (hb2 : ∀ x ∈ N0 ++ T, x.l.length ≤ 100000) (hne : ∀ x, N0 ++ T = [x] → ¬ x.l.length = 0) (hbv : ∀ x ∈ N0 ++ T, 0 ≤ x.ver ∧ x.ver ≤ 1000000) :
    Tri Try.prog 58 #[(vP (some ⟨kb, 0, none⟩)), (vP none), (vI .i64 at_)] R [sl 106 4 gv (List.length (N0 ++ T)) ((N0 ++ T).flatMap GN.cells), sl 58 2 lv (List.length ll) (ll.flatMap RV.cells), cl kb 104 [(vS ka kl kc), (vI .i64 m), (vI .i64 n), gv]] (fun v__ post__ => (v__ = (vT #[(vA #[(vI .i64 0), (vI .i64 0)]), (vA #[(vI .i64 0), (vI .i64 0)]), (vI .i64 0), (Value.iface 122 (Value.string (ByteArray.mk #[109, 118, 99, 99, 58, 32, 114, 101, 118, 105, 115, 105, 111, 110, 32, 110, 111, 116, 32, 102, 111, 117, 110, 100])))]) ∧ post__ = [sl 106 4 gv (List.length (N0 ++ T)) ((N0 ++ T).flatMap GN.cells), sl 58 2 lv (List.length ll) (ll.flatMap RV.cells), cl kb 104 [(vS ka kl kc), (vI .i64 m), (vI .i64 n), gv]] ∧ (iGet ((N0 ++ T).map GN.m) at_ = none)) ∨ (∃ (a b c d e : Int), v__ = (vT #[(vA #[(vI .i64 a), (vI .i64 b)]), (vA #[(vI .i64 c), (vI .i64 d)]), (vI .i64 e), (Value.nilIface)]) ∧ post__ = [sl 106 4 gv (List.length (N0 ++ T)) ((N0 ++ T).flatMap GN.cells), sl 58 2 lv (List.length ll) (ll.flatMap RV.cells), cl kb 104 [(vS ka kl kc), (vI .i64 m), (vI .i64 n), gv]] ∧ (iGet ((N0 ++ T).map GN.m) at_ = some (a, b, c, d, e)))) := by
  refine (Tri.lend (fun h0 a0 d0 => Tri.lend (fun h1 a1 d1 => kGetR (un (un R h0) h1) kb ka kl kc m n gv (N0 ++ T) at_ ((sl_RS a0 (Sub.un_right d0)).mono (Sub.un_left _ _)) (GOk_app hN (Sub.trans' (Sub.un_left R h0) (Sub.un_left _ h1)) hT (sl_RS a1 (Sub.un_right d1))) hb1 hb2 hne hbv))).mono fun v post h => ?_
  obtain ⟨p1, rfl, p2, rfl, h⟩ := h
  rcases h with ⟨rfl, rfl, h⟩ | ⟨a, b, c, d, e, rfl, rfl, h⟩
  · exact .inl ⟨rfl, rfl, h⟩
  · exact .inr ⟨_, _, _, _, _, rfl, rfl, h⟩
end Go.Proofs.Ytiblemgccgbhoaa
set_option linter.unusedVariables false
set_option linter.unusedSimpArgs false
namespace Go.Proofs.Ytiblemgccgbhoaa
open Go Go.RowKit Gw
open Go.Value renaming int → vI, bool → vB, slice → vS, pointer → vP, agg → vA, tuple → vT

/-- The life with which to begin: the last one that began ahead of a number (of those up to n). -/
def sStartN (G : List GM) (at_ : Int) : Nat → Nat
  | 0 => 0
  | g + 1 => match G[g + 1]? with
    | none => sStartN G at_ g
    | some x => if x.l.length = 0 then sStartN G at_ g else if vLessB x.cm x.cs at_ 0 then g + 1 else sStartN G at_ g
def sStep (at_ : Int) (s : List RV × Int) (r : RV) : List RV × Int :=
  if vLessB r.main r.sub at_ 0 then s else if r.main = s.2 then (s.1.dropLast ++ [r], s.2) else (s.1 ++ [r], r.main)
def iSinceF (N : List GN) (at_ : Int) : List RV × Int := ((N.drop (sStartN (N.map GN.m) at_ (N.length - 1))).flatMap GN.l).foldl (sStep at_) ([], 0)
/-- Of each main number from a number on the last change. -/
def iSince (G : List GM) (at_ : Int) : List RV := (((G.drop (sStartN G at_ (G.length - 1))).flatMap GM.l).foldl (sStep at_) ([], 0)).1
theorem iSince_N (N : List GN) (at_ : Int) : iSince (N.map GN.m) at_ = (iSinceF N at_).1 := by
  unfold iSince iSinceF
  rw [List.length_map, ← List.map_drop, List.flatMap_map]; rfl
section
variable {N : List GN} {at_ : Int} {c : Nat} {x : GN}
theorem sStart_skip (h : N[c]? = some x) (hc : 0 < c) (he : (x.l.length : Int) = 0) : sStartN (N.map GN.m) at_ c = sStartN (N.map GN.m) at_ (c - 1) := by
  obtain ⟨g, rfl⟩ : ∃ g, c = g + 1 := ⟨c - 1, by omega⟩
  rw [sStartN, List.getElem?_map, h]
  simp only [Option.map_some, show x.m.l.length = 0 from by show x.l.length = 0; omega, if_true, Nat.add_sub_cancel]
theorem sStart_yes (h : N[c]? = some x) (hc : 0 < c) (he : ¬ (x.l.length : Int) = 0) (hv : vLessB x.created_Main x.created_Sub at_ 0 = true) : sStartN (N.map GN.m) at_ c = c := by
  obtain ⟨g, rfl⟩ : ∃ g, c = g + 1 := ⟨c - 1, by omega⟩
  rw [sStartN, List.getElem?_map, h]
  simp only [Option.map_some, if_neg (show ¬ x.m.l.length = 0 from fun e => he (by rw [show x.m.l = x.l from rfl] at e; omega))]
  rw [if_pos (show vLessB x.m.cm x.m.cs at_ 0 = true from hv)]
theorem sStart_no (h : N[c]? = some x) (hc : 0 < c) (he : ¬ (x.l.length : Int) = 0) (hv : vLessB x.created_Main x.created_Sub at_ 0 = false) : sStartN (N.map GN.m) at_ c = sStartN (N.map GN.m) at_ (c - 1) := by
  obtain ⟨g, rfl⟩ : ∃ g, c = g + 1 := ⟨c - 1, by omega⟩
  rw [sStartN, List.getElem?_map, h]
  simp only [Option.map_some, if_neg (show ¬ x.m.l.length = 0 from fun e => he (by rw [show x.m.l = x.l from rfl] at e; omega)), Nat.add_sub_cancel]
  rw [if_neg (by rw [show vLessB x.m.cm x.m.cs at_ 0 = false from hv]; decide)]
theorem rset_last {L : List RV} {y : RV} {k : Nat} (h : 0 < L.length) (hk : k = (((L.length : Int) - 1).toNat) * 2 + 0) : List.take k (L.flatMap RV.cells) ++ y.cells ++ List.drop (k + y.cells.length) (L.flatMap RV.cells) = (L.dropLast ++ [y]).flatMap RV.cells := by
  have hne : L ≠ [] := fun e => by rw [e] at h; exact absurd h (by decide)
  have e : L.dropLast ++ [L.getLast hne] = L := List.dropLast_concat_getLast hne
  have hl : (L.dropLast.flatMap RV.cells).length = (L.length - 1) * 2 := by rw [fm_len RV.len, List.length_dropLast]
  have hk2 : k = (L.length - 1) * 2 := by omega
  have hf : L.flatMap RV.cells = L.dropLast.flatMap RV.cells ++ (L.getLast hne).cells := by
    conv => lhs; rw [← e, List.flatMap_append, List.flatMap_singleton]
  rw [hf, List.take_append_of_le_length (by omega), List.take_of_length_le (by omega), List.drop_eq_nil_of_le (by rw [List.length_append, hl, RV.len, RV.len]; omega), List.append_nil, List.flatMap_append, List.flatMap_singleton]
end


set_option maxHeartbeats 16000000 in
theorem kSinceR (R : HP) (kb : Nat) (ka : Option Addr) (kl kc : Nat) (m n : Int) (gv : Value) (N : List GN) (at_ : Int) (h1 : RS R 4 gv (List.length N) (N.flatMap GN.cells)) (hg1 : ∀ x ∈ N, GOk R x) (hb1 : N.length ≤ 100000) (hb2 : ∀ x ∈ N, x.l.length ≤ 100000) (hne : ∀ x, N = [x] → ¬ x.l.length = 0) (hn0 : 0 < N.length) (hpos : ∀ x ∈ N, ∀ r ∈ x.l, 1 ≤ r.main) :
    Tri Try.prog 59 #[(vP (some ⟨kb, 0, none⟩)), (vP none), (vI .i64 at_)] R [cl kb 104 [(vS ka kl kc), (vI .i64 m), (vI .i64 n), gv]] (fun v__ post__ => ∃ (v' : Value), v__ = v' ∧ post__ = [sl 58 2 v' (List.length (iSince (N.map GN.m) at_)) ((iSince (N.map GN.m) at_).flatMap RV.cells), cl kb 104 [(vS ka kl kc), (vI .i64 m), (vI .i64 n), gv]]) := by
 refine Tri.into (n := 84) (al := [(vP (some ⟨kb, 0, none⟩)), (vP none), (vI .i64 at_)]) Try.func59 rfl Try.ntmps59 rfl rfl fun w F H => ?_
 refine C_seq (fun K1_ hK1_ => C_reg ?_)
 refine sv (v := (vS none 0 0)) (x_assign rfl) ?_
 refine wpList_nil (X_then (hK1_ _ _ ?_))
 clear hK1_
 refine C_seq (fun K2_ hK2_ => ?_)
 refine C_seq (fun K3_ hK3_ => C_reg ?_)
 refine sv (v := (vP (some ⟨kb, 0, none⟩))) (x_move rfl) ?_
 refine S_list (T_callW (al := [(vP (some ⟨kb, 0, none⟩))]) rfl rfl cb64 (Calls.into (n := 17) (al := [(vP (some ⟨kb, 0, none⟩))]) Try.func64 rfl Try.ntmps64 rfl rfl ?_))
 refine C_seq (fun K4_ hK4_ => C_reg ?_)
 refine sv (v := (vB false)) (x_assign rfl) ?_
 refine wpList_nil (X_then (hK4_ _ _ ?_))
 clear hK4_
 refine C_seq (fun K5_ hK5_ => C_reg ?_)
 refine sv (v := (vP (some ⟨kb, 0, none⟩))) (x_move rfl) ?_
 refine sv (v := (vP (some ⟨kb, 0, none⟩))) (by kernel_rfl) ?_
 refine sv (v := (vP (some ⟨kb, 3, none⟩))) (by kernel_rfl) ?_
 refine sv (v := gv) (x_load1 rfl Try.underlying102 rfl ((Holds.rd H 1 rfl) 3 gv rfl)) ?_
 refine sv (v := (vI .i64 ((List.length N) : Int))) (x_lenRS rfl h1 Try.underlying102) ?_
 refine sv (v := (vB (decide (((List.length N) : Int) = 1)))) (x_bin rfl rfl rfl) ?_
 refine sv (v := (vB (decide (((List.length N) : Int) = 1)))) (x_move rfl) ?_
 rcases Bool.eq_false_or_eq_true (decide (((List.length N) : Int) = 1)) with c6_t | c6_f
 ·have c6_tp : ((List.length N) : Int) = 1 := of_decide_eq_true c6_t
  refine S_yes (j := 6) (dj := 9) (b := true) rfl rfl (congrArg vB c6_t) (T_val (v := (vP (some ⟨kb, 0, none⟩))) (x_move rfl) ?_)
  refine S_yes (j := 6) (dj := 9) (b := true) rfl rfl (congrArg vB c6_t) (T_val (v := (vP (some ⟨kb, 0, none⟩))) (by kernel_rfl) ?_)
  refine S_yes (j := 6) (dj := 9) (b := true) rfl rfl (congrArg vB c6_t) (T_val (v := (vP (some ⟨kb, 3, none⟩))) (by kernel_rfl) ?_)
  refine S_yes (j := 6) (dj := 9) (b := true) rfl rfl (congrArg vB c6_t) (T_val (v := gv) (x_load1 rfl Try.underlying102 rfl ((Holds.rd H 1 rfl) 3 gv rfl)) ?_)
  obtain ⟨x7_, hx8_, hm9_⟩ := elem_at N 0 (by omega)
  have hp10_ := hg1 x7_ hm9_
  have hp11_ := hb2 x7_ hm9_
  have hp12_ := hpos x7_ hm9_
  have hg13_ := hg1 x7_ hm9_
  have hps_ := hpos x7_ hm9_
  refine S_yes (j := 6) (dj := 9) (b := true) rfl rfl (congrArg vB c6_t) (T_val (v := (vP (some ⟨(sb gv), so gv + (0 + 0), none⟩))) (x_idxRS (v := gv) rfl h1 rfl Try.underlying102 z106 (by omega) (by omega) (by omega : _ = 0) rfl) ?_)
  refine S_yes (j := 6) (dj := 9) (b := true) rfl rfl (congrArg vB c6_t) (T_callW (al := [(vP (some ⟨(sb gv), so gv + (0 + 0), none⟩))]) rfl rfl cb69 (Calls.into (n := 13) (al := [(vP (some ⟨(sb gv), so gv + (0 + 0), none⟩))]) Try.func69 rfl Try.ntmps69 rfl rfl ?_))
  refine C_seq (fun K14_ hK14_ => C_reg ?_)
  refine sv (v := (vB false)) (x_assign rfl) ?_
  refine wpList_nil (X_then (hK14_ _ _ ?_))
  clear hK14_
  refine C_seq (fun K15_ hK15_ => C_reg ?_)
  refine sv (v := (vP (some ⟨(sb gv), so gv + (0 + 0), none⟩))) (x_move rfl) ?_
  refine sv (v := (vB false)) (by kernel_rfl) ?_
  refine sv (v := (vB false)) (x_move rfl) ?_
  refine S_yes (j := 2) (dj := 5) (b := false) rfl rfl rfl (T_val (v := (vP (some ⟨(sb gv), so gv + (0 + 0), none⟩))) (x_move rfl) ?_)
  refine S_yes (j := 2) (dj := 5) (b := false) rfl rfl rfl (T_val (v := (vP (some ⟨(sb gv), so gv + (0 + 0), none⟩))) (by kernel_rfl) ?_)
  refine S_yes (j := 2) (dj := 5) (b := false) rfl rfl rfl (T_val (v := (vP (some ⟨(sb gv), so gv + (0 + 3), none⟩))) (by kernel_rfl) ?_)
  refine S_yes (j := 2) (dj := 5) (b := false) rfl rfl rfl (T_val (v := x7_.revs) (x_load1 rfl Try.underlying80 rfl (RC.cell (RS.rc h1) (Holds.ro_at H 0 rfl) (j := 0 + 3) (u := x7_.revs) (fm_cell GN.len hx8_ (i := 3) rfl))) ?_)
  refine S_yes (j := 2) (dj := 5) (b := false) rfl rfl rfl (T_val (v := (vI .i64 ((List.length x7_.l) : Int))) (x_lenRS rfl hg13_ Try.underlying80) ?_)
  refine S_yes (j := 2) (dj := 5) (b := false) rfl rfl rfl (T_val (v := (vB (decide (((List.length x7_.l) : Int) = 0)))) (x_bin rfl rfl rfl) ?_)
  refine S_list (T_pickF (v := (vB (decide (((List.length x7_.l) : Int) = 0)))) rfl rfl ?_)
  refine sv (v := (vB (decide (((List.length x7_.l) : Int) = 0)))) (x_assign rfl) ?_
  refine wpList_nil (X_then (hK15_ _ _ ?_))
  clear hK15_
  refine C_ret ?_
  refine R_any (v := (vB (decide (((List.length x7_.l) : Int) = 0)))) (run_results1 rfl rfl) ⟨_, rfl, ?_⟩
  refine S_list (T_pickT (v := (vB (decide (((List.length x7_.l) : Int) = 0)))) (congrArg vB c6_t) rfl ?_)
  refine sv (v := (vB (decide (((List.length x7_.l) : Int) = 0)))) (x_assign rfl) ?_
  refine wpList_nil (X_then (hK5_ _ _ ?_))
  clear hK5_
  refine C_ret ?_
  refine R_any (v := (vB (decide (((List.length x7_.l) : Int) = 0)))) (run_results1 rfl rfl) ⟨_, rfl, ?_⟩
  refine wpList_nil (X_then (hK3_ _ _ ?_))
  clear hK3_
  refine C_cond (b := decide (((List.length x7_.l) : Int) = 0)) rfl (fun c16_t => ?_) (fun c16_f => ?_)
  ·have c16_tp : ((List.length x7_.l) : Int) = 0 := of_decide_eq_true c16_t
   exact absurd (show x7_.l.length = 0 by omega) (hne _ (one_of c6_tp hx8_))
  ·have c16_fp : ¬ (((List.length x7_.l) : Int) = 0) := of_decide_eq_false c16_f
   refine C_skip (X_then (hK2_ _ _ ?_))
   clear hK2_
   refine C_seq (fun K17_ hK17_ => C_reg ?_)
   refine sv (v := (vI .i64 at_)) (x_move rfl) ?_
   refine sv (v := (vA #[(vI .i64 at_), (vI .i64 0)])) (by kernel_rfl) ?_
   refine S_list (T_alloc z58 H ?_)
   intro b18_ w19_ S21_ H20_
   have S22_ := Same.trans (Same.refl w) S21_
   refine S_list0 (T_storeN (vs := [(vI .i64 at_), (vI .i64 0)]) rfl rfl z58 rfl (by simp [Value.oneCell']) H20_ 0 rfl (Nat.le_of_ble_eq_true (by rfl)) ?_)
   intro w23_ S25_ H24_
   have S26_ := Same.trans S22_ S25_
   refine wpList_nil (X_then (hK17_ _ _ ?_))
   clear hK17_
   refine C_seq (fun K27_ hK27_ => C_reg ?_)
   refine sv (v := (vI .i64 0)) (x_assign rfl) ?_
   refine wpList_nil (X_then (hK27_ _ _ ?_))
   clear hK27_
   refine C_cut (fun a__ w1__ => ∃ c0 : Nat, ∃ h : Env, a__ = mkA 84 (upd (upd (upd (upd h 0 (vP (some ⟨kb, 0, none⟩))) 6 (vS none 0 0)) 7 (vP (some ⟨b18_, 0, none⟩))) 8 (vI .i64 (c0 : Int))) [] ∧ Holds w1__ (cl b18_ 58 [(vI .i64 at_), (vI .i64 0)] :: ro R :: cl kb 104 [(vS ka kl kc), (vI .i64 m), (vI .i64 n), gv] :: F) ∧ Same w w1__ ∧ (sStartN (N.map GN.m) at_ (N.length - 1) = c0) ∧ (c0 < N.length)) ?_ ?_
   ·refine C_seq (fun K31_ hK31_ => C_reg ?_)
    refine sv (v := (vP (some ⟨kb, 0, none⟩))) (x_move rfl) ?_
    refine sv (v := (vP (some ⟨kb, 0, none⟩))) (by kernel_rfl) ?_
    refine sv (v := (vP (some ⟨kb, 3, none⟩))) (by kernel_rfl) ?_
    refine sv (v := gv) (x_load1 rfl Try.underlying102 rfl ((Holds.rd H24_ 2 rfl) 3 gv rfl)) ?_
    refine sv (v := (vI .i64 ((List.length N) : Int))) (x_lenRS rfl h1 Try.underlying102) ?_
    refine sv (v := (vI .i64 (((List.length N) : Int) - 1))) (x_bin rfl rfl (ib_sub (IntWalk.i64_in _ (by omega)))) ?_
    refine sv (v := (vI .i64 (((List.length N) : Int) - 1))) (x_assign rfl) ?_
    refine wpList_nil (X_then (hK31_ _ _ ?_))
    clear hK31_
    refine C_block ?_
    refine C_loop (γ := Nat) (fun c a__ w1__ => ∃ h : Env, a__ = mkA 84 (upd (upd (upd (upd h 0 (vP (some ⟨kb, 0, none⟩))) 6 (vS none 0 0)) 7 (vP (some ⟨b18_, 0, none⟩))) 8 (vI .i64 (c : Int))) [] ∧ Holds w1__ (cl b18_ 58 [(vI .i64 at_), (vI .i64 0)] :: ro R :: cl kb 104 [(vS ka kl kc), (vI .i64 m), (vI .i64 n), gv] :: F) ∧ Same w w1__ ∧ (c < N.length) ∧ (sStartN (N.map GN.m) at_ (N.length - 1) = sStartN (N.map GN.m) at_ c)) (fun c => c) ((N.length - 1)) ⟨_, congrArg (fun e => mkA 84 e []) (ch (ch (ch (ch rfl rfl) rfl) rfl) (congrArg (vI .i64) ((by first | rfl | omega | (simp; done) | (simp; omega)) : ((List.length N) : Int) - 1 = ((N.length - 1 : Nat) : Int)))), H24_, S26_, (by omega), (rfl)⟩ ?_
    rintro c _ w32_ ⟨h, rfl, H33_, S34_, hc, hin⟩
    refine C_seq (fun K35_ hK35_ => ?_)
    refine C_seq (fun K36_ hK36_ => C_reg ?_)
    refine sv (v := (vI .i64 (c : Int))) (x_move rfl) ?_
    refine sv (v := (vB (decide (0 < (c : Int))))) (x_bin rfl rfl rfl) ?_
    refine wpList_nil (X_then (hK36_ _ _ ?_))
    clear hK36_
    refine C_cond (b := decide (0 < (c : Int))) rfl (fun c37_t => ?_) (fun c37_f => ?_)
    ·have c37_tp : 0 < (c : Int) := of_decide_eq_true c37_t
     refine C_skip (X_then (hK35_ _ _ ?_))
     clear hK35_
     refine C_seq (fun K38_ hK38_ => ?_)
     refine C_block ?_
     refine C_seq (fun K39_ hK39_ => C_reg ?_)
     refine sv (v := (vP (some ⟨kb, 0, none⟩))) (x_move rfl) ?_
     refine sv (v := (vP (some ⟨kb, 0, none⟩))) (by kernel_rfl) ?_
     refine sv (v := (vP (some ⟨kb, 3, none⟩))) (by kernel_rfl) ?_
     refine sv (v := gv) (x_load1 rfl Try.underlying102 rfl ((Holds.rd H33_ 2 rfl) 3 gv rfl)) ?_
     refine sv (v := (vI .i64 (c : Int))) (x_move rfl) ?_
     obtain ⟨x40_, hx41_, hm42_⟩ := elem_at N c (by omega)
     have hp43_ := hg1 x40_ hm42_
     have hp44_ := hb2 x40_ hm42_
     have hp45_ := hpos x40_ hm42_
     have hg46_ := hg1 x40_ hm42_
     have hps_ := hpos x40_ hm42_
     refine sv (v := (vP (some ⟨(sb gv), so gv + (c * 4 + 0), none⟩))) (x_idxRS (v := gv) rfl h1 rfl Try.underlying102 z106 (by omega) (by omega) (by omega : _ = c) rfl) ?_
     refine sv (v := (vA #[(vI .i64 x40_.ver), (vI .i64 x40_.created_Main), (vI .i64 x40_.created_Sub), x40_.revs])) (x_loadN (vs := [(vI .i64 x40_.ver), (vI .i64 x40_.created_Main), (vI .i64 x40_.created_Sub), x40_.revs]) rfl Try.underlying106 rfl z106 rfl (RC.cells (RS.rc h1) (Holds.ro_at H33_ 1 rfl) (c * 4 + 0) (fm_cells GN.len hx41_ (i := 0) rfl))) ?_
     refine S_list (T_alloc z106 H33_ ?_)
     intro b47_ w48_ S50_ H49_
     have S51_ := Same.trans S34_ S50_
     refine S_list0 (T_storeN (vs := [(vI .i64 x40_.ver), (vI .i64 x40_.created_Main), (vI .i64 x40_.created_Sub), x40_.revs]) rfl rfl z106 rfl (List.forall_mem_cons.2 ⟨rfl, (List.forall_mem_cons.2 ⟨rfl, (List.forall_mem_cons.2 ⟨rfl, (List.forall_mem_cons.2 ⟨(RS.one hg46_), (fun _ h__ => by cases h__)⟩)⟩)⟩)⟩) H49_ 0 rfl (Nat.le_of_ble_eq_true (by rfl)) ?_)
     intro w52_ S54_ H53_
     have S55_ := Same.trans S51_ S54_
     refine wpList_nil (X_then (hK39_ _ _ ?_))
     clear hK39_
     refine C_seq (fun K56_ hK56_ => ?_)
     refine C_seq (fun K57_ hK57_ => C_reg ?_)
     refine S_list (T_callW (al := [(vP (some ⟨b47_, 0, none⟩))]) rfl rfl cb69 (Calls.into (n := 13) (al := [(vP (some ⟨b47_, 0, none⟩))]) Try.func69 rfl Try.ntmps69 rfl rfl ?_))
     refine C_seq (fun K58_ hK58_ => C_reg ?_)
     refine sv (v := (vB false)) (x_assign rfl) ?_
     refine wpList_nil (X_then (hK58_ _ _ ?_))
     clear hK58_
     refine C_seq (fun K59_ hK59_ => C_reg ?_)
     refine sv (v := (vP (some ⟨b47_, 0, none⟩))) (x_move rfl) ?_
     refine sv (v := (vB false)) (by kernel_rfl) ?_
     refine sv (v := (vB false)) (x_move rfl) ?_
     refine S_yes (j := 2) (dj := 5) (b := false) rfl rfl rfl (T_val (v := (vP (some ⟨b47_, 0, none⟩))) (x_move rfl) ?_)
     refine S_yes (j := 2) (dj := 5) (b := false) rfl rfl rfl (T_val (v := (vP (some ⟨b47_, 0, none⟩))) (by kernel_rfl) ?_)
     refine S_yes (j := 2) (dj := 5) (b := false) rfl rfl rfl (T_val (v := (vP (some ⟨b47_, 3, none⟩))) (by kernel_rfl) ?_)
     refine S_yes (j := 2) (dj := 5) (b := false) rfl rfl rfl (T_val (v := x40_.revs) (x_load1 rfl Try.underlying80 rfl ((Holds.rd H53_ 0 rfl) 3 x40_.revs rfl)) ?_)
     refine S_yes (j := 2) (dj := 5) (b := false) rfl rfl rfl (T_val (v := (vI .i64 ((List.length x40_.l) : Int))) (x_lenRS rfl hg46_ Try.underlying80) ?_)
     refine S_yes (j := 2) (dj := 5) (b := false) rfl rfl rfl (T_val (v := (vB (decide (((List.length x40_.l) : Int) = 0)))) (x_bin rfl rfl rfl) ?_)
     refine S_list (T_pickF (v := (vB (decide (((List.length x40_.l) : Int) = 0)))) rfl rfl ?_)
     refine sv (v := (vB (decide (((List.length x40_.l) : Int) = 0)))) (x_assign rfl) ?_
     refine wpList_nil (X_then (hK59_ _ _ ?_))
     clear hK59_
     refine C_ret ?_
     refine R_any (v := (vB (decide (((List.length x40_.l) : Int) = 0)))) (run_results1 rfl rfl) ⟨_, rfl, ?_⟩
     refine wpList_nil (X_then (hK57_ _ _ ?_))
     clear hK57_
     refine C_cond (b := decide (((List.length x40_.l) : Int) = 0)) rfl (fun c60_t => ?_) (fun c60_f => ?_)
     ·have c60_tp : ((List.length x40_.l) : Int) = 0 := of_decide_eq_true c60_t
      refine C_exit (X_thenX (X_blkHit ?_))
      refine (X_then (hK38_ _ _ ?_))
      clear hK38_
      refine C_reg ?_
      refine sv (v := (vI .i64 (c : Int))) (x_move rfl) ?_
      refine sv (v := (vI .i64 ((c : Int) - 1))) (x_bin rfl rfl (ib_sub (IntWalk.i64_in _ (by omega)))) ?_
      refine sv (v := (vI .i64 ((c : Int) - 1))) (x_assign rfl) ?_
      refine wpList_nil (X_then ?_)
      have H61_ : Holds w52_ (cl b18_ 58 [(vI .i64 at_), (vI .i64 0)] :: ro R :: cl kb 104 [(vS ka kl kc), (vI .i64 m), (vI .i64 n), gv] :: F) := (Holds.pkF H53_ [1, 1, 1] 1 :)
      exact ⟨(c - 1), ⟨_, congrArg (fun e => mkA 84 e []) (ch (ch (ch (ch rfl rfl) rfl) rfl) (congrArg (vI .i64) ((by first | rfl | omega | (simp; done) | (simp; omega)) : (c : Int) - 1 = ((c - 1 : Nat) : Int)))), H61_, S55_, (by first | assumption | omega | exact rfl), (by rw [hin, sStart_skip hx41_ (by omega) c60_tp])⟩, by first | omega | (dsimp only; omega) | (simp; omega)⟩
     ·have c60_fp : ¬ (((List.length x40_.l) : Int) = 0) := of_decide_eq_false c60_f
      refine C_skip (X_then (hK56_ _ _ ?_))
      clear hK56_
      refine C_seq (fun K62_ hK62_ => C_reg ?_)
      refine sv (v := (vA #[(vI .i64 at_), (vI .i64 0)])) (x_loadN (vs := [(vI .i64 at_), (vI .i64 0)]) rfl Try.underlying58 rfl z58 rfl (Rd.cells (Holds.rd H53_ 1 rfl) 0 rfl)) ?_
      refine sv (v := (vP (some ⟨b47_, 1, none⟩))) (by kernel_rfl) ?_
      refine sv (v := (vA #[(vI .i64 x40_.created_Main), (vI .i64 x40_.created_Sub)])) (x_loadN (vs := [(vI .i64 x40_.created_Main), (vI .i64 x40_.created_Sub)]) rfl Try.underlying58 rfl z58 rfl (Rd.cells (Holds.rd H53_ 0 rfl) 1 rfl)) ?_
      have H64_ := ((Holds.bring H53_ 2 rfl) :)
      refine S_list (T_call (al := [(vA #[(vI .i64 at_), (vI .i64 0)]), (vA #[(vI .i64 x40_.created_Main), (vI .i64 x40_.created_Sub)])]) (pre := []) rfl rfl cb68 (kGreater R at_ 0 x40_.created_Main x40_.created_Sub) H64_ ?_)
      rintro v63_ p68_ w65_ ⟨rfl, rfl⟩ S67_ H66_
      have S69_ := Same.trans S55_ S67_
      refine wpList_nil (X_then (hK62_ _ _ ?_))
      clear hK62_
      refine C_cond (b := vLessB x40_.created_Main x40_.created_Sub at_ 0) rfl (fun c70_t => ?_) (fun c70_f => ?_)
      ·skip
       refine C_exit (X_blkMiss rfl (X_thenX (X_thenX (X_blkHit ?_))))
       refine (X_then ?_)
       have H71_ : Holds w65_ (cl b18_ 58 [(vI .i64 at_), (vI .i64 0)] :: ro R :: cl kb 104 [(vS ka kl kc), (vI .i64 m), (vI .i64 n), gv] :: F) := (Holds.pkF H66_ [2, 0, 1] 1 :)
       exact ⟨c, _, congrArg (fun e => mkA 84 e []) (ch (ch (ch (ch rfl rfl) rfl) rfl) rfl), H71_, S69_, (by rw [hin]; exact sStart_yes hx41_ (by omega) c60_fp (by simpa using c70_t)), (by omega)⟩
      ·skip
       refine C_skip (X_blkN (X_then (hK38_ _ _ ?_)))
       clear hK38_
       refine C_reg ?_
       refine sv (v := (vI .i64 (c : Int))) (x_move rfl) ?_
       refine sv (v := (vI .i64 ((c : Int) - 1))) (x_bin rfl rfl (ib_sub (IntWalk.i64_in _ (by omega)))) ?_
       refine sv (v := (vI .i64 ((c : Int) - 1))) (x_assign rfl) ?_
       refine wpList_nil (X_then ?_)
       have H72_ : Holds w65_ (cl b18_ 58 [(vI .i64 at_), (vI .i64 0)] :: ro R :: cl kb 104 [(vS ka kl kc), (vI .i64 m), (vI .i64 n), gv] :: F) := (Holds.pkF H66_ [2, 0, 1] 1 :)
       exact ⟨(c - 1), ⟨_, congrArg (fun e => mkA 84 e []) (ch (ch (ch (ch rfl rfl) rfl) rfl) (congrArg (vI .i64) ((by first | rfl | omega | (simp; done) | (simp; omega)) : (c : Int) - 1 = ((c - 1 : Nat) : Int)))), H72_, S69_, (by first | assumption | omega | exact rfl), (by rw [hin, sStart_no hx41_ (by omega) c60_fp (by simpa using c70_f)])⟩, by first | omega | (dsimp only; omega) | (simp; omega)⟩
    ·have c37_fp : ¬ (0 < (c : Int)) := of_decide_eq_false c37_f
     refine C_exit (X_thenX (X_thenX (X_blkHit ?_)))
     refine (X_then ?_)
     exact ⟨c, _, congrArg (fun e => mkA 84 e []) (ch (ch (ch (ch rfl rfl) rfl) rfl) rfl), H33_, S34_, (by rw [hin]; obtain rfl : c = 0 := (by omega); rfl), (by omega)⟩
   ·rintro _ w28_ ⟨c0, h, rfl, H29_, S30_, hc0, hcl⟩
    refine C_seq (fun K73_ hK73_ => C_reg ?_)
    refine sv (v := (vS none 0 0)) (x_assign rfl) ?_
    refine wpList_nil (X_then (hK73_ _ _ ?_))
    clear hK73_
    refine C_seq (fun K74_ hK74_ => C_reg ?_)
    refine sv (v := (vI .i64 0)) (x_assign rfl) ?_
    refine wpList_nil (X_then (hK74_ _ _ ?_))
    clear hK74_
    refine C_seq (fun K75_ hK75_ => ?_)
    refine C_block ?_
    have H76_ : Holds w28_ (sl 58 2 (vS none 0 0) (List.length ([] : List RV)) (([] : List RV).flatMap RV.cells) :: cl b18_ 58 [(vI .i64 at_), (vI .i64 0)] :: ro R :: cl kb 104 [(vS ka kl kc), (vI .i64 m), (vI .i64 n), gv] :: F) := Holds.add_nil H29_ 58 2
    refine C_loop (γ := Nat × Value × (List RV) × Int) (fun x__ a__ w1__ => match x__ with | ⟨k, ov, out, la⟩ => ∃ h : Env, a__ = mkA 84 (upd (upd (upd (upd (upd (upd h 0 (vP (some ⟨kb, 0, none⟩))) 6 (vS none 0 0)) 7 (vP (some ⟨b18_, 0, none⟩))) 8 (vI .i64 (k : Int))) 10 ov) 11 (vI .i64 la)) [] ∧ Holds w1__ (sl 58 2 ov (List.length out) (out.flatMap RV.cells) :: cl b18_ 58 [(vI .i64 at_), (vI .i64 0)] :: ro R :: cl kb 104 [(vS ka kl kc), (vI .i64 m), (vI .i64 n), gv] :: F) ∧ Same w w1__ ∧ (k ≤ N.length) ∧ (iSinceF N at_ = ((N.drop k).flatMap GN.l).foldl (sStep at_) (out, la)) ∧ (out = [] → la = 0) ∧ (out.length ≤ 100000 * k)) (fun x__ => match x__ with | ⟨k, ov, out, la⟩ => N.length - k) (⟨c0, (vS none 0 0), ([] : List RV), 0⟩) ⟨_, congrArg (fun e => mkA 84 e []) (ch (ch (ch (ch (ch (ch rfl rfl) rfl) rfl) rfl) (rfl : (vS none 0 0) = ((vS none 0 0)))) rfl), H76_, S30_, (by first | assumption | omega | exact rfl), (by unfold iSinceF; rw [hc0]), (fun _ => rfl), (Nat.zero_le _)⟩ ?_
    rintro ⟨k, ov, out, la⟩ _ w77_ ⟨h, rfl, H78_, S79_, hk, hq, h0, hol⟩
    refine C_seq (fun K80_ hK80_ => ?_)
    refine C_seq (fun K81_ hK81_ => C_reg ?_)
    refine sv (v := (vI .i64 (k : Int))) (x_move rfl) ?_
    refine sv (v := (vP (some ⟨kb, 0, none⟩))) (x_move rfl) ?_
    refine sv (v := (vP (some ⟨kb, 0, none⟩))) (by kernel_rfl) ?_
    refine sv (v := (vP (some ⟨kb, 3, none⟩))) (by kernel_rfl) ?_
    refine sv (v := gv) (x_load1 rfl Try.underlying102 rfl ((Holds.rd H78_ 3 rfl) 3 gv rfl)) ?_
    refine sv (v := (vI .i64 ((List.length N) : Int))) (x_lenRS rfl h1 Try.underlying102) ?_
    refine sv (v := (vB (decide ((k : Int) < ((List.length N) : Int))))) (x_bin rfl rfl rfl) ?_
    refine wpList_nil (X_then (hK81_ _ _ ?_))
    clear hK81_
    refine C_cond (b := decide ((k : Int) < ((List.length N) : Int))) rfl (fun c82_t => ?_) (fun c82_f => ?_)
    ·have c82_tp : (k : Int) < ((List.length N) : Int) := of_decide_eq_true c82_t
     refine C_skip (X_then (hK80_ _ _ ?_))
     clear hK80_
     refine C_seq (fun K83_ hK83_ => ?_)
     refine C_block ?_
     refine C_seq (fun K84_ hK84_ => C_reg ?_)
     refine sv (v := (vP (some ⟨kb, 0, none⟩))) (x_move rfl) ?_
     refine sv (v := (vP (some ⟨kb, 0, none⟩))) (by kernel_rfl) ?_
     refine sv (v := (vP (some ⟨kb, 3, none⟩))) (by kernel_rfl) ?_
     refine sv (v := gv) (x_load1 rfl Try.underlying102 rfl ((Holds.rd H78_ 3 rfl) 3 gv rfl)) ?_
     refine sv (v := (vI .i64 (k : Int))) (x_move rfl) ?_
     obtain ⟨x85_, hx86_, hm87_⟩ := elem_at N k (by omega)
     have hp88_ := hg1 x85_ hm87_
     have hp89_ := hb2 x85_ hm87_
     have hp90_ := hpos x85_ hm87_
     have hg91_ := hg1 x85_ hm87_
     have hps_ := hpos x85_ hm87_
     refine sv (v := (vP (some ⟨(sb gv), so gv + (k * 4 + 0), none⟩))) (x_idxRS (v := gv) rfl h1 rfl Try.underlying102 z106 (by omega) (by omega) (by omega : _ = k) rfl) ?_
     refine sv (v := (vP (some ⟨(sb gv), so gv + (k * 4 + 3), none⟩))) (by kernel_rfl) ?_
     refine sv (v := x85_.revs) (x_load1 rfl Try.underlying80 rfl (RC.cell (RS.rc h1) (Holds.ro_at H78_ 2 rfl) (j := k * 4 + 3) (u := x85_.revs) (fm_cell GN.len hx86_ (i := 3) rfl))) ?_
     refine sv (v := (vI .i64 ((List.length x85_.l) : Int))) (x_lenRS rfl hg91_ Try.underlying80) ?_
     refine sv (v := (vI .i64 0)) (x_move rfl) ?_
     refine wpList_nil (X_then (hK84_ _ _ ?_))
     clear hK84_
     refine C_block ?_
     refine C_loop (γ := Nat × Value × (List RV) × Int) (fun x__ a__ w1__ => match x__ with | ⟨i, ov2, out2, la2⟩ => ∃ h : Env, a__ = mkA 84 (upd (upd (upd (upd (upd (upd (upd (upd (upd h 0 (vP (some ⟨kb, 0, none⟩))) 6 (vS none 0 0)) 7 (vP (some ⟨b18_, 0, none⟩))) 8 (vI .i64 (k : Int))) 10 ov2) 11 (vI .i64 la2)) 57 x85_.revs) 58 (vI .i64 ((List.length x85_.l) : Int))) 59 (vI .i64 (i : Int))) [] ∧ Holds w1__ (sl 58 2 ov2 (List.length out2) (out2.flatMap RV.cells) :: cl b18_ 58 [(vI .i64 at_), (vI .i64 0)] :: ro R :: cl kb 104 [(vS ka kl kc), (vI .i64 m), (vI .i64 n), gv] :: F) ∧ Same w w1__ ∧ (i ≤ x85_.l.length) ∧ (iSinceF N at_ = (x85_.l.drop i ++ (N.drop (k + 1)).flatMap GN.l).foldl (sStep at_) (out2, la2)) ∧ (out2 = [] → la2 = 0) ∧ (out2.length ≤ 100000 * k + i)) (fun x__ => match x__ with | ⟨i, ov2, out2, la2⟩ => x85_.l.length - i) (⟨0, ov, out, la⟩) ⟨_, congrArg (fun e => mkA 84 e []) (ch (ch (ch (ch (ch (ch (ch (ch (ch rfl rfl) rfl) rfl) rfl) rfl) rfl) rfl) rfl) (congrArg (vI .i64) ((by first | rfl | omega | (simp; done) | (simp; omega)) : 0 = (0 : Int)))), H78_, S79_, (Nat.zero_le _), (by rw [hq, drop_at hx86_, List.flatMap_cons]; rfl), (h0), (by omega)⟩ ?_
     rintro ⟨i, ov2, out2, la2⟩ _ w92_ ⟨h, rfl, H93_, S94_, hi, hq2, h02, hol2⟩
     refine C_seq (fun K95_ hK95_ => C_reg ?_)
     refine sv (v := (vB (decide ((i : Int) < ((List.length x85_.l) : Int))))) (x_bin rfl rfl rfl) ?_
     refine wpList_nil (X_then (hK95_ _ _ ?_))
     clear hK95_
     refine C_seq (fun K96_ hK96_ => ?_)
     refine C_cond (b := decide ((i : Int) < ((List.length x85_.l) : Int))) rfl (fun c97_t => ?_) (fun c97_f => ?_)
     ·have c97_tp : (i : Int) < ((List.length x85_.l) : Int) := of_decide_eq_true c97_t
      refine C_skip (X_then (hK96_ _ _ ?_))
      clear hK96_
      refine C_seq (fun K98_ hK98_ => ?_)
      refine C_block ?_
      refine C_seq (fun K99_ hK99_ => C_reg ?_)
      obtain ⟨x100_, hx101_, hm102_⟩ := elem_at x85_.l i (by omega)
      have hry_ := hps_ x100_ hm102_
      refine sv (v := (vP (some ⟨(sb x85_.revs), so x85_.revs + (i * 2 + 0), none⟩))) (x_idxRS (v := x85_.revs) rfl hg91_ rfl Try.underlying80 z58 (by omega) (by omega) (by omega : _ = i) rfl) ?_
      refine sv (v := (vA #[(vI .i64 x100_.main), (vI .i64 x100_.sub)])) (x_loadN (vs := [(vI .i64 x100_.main), (vI .i64 x100_.sub)]) rfl Try.underlying58 rfl z58 rfl (RC.cells (RS.rc hg91_) (Holds.ro_at H93_ 2 rfl) (i * 2 + 0) (fm_cells RV.len hx101_ (i := 0) rfl))) ?_
      refine S_list (T_alloc z58 H93_ ?_)
      intro b103_ w104_ S106_ H105_
      have S107_ := Same.trans S94_ S106_
      refine S_list0 (T_storeN (vs := [(vI .i64 x100_.main), (vI .i64 x100_.sub)]) rfl rfl z58 rfl (by simp [Value.oneCell']) H105_ 0 rfl (Nat.le_of_ble_eq_true (by rfl)) ?_)
      intro w108_ S110_ H109_
      have S111_ := Same.trans S107_ S110_
      refine wpList_nil (X_then (hK99_ _ _ ?_))
      clear hK99_
      refine C_seq (fun K112_ hK112_ => ?_)
      refine C_seq (fun K113_ hK113_ => C_reg ?_)
      refine sv (v := (vA #[(vI .i64 at_), (vI .i64 0)])) (x_loadN (vs := [(vI .i64 at_), (vI .i64 0)]) rfl Try.underlying58 rfl z58 rfl (Rd.cells (Holds.rd H109_ 2 rfl) 0 rfl)) ?_
      refine sv (v := (vA #[(vI .i64 x100_.main), (vI .i64 x100_.sub)])) (x_loadN (vs := [(vI .i64 x100_.main), (vI .i64 x100_.sub)]) rfl Try.underlying58 rfl z58 rfl (Rd.cells (Holds.rd H109_ 0 rfl) 0 rfl)) ?_
      have H115_ := ((Holds.bring H109_ 3 rfl) :)
      refine S_list (T_call (al := [(vA #[(vI .i64 at_), (vI .i64 0)]), (vA #[(vI .i64 x100_.main), (vI .i64 x100_.sub)])]) (pre := []) rfl rfl cb68 (kGreater R at_ 0 x100_.main x100_.sub) H115_ ?_)
      rintro v114_ p119_ w116_ ⟨rfl, rfl⟩ S118_ H117_
      have S120_ := Same.trans S111_ S118_
      refine wpList_nil (X_then (hK113_ _ _ ?_))
      clear hK113_
      refine C_cond (b := vLessB x100_.main x100_.sub at_ 0) rfl (fun c121_t => ?_) (fun c121_f => ?_)
      ·skip
       refine C_exit (X_thenX (X_blkHit ?_))
       refine (X_then (hK98_ _ _ ?_))
       clear hK98_
       refine C_reg ?_
       refine sv (v := (vI .i64 ((i : Int) + 1))) (x_bin rfl rfl (ib_add (IntWalk.i64_in _ (by omega)))) ?_
       refine sv (v := (vI .i64 ((i : Int) + 1))) (x_move rfl) ?_
       refine wpList_nil (X_then ?_)
       have H122_ : Holds w116_ (sl 58 2 ov2 (List.length out2) (out2.flatMap RV.cells) :: cl b18_ 58 [(vI .i64 at_), (vI .i64 0)] :: ro R :: cl kb 104 [(vS ka kl kc), (vI .i64 m), (vI .i64 n), gv] :: F) := (Holds.pkF H117_ [2, 2, 0, 1] 1 :)
       exact ⟨⟨i + 1, ov2, out2, la2⟩, ⟨_, congrArg (fun e => mkA 84 e []) (ch (ch (ch (ch (ch (ch (ch (ch (ch rfl rfl) rfl) rfl) rfl) rfl) rfl) rfl) rfl) (congrArg (vI .i64) ((by first | rfl | omega | (simp; done) | (simp; omega)) : (i : Int) + 1 = ((i + 1 : Nat) : Int)))), H122_, S120_, (by first | assumption | omega | exact rfl), (by rw [hq2, drop_at hx101_, List.cons_append, List.foldl_cons, show sStep at_ (out2, la2) x100_ = (out2, la2) from if_pos (by simpa using c121_t)]), (h02), (by first | omega | (simp; omega))⟩, by first | omega | (dsimp only; omega) | (simp; omega)⟩
      ·skip
       refine C_skip (X_then (hK112_ _ _ ?_))
       clear hK112_
       refine C_seq (fun K123_ hK123_ => ?_)
       refine C_seq (fun K124_ hK124_ => C_reg ?_)
       refine sv (v := (vP (some ⟨b103_, 0, none⟩))) (by kernel_rfl) ?_
       refine sv (v := (vI .i64 x100_.main)) (x_load1 rfl Try.underlying2 rfl ((Holds.rd H117_ 1 rfl) 0 (vI .i64 x100_.main) rfl)) ?_
       refine sv (v := (vI .i64 la2)) (x_move rfl) ?_
       refine sv (v := (vB (decide (x100_.main = la2)))) (x_bin rfl rfl rfl) ?_
       refine wpList_nil (X_then (hK124_ _ _ ?_))
       clear hK124_
       refine C_cond (b := decide (x100_.main = la2)) rfl (fun c125_t => ?_) (fun c125_f => ?_)
       ·have c125_tp : x100_.main = la2 := of_decide_eq_true c125_t
        have ho0_ : 0 < out2.length := Nat.pos_of_ne_zero fun h_ => by have h2_ := h02 (List.eq_nil_of_length_eq_zero h_); omega
        refine C_seq (fun K126_ hK126_ => C_reg ?_)
        refine sv (v := ov2) (x_move rfl) ?_
        refine sv (v := ov2) (x_move rfl) ?_
        refine sv (v := (vI .i64 ((List.length out2) : Int))) (x_lenSl rfl H117_ 2 rfl Try.underlying80) ?_
        refine sv (v := (vI .i64 (((List.length out2) : Int) - 1))) (x_bin rfl rfl (ib_sub (IntWalk.i64_in _ (by omega)))) ?_
        refine sv (v := (vA #[(vI .i64 x100_.main), (vI .i64 x100_.sub)])) (x_loadN (vs := [(vI .i64 x100_.main), (vI .i64 x100_.sub)]) rfl Try.underlying58 rfl z58 rfl (Rd.cells (Holds.rd H117_ 1 rfl) 0 rfl)) ?_
        have hr127_ := Holds.sl_RSw H117_ 2 rfl
        refine sv (v := (vP (some ⟨(sb ov2), so ov2 + (((((List.length out2) : Int) - 1).toNat) * 2 + 0), none⟩))) (x_idxSlR (v := ov2) rfl hr127_ rfl Try.underlying80 z58 (by omega) (by omega) (by omega : _ = (((List.length out2) : Int) - 1).toNat) rfl) ?_
        refine S_list0 (T_storeSlN (vs := [(vI .i64 x100_.main), (vI .i64 x100_.sub)]) (k := ((((List.length out2) : Int) - 1).toNat) * 2 + 0) rfl rfl z58 rfl (by simp [Value.oneCell']) H117_ 2 rfl (by (rw [fm_len RV.len]; simp only [List.length_cons, List.length_nil]; omega)) (Nat.zero_lt_succ _) rfl rfl ?_)
        intro w128_ S130_ H129_
        have S131_ := Same.trans S120_ S130_
        have H132_ := Holds.resl H129_ 2 rfl (rset_last (y := x100_) (by omega) rfl : List.take (((((List.length out2) : Int) - 1).toNat) * 2 + 0) (out2.flatMap RV.cells) ++ [(vI .i64 x100_.main), (vI .i64 x100_.sub)] ++ List.drop (((((List.length out2) : Int) - 1).toNat) * 2 + 0 + List.length [(vI .i64 x100_.main), (vI .i64 x100_.sub)]) (out2.flatMap RV.cells) = (out2.dropLast ++ [x100_]).flatMap RV.cells) (by simp; omega : (List.length out2) = (List.length (out2.dropLast ++ [x100_])))
        refine wpList_nil (X_then (hK126_ _ _ ?_))
        clear hK126_
        refine C_exit (X_thenX (X_blkHit ?_))
        refine (X_then (hK98_ _ _ ?_))
        clear hK98_
        refine C_reg ?_
        refine sv (v := (vI .i64 ((i : Int) + 1))) (x_bin rfl rfl (ib_add (IntWalk.i64_in _ (by omega)))) ?_
        refine sv (v := (vI .i64 ((i : Int) + 1))) (x_move rfl) ?_
        refine wpList_nil (X_then ?_)
        have H133_ : Holds w128_ (sl 58 2 ov2 (List.length (out2.dropLast ++ [x100_])) ((out2.dropLast ++ [x100_]).flatMap RV.cells) :: cl b18_ 58 [(vI .i64 at_), (vI .i64 0)] :: ro R :: cl kb 104 [(vS ka kl kc), (vI .i64 m), (vI .i64 n), gv] :: F) := (Holds.pkF H132_ [2, 2, 0, 1] 1 :)
        exact ⟨⟨i + 1, ov2, (out2.dropLast ++ [x100_]), la2⟩, ⟨_, congrArg (fun e => mkA 84 e []) (ch (ch (ch (ch (ch (ch (ch (ch (ch rfl rfl) rfl) rfl) rfl) rfl) rfl) rfl) rfl) (congrArg (vI .i64) ((by first | rfl | omega | (simp; done) | (simp; omega)) : (i : Int) + 1 = ((i + 1 : Nat) : Int)))), H133_, S131_, (by first | assumption | omega | exact rfl), (by rw [hq2, drop_at hx101_, List.cons_append, List.foldl_cons, show sStep at_ (out2, la2) x100_ = (out2.dropLast ++ [x100_], la2) from by unfold sStep; rw [if_neg (by simpa using c121_f), if_pos c125_tp]]), (fun h_ => absurd h_ (by simp)), (by first | omega | (simp; omega))⟩, by first | omega | (dsimp only; omega) | (simp; omega)⟩
       ·have c125_fp : ¬ (x100_.main = la2) := of_decide_eq_false c125_f
        refine C_skip (X_then (hK123_ _ _ ?_))
        clear hK123_
        refine C_seq (fun K134_ hK134_ => C_reg ?_)
        refine sv (v := ov2) (x_move rfl) ?_
        refine sv (v := (vA #[(vI .i64 x100_.main), (vI .i64 x100_.sub)])) (x_loadN (vs := [(vI .i64 x100_.main), (vI .i64 x100_.sub)]) rfl Try.underlying58 rfl z58 rfl (Rd.cells (Holds.rd H117_ 1 rfl) 0 rfl)) ?_
        refine S_list (T_new (obj := .cells #[(vI .i64 x100_.main), (vI .i64 x100_.sub)] 58) (f := fun b__ => .slice (some ⟨b__, 0, none⟩) 1 1) (A := fun b__ => cl b__ 58 [(vI .i64 x100_.main), (vI .i64 x100_.sub)]) (by kernel_rfl) (fun l h => h.alloc _ _) H117_ ?_)
        intro b135_ w136_ S138_ H137_
        have S139_ := Same.trans S120_ S138_
        refine S_list (T_append rfl rfl Try.underlying80 z58 rfl (by decide) H137_ 3 rfl (Holds.cl_src H137_ 0 rfl Try.underlying80 (by simp [Value.oneCell']) rfl) (by omega) ?_)
        intro v140_ w141_ S143_ H142_
        have S144_ := Same.trans S139_ S143_
        refine sv (v := v140_) (x_assign rfl) ?_
        refine wpList_nil (X_then (hK134_ _ _ ?_))
        clear hK134_
        refine C_reg ?_
        refine sv (v := (vP (some ⟨b103_, 0, none⟩))) (by kernel_rfl) ?_
        refine sv (v := (vI .i64 x100_.main)) (x_load1 rfl Try.underlying2 rfl ((Holds.rd H142_ 2 rfl) 0 (vI .i64 x100_.main) rfl)) ?_
        refine sv (v := (vI .i64 x100_.main)) (x_assign rfl) ?_
        refine wpList_nil (X_blkN (X_then (hK98_ _ _ ?_)))
        clear hK98_
        refine C_reg ?_
        refine sv (v := (vI .i64 ((i : Int) + 1))) (x_bin rfl rfl (ib_add (IntWalk.i64_in _ (by omega)))) ?_
        refine sv (v := (vI .i64 ((i : Int) + 1))) (x_move rfl) ?_
        refine wpList_nil (X_then ?_)
        have H145_ := Holds.resl H142_ 3 rfl ((by first | rfl | (simp [RV.cells]; done) | (simp; omega)) : (out2.flatMap RV.cells) ++ [(vI .i64 x100_.main), (vI .i64 x100_.sub)] = (out2 ++ [x100_]).flatMap RV.cells) ((by first | rfl | (simp [RV.cells]; done) | (simp; omega)) : (List.length out2) + 1 = (List.length (out2 ++ [x100_])))
        have H146_ : Holds w141_ (sl 58 2 v140_ (List.length (out2 ++ [x100_])) ((out2 ++ [x100_]).flatMap RV.cells) :: cl b18_ 58 [(vI .i64 at_), (vI .i64 0)] :: ro R :: cl kb 104 [(vS ka kl kc), (vI .i64 m), (vI .i64 n), gv] :: F) := (Holds.pkF H145_ [3, 3, 1, 2] 2 :)
        exact ⟨⟨i + 1, v140_, (out2 ++ [x100_]), x100_.main⟩, ⟨_, congrArg (fun e => mkA 84 e []) (ch (ch (ch (ch (ch (ch (ch (ch (ch rfl rfl) rfl) rfl) rfl) rfl) rfl) rfl) rfl) (congrArg (vI .i64) ((by first | rfl | omega | (simp; done) | (simp; omega)) : (i : Int) + 1 = ((i + 1 : Nat) : Int)))), H146_, S144_, (by first | assumption | omega | exact rfl), (by rw [hq2, drop_at hx101_, List.cons_append, List.foldl_cons, show sStep at_ (out2, la2) x100_ = (out2 ++ [x100_], x100_.main) from by unfold sStep; rw [if_neg (by simpa using c121_f), if_neg c125_fp]]), (fun h_ => absurd h_ (by simp)), (by first | omega | (simp; omega))⟩, by first | omega | (dsimp only; omega) | (simp; omega)⟩
     ·have c97_fp : ¬ ((i : Int) < ((List.length x85_.l) : Int)) := of_decide_eq_false c97_f
      refine C_exit (X_thenX (X_thenX (X_blkHit ?_)))
      refine (X_blkN (X_then (hK83_ _ _ ?_)))
      clear hK83_
      refine C_reg ?_
      refine sv (v := (vI .i64 (k : Int))) (x_move rfl) ?_
      refine sv (v := (vI .i64 ((k : Int) + 1))) (x_bin rfl rfl (ib_add (IntWalk.i64_in _ (by omega)))) ?_
      refine sv (v := (vI .i64 ((k : Int) + 1))) (x_assign rfl) ?_
      refine wpList_nil (X_then ?_)
      exact ⟨⟨k + 1, ov2, out2, la2⟩, ⟨_, congrArg (fun e => mkA 84 e []) (ch (ch (ch (ch (ch (ch rfl rfl) rfl) rfl) (congrArg (vI .i64) ((by first | rfl | omega | (simp; done) | (simp; omega)) : (k : Int) + 1 = ((k + 1 : Nat) : Int)))) rfl) rfl), H93_, S94_, (by first | assumption | omega | exact rfl), (by rw [hq2, List.drop_of_length_le (by omega), List.nil_append]), (h02), (by omega)⟩, by first | omega | (dsimp only; omega) | (simp; omega)⟩
    ·have c82_fp : ¬ ((k : Int) < ((List.length N) : Int)) := of_decide_eq_false c82_f
     refine C_exit (X_thenX (X_thenX (X_blkHit ?_)))
     refine (X_then (hK75_ _ _ ?_))
     clear hK75_
     refine C_seq (fun K147_ hK147_ => C_reg ?_)
     refine sv (v := ov) (x_move rfl) ?_
     refine sv (v := ov) (x_assign rfl) ?_
     refine wpList_nil (X_then (hK147_ _ _ ?_))
     clear hK147_
     refine C_ret ?_
     refine R_any (v := ov) (run_results1 rfl rfl) ?_
     have H148_ := Holds.resl H78_ 0 rfl ((by rw [iSince_N, hq, List.drop_of_length_le (by omega)]; rfl) : out.flatMap RV.cells = (iSince (N.map GN.m) at_).flatMap RV.cells) ((by rw [iSince_N, hq, List.drop_of_length_le (by omega)]; rfl) : (List.length out) = (List.length (iSince (N.map GN.m) at_)))
     have H149_ : Holds w77_ (ro R :: sl 58 2 ov (List.length (iSince (N.map GN.m) at_)) ((iSince (N.map GN.m) at_).flatMap RV.cells) :: cl kb 104 [(vS ka kl kc), (vI .i64 m), (vI .i64 n), gv] :: F) := (Holds.pkF H148_ [2, 0, 1] 1 :)
     exact ⟨_, _, rfl, ⟨ov, rfl, rfl⟩, S79_, H149_⟩
 ·have c6_fp : ¬ (((List.length N) : Int) = 1) := of_decide_eq_false c6_f
  refine S_no (j := 6) (dj := 9) (b := false) rfl rfl (congrArg vB c6_f) (by decide) ?_
  refine S_no (j := 6) (dj := 9) (b := false) rfl rfl (congrArg vB c6_f) (by decide) ?_
  refine S_no (j := 6) (dj := 9) (b := false) rfl rfl (congrArg vB c6_f) (by decide) ?_
  refine S_no (j := 6) (dj := 9) (b := false) rfl rfl (congrArg vB c6_f) (by decide) ?_
  refine S_no (j := 6) (dj := 9) (b := false) rfl rfl (congrArg vB c6_f) (by decide) ?_
  refine S_no (j := 6) (dj := 9) (b := false) rfl rfl (congrArg vB c6_f) (by decide) ?_
  refine S_list (T_pickF (v := (vB false)) (congrArg vB c6_f) rfl ?_)
  refine sv (v := (vB false)) (x_assign rfl) ?_
  refine wpList_nil (X_then (hK5_ _ _ ?_))
  clear hK5_
  refine C_ret ?_
  refine R_any (v := (vB false)) (run_results1 rfl rfl) ⟨_, rfl, ?_⟩
  refine wpList_nil (X_then (hK3_ _ _ ?_))
  clear hK3_
  refine C_condF rfl ?_
  refine C_skip (X_then (hK2_ _ _ ?_))
  clear hK2_
  refine C_seq (fun K150_ hK150_ => C_reg ?_)
  refine sv (v := (vI .i64 at_)) (x_move rfl) ?_
  refine sv (v := (vA #[(vI .i64 at_), (vI .i64 0)])) (by kernel_rfl) ?_
  refine S_list (T_alloc z58 H ?_)
  intro b151_ w152_ S154_ H153_
  have S155_ := Same.trans (Same.refl w) S154_
  refine S_list0 (T_storeN (vs := [(vI .i64 at_), (vI .i64 0)]) rfl rfl z58 rfl (by simp [Value.oneCell']) H153_ 0 rfl (Nat.le_of_ble_eq_true (by rfl)) ?_)
  intro w156_ S158_ H157_
  have S159_ := Same.trans S155_ S158_
  refine wpList_nil (X_then (hK150_ _ _ ?_))
  clear hK150_
  refine C_seq (fun K160_ hK160_ => C_reg ?_)
  refine sv (v := (vI .i64 0)) (x_assign rfl) ?_
  refine wpList_nil (X_then (hK160_ _ _ ?_))
  clear hK160_
  refine C_cut (fun a__ w1__ => ∃ c0 : Nat, ∃ h : Env, a__ = mkA 84 (upd (upd (upd (upd h 0 (vP (some ⟨kb, 0, none⟩))) 6 (vS none 0 0)) 7 (vP (some ⟨b151_, 0, none⟩))) 8 (vI .i64 (c0 : Int))) [] ∧ Holds w1__ (cl b151_ 58 [(vI .i64 at_), (vI .i64 0)] :: ro R :: cl kb 104 [(vS ka kl kc), (vI .i64 m), (vI .i64 n), gv] :: F) ∧ Same w w1__ ∧ (sStartN (N.map GN.m) at_ (N.length - 1) = c0) ∧ (c0 < N.length)) ?_ ?_
  ·refine C_seq (fun K164_ hK164_ => C_reg ?_)
   refine sv (v := (vP (some ⟨kb, 0, none⟩))) (x_move rfl) ?_
   refine sv (v := (vP (some ⟨kb, 0, none⟩))) (by kernel_rfl) ?_
   refine sv (v := (vP (some ⟨kb, 3, none⟩))) (by kernel_rfl) ?_
   refine sv (v := gv) (x_load1 rfl Try.underlying102 rfl ((Holds.rd H157_ 2 rfl) 3 gv rfl)) ?_
   refine sv (v := (vI .i64 ((List.length N) : Int))) (x_lenRS rfl h1 Try.underlying102) ?_
   refine sv (v := (vI .i64 (((List.length N) : Int) - 1))) (x_bin rfl rfl (ib_sub (IntWalk.i64_in _ (by omega)))) ?_
   refine sv (v := (vI .i64 (((List.length N) : Int) - 1))) (x_assign rfl) ?_
   refine wpList_nil (X_then (hK164_ _ _ ?_))
   clear hK164_
   refine C_block ?_
   refine C_loop (γ := Nat) (fun c a__ w1__ => ∃ h : Env, a__ = mkA 84 (upd (upd (upd (upd h 0 (vP (some ⟨kb, 0, none⟩))) 6 (vS none 0 0)) 7 (vP (some ⟨b151_, 0, none⟩))) 8 (vI .i64 (c : Int))) [] ∧ Holds w1__ (cl b151_ 58 [(vI .i64 at_), (vI .i64 0)] :: ro R :: cl kb 104 [(vS ka kl kc), (vI .i64 m), (vI .i64 n), gv] :: F) ∧ Same w w1__ ∧ (c < N.length) ∧ (sStartN (N.map GN.m) at_ (N.length - 1) = sStartN (N.map GN.m) at_ c)) (fun c => c) ((N.length - 1)) ⟨_, congrArg (fun e => mkA 84 e []) (ch (ch (ch (ch rfl rfl) rfl) rfl) (congrArg (vI .i64) ((by first | rfl | omega | (simp; done) | (simp; omega)) : ((List.length N) : Int) - 1 = ((N.length - 1 : Nat) : Int)))), H157_, S159_, (by omega), (rfl)⟩ ?_
   rintro c _ w165_ ⟨h, rfl, H166_, S167_, hc, hin⟩
   refine C_seq (fun K168_ hK168_ => ?_)
   refine C_seq (fun K169_ hK169_ => C_reg ?_)
   refine sv (v := (vI .i64 (c : Int))) (x_move rfl) ?_
   refine sv (v := (vB (decide (0 < (c : Int))))) (x_bin rfl rfl rfl) ?_
   refine wpList_nil (X_then (hK169_ _ _ ?_))
   clear hK169_
   refine C_cond (b := decide (0 < (c : Int))) rfl (fun c170_t => ?_) (fun c170_f => ?_)
   ·have c170_tp : 0 < (c : Int) := of_decide_eq_true c170_t
    refine C_skip (X_then (hK168_ _ _ ?_))
    clear hK168_
    refine C_seq (fun K171_ hK171_ => ?_)
    refine C_block ?_
    refine C_seq (fun K172_ hK172_ => C_reg ?_)
    refine sv (v := (vP (some ⟨kb, 0, none⟩))) (x_move rfl) ?_
    refine sv (v := (vP (some ⟨kb, 0, none⟩))) (by kernel_rfl) ?_
    refine sv (v := (vP (some ⟨kb, 3, none⟩))) (by kernel_rfl) ?_
    refine sv (v := gv) (x_load1 rfl Try.underlying102 rfl ((Holds.rd H166_ 2 rfl) 3 gv rfl)) ?_
    refine sv (v := (vI .i64 (c : Int))) (x_move rfl) ?_
    obtain ⟨x173_, hx174_, hm175_⟩ := elem_at N c (by omega)
    have hp176_ := hg1 x173_ hm175_
    have hp177_ := hb2 x173_ hm175_
    have hp178_ := hpos x173_ hm175_
    have hg179_ := hg1 x173_ hm175_
    have hps_ := hpos x173_ hm175_
    refine sv (v := (vP (some ⟨(sb gv), so gv + (c * 4 + 0), none⟩))) (x_idxRS (v := gv) rfl h1 rfl Try.underlying102 z106 (by omega) (by omega) (by omega : _ = c) rfl) ?_
    refine sv (v := (vA #[(vI .i64 x173_.ver), (vI .i64 x173_.created_Main), (vI .i64 x173_.created_Sub), x173_.revs])) (x_loadN (vs := [(vI .i64 x173_.ver), (vI .i64 x173_.created_Main), (vI .i64 x173_.created_Sub), x173_.revs]) rfl Try.underlying106 rfl z106 rfl (RC.cells (RS.rc h1) (Holds.ro_at H166_ 1 rfl) (c * 4 + 0) (fm_cells GN.len hx174_ (i := 0) rfl))) ?_
    refine S_list (T_alloc z106 H166_ ?_)
    intro b180_ w181_ S183_ H182_
    have S184_ := Same.trans S167_ S183_
    refine S_list0 (T_storeN (vs := [(vI .i64 x173_.ver), (vI .i64 x173_.created_Main), (vI .i64 x173_.created_Sub), x173_.revs]) rfl rfl z106 rfl (List.forall_mem_cons.2 ⟨rfl, (List.forall_mem_cons.2 ⟨rfl, (List.forall_mem_cons.2 ⟨rfl, (List.forall_mem_cons.2 ⟨(RS.one hg179_), (fun _ h__ => by cases h__)⟩)⟩)⟩)⟩) H182_ 0 rfl (Nat.le_of_ble_eq_true (by rfl)) ?_)
    intro w185_ S187_ H186_
    have S188_ := Same.trans S184_ S187_
    refine wpList_nil (X_then (hK172_ _ _ ?_))
    clear hK172_
    refine C_seq (fun K189_ hK189_ => ?_)
    refine C_seq (fun K190_ hK190_ => C_reg ?_)
    refine S_list (T_callW (al := [(vP (some ⟨b180_, 0, none⟩))]) rfl rfl cb69 (Calls.into (n := 13) (al := [(vP (some ⟨b180_, 0, none⟩))]) Try.func69 rfl Try.ntmps69 rfl rfl ?_))
    refine C_seq (fun K191_ hK191_ => C_reg ?_)
    refine sv (v := (vB false)) (x_assign rfl) ?_
    refine wpList_nil (X_then (hK191_ _ _ ?_))
    clear hK191_
    refine C_seq (fun K192_ hK192_ => C_reg ?_)
    refine sv (v := (vP (some ⟨b180_, 0, none⟩))) (x_move rfl) ?_
    refine sv (v := (vB false)) (by kernel_rfl) ?_
    refine sv (v := (vB false)) (x_move rfl) ?_
    refine S_yes (j := 2) (dj := 5) (b := false) rfl rfl rfl (T_val (v := (vP (some ⟨b180_, 0, none⟩))) (x_move rfl) ?_)
    refine S_yes (j := 2) (dj := 5) (b := false) rfl rfl rfl (T_val (v := (vP (some ⟨b180_, 0, none⟩))) (by kernel_rfl) ?_)
    refine S_yes (j := 2) (dj := 5) (b := false) rfl rfl rfl (T_val (v := (vP (some ⟨b180_, 3, none⟩))) (by kernel_rfl) ?_)
    refine S_yes (j := 2) (dj := 5) (b := false) rfl rfl rfl (T_val (v := x173_.revs) (x_load1 rfl Try.underlying80 rfl ((Holds.rd H186_ 0 rfl) 3 x173_.revs rfl)) ?_)
    refine S_yes (j := 2) (dj := 5) (b := false) rfl rfl rfl (T_val (v := (vI .i64 ((List.length x173_.l) : Int))) (x_lenRS rfl hg179_ Try.underlying80) ?_)
    refine S_yes (j := 2) (dj := 5) (b := false) rfl rfl rfl (T_val (v := (vB (decide (((List.length x173_.l) : Int) = 0)))) (x_bin rfl rfl rfl) ?_)
    refine S_list (T_pickF (v := (vB (decide (((List.length x173_.l) : Int) = 0)))) rfl rfl ?_)
    refine sv (v := (vB (decide (((List.length x173_.l) : Int) = 0)))) (x_assign rfl) ?_
    refine wpList_nil (X_then (hK192_ _ _ ?_))
    clear hK192_
    refine C_ret ?_
    refine R_any (v := (vB (decide (((List.length x173_.l) : Int) = 0)))) (run_results1 rfl rfl) ⟨_, rfl, ?_⟩
    refine wpList_nil (X_then (hK190_ _ _ ?_))
    clear hK190_
    refine C_cond (b := decide (((List.length x173_.l) : Int) = 0)) rfl (fun c193_t => ?_) (fun c193_f => ?_)
    ·have c193_tp : ((List.length x173_.l) : Int) = 0 := of_decide_eq_true c193_t
     refine C_exit (X_thenX (X_blkHit ?_))
     refine (X_then (hK171_ _ _ ?_))
     clear hK171_
     refine C_reg ?_
     refine sv (v := (vI .i64 (c : Int))) (x_move rfl) ?_
     refine sv (v := (vI .i64 ((c : Int) - 1))) (x_bin rfl rfl (ib_sub (IntWalk.i64_in _ (by omega)))) ?_
     refine sv (v := (vI .i64 ((c : Int) - 1))) (x_assign rfl) ?_
     refine wpList_nil (X_then ?_)
     have H194_ : Holds w185_ (cl b151_ 58 [(vI .i64 at_), (vI .i64 0)] :: ro R :: cl kb 104 [(vS ka kl kc), (vI .i64 m), (vI .i64 n), gv] :: F) := (Holds.pkF H186_ [1, 1, 1] 1 :)
     exact ⟨(c - 1), ⟨_, congrArg (fun e => mkA 84 e []) (ch (ch (ch (ch rfl rfl) rfl) rfl) (congrArg (vI .i64) ((by first | rfl | omega | (simp; done) | (simp; omega)) : (c : Int) - 1 = ((c - 1 : Nat) : Int)))), H194_, S188_, (by first | assumption | omega | exact rfl), (by rw [hin, sStart_skip hx174_ (by omega) c193_tp])⟩, by first | omega | (dsimp only; omega) | (simp; omega)⟩
    ·have c193_fp : ¬ (((List.length x173_.l) : Int) = 0) := of_decide_eq_false c193_f
     refine C_skip (X_then (hK189_ _ _ ?_))
     clear hK189_
     refine C_seq (fun K195_ hK195_ => C_reg ?_)
     refine sv (v := (vA #[(vI .i64 at_), (vI .i64 0)])) (x_loadN (vs := [(vI .i64 at_), (vI .i64 0)]) rfl Try.underlying58 rfl z58 rfl (Rd.cells (Holds.rd H186_ 1 rfl) 0 rfl)) ?_
     refine sv (v := (vP (some ⟨b180_, 1, none⟩))) (by kernel_rfl) ?_
     refine sv (v := (vA #[(vI .i64 x173_.created_Main), (vI .i64 x173_.created_Sub)])) (x_loadN (vs := [(vI .i64 x173_.created_Main), (vI .i64 x173_.created_Sub)]) rfl Try.underlying58 rfl z58 rfl (Rd.cells (Holds.rd H186_ 0 rfl) 1 rfl)) ?_
     have H197_ := ((Holds.bring H186_ 2 rfl) :)
     refine S_list (T_call (al := [(vA #[(vI .i64 at_), (vI .i64 0)]), (vA #[(vI .i64 x173_.created_Main), (vI .i64 x173_.created_Sub)])]) (pre := []) rfl rfl cb68 (kGreater R at_ 0 x173_.created_Main x173_.created_Sub) H197_ ?_)
     rintro v196_ p201_ w198_ ⟨rfl, rfl⟩ S200_ H199_
     have S202_ := Same.trans S188_ S200_
     refine wpList_nil (X_then (hK195_ _ _ ?_))
     clear hK195_
     refine C_cond (b := vLessB x173_.created_Main x173_.created_Sub at_ 0) rfl (fun c203_t => ?_) (fun c203_f => ?_)
     ·skip
      refine C_exit (X_blkMiss rfl (X_thenX (X_thenX (X_blkHit ?_))))
      refine (X_then ?_)
      have H204_ : Holds w198_ (cl b151_ 58 [(vI .i64 at_), (vI .i64 0)] :: ro R :: cl kb 104 [(vS ka kl kc), (vI .i64 m), (vI .i64 n), gv] :: F) := (Holds.pkF H199_ [2, 0, 1] 1 :)
      exact ⟨c, _, congrArg (fun e => mkA 84 e []) (ch (ch (ch (ch rfl rfl) rfl) rfl) rfl), H204_, S202_, (by rw [hin]; exact sStart_yes hx174_ (by omega) c193_fp (by simpa using c203_t)), (by omega)⟩
     ·skip
      refine C_skip (X_blkN (X_then (hK171_ _ _ ?_)))
      clear hK171_
      refine C_reg ?_
      refine sv (v := (vI .i64 (c : Int))) (x_move rfl) ?_
      refine sv (v := (vI .i64 ((c : Int) - 1))) (x_bin rfl rfl (ib_sub (IntWalk.i64_in _ (by omega)))) ?_
      refine sv (v := (vI .i64 ((c : Int) - 1))) (x_assign rfl) ?_
      refine wpList_nil (X_then ?_)
      have H205_ : Holds w198_ (cl b151_ 58 [(vI .i64 at_), (vI .i64 0)] :: ro R :: cl kb 104 [(vS ka kl kc), (vI .i64 m), (vI .i64 n), gv] :: F) := (Holds.pkF H199_ [2, 0, 1] 1 :)
      exact ⟨(c - 1), ⟨_, congrArg (fun e => mkA 84 e []) (ch (ch (ch (ch rfl rfl) rfl) rfl) (congrArg (vI .i64) ((by first | rfl | omega | (simp; done) | (simp; omega)) : (c : Int) - 1 = ((c - 1 : Nat) : Int)))), H205_, S202_, (by first | assumption | omega | exact rfl), (by rw [hin, sStart_no hx174_ (by omega) c193_fp (by simpa using c203_f)])⟩, by first | omega | (dsimp only; omega) | (simp; omega)⟩
   ·have c170_fp : ¬ (0 < (c : Int)) := of_decide_eq_false c170_f
    refine C_exit (X_thenX (X_thenX (X_blkHit ?_)))
    refine (X_then ?_)
    exact ⟨c, _, congrArg (fun e => mkA 84 e []) (ch (ch (ch (ch rfl rfl) rfl) rfl) rfl), H166_, S167_, (by rw [hin]; obtain rfl : c = 0 := (by omega); rfl), (by omega)⟩
  ·rintro _ w161_ ⟨c0, h, rfl, H162_, S163_, hc0, hcl⟩
   refine C_seq (fun K206_ hK206_ => C_reg ?_)
   refine sv (v := (vS none 0 0)) (x_assign rfl) ?_
   refine wpList_nil (X_then (hK206_ _ _ ?_))
   clear hK206_
   refine C_seq (fun K207_ hK207_ => C_reg ?_)
   refine sv (v := (vI .i64 0)) (x_assign rfl) ?_
   refine wpList_nil (X_then (hK207_ _ _ ?_))
   clear hK207_
   refine C_seq (fun K208_ hK208_ => ?_)
   refine C_block ?_
   have H209_ : Holds w161_ (sl 58 2 (vS none 0 0) (List.length ([] : List RV)) (([] : List RV).flatMap RV.cells) :: cl b151_ 58 [(vI .i64 at_), (vI .i64 0)] :: ro R :: cl kb 104 [(vS ka kl kc), (vI .i64 m), (vI .i64 n), gv] :: F) := Holds.add_nil H162_ 58 2
   refine C_loop (γ := Nat × Value × (List RV) × Int) (fun x__ a__ w1__ => match x__ with | ⟨k, ov, out, la⟩ => ∃ h : Env, a__ = mkA 84 (upd (upd (upd (upd (upd (upd h 0 (vP (some ⟨kb, 0, none⟩))) 6 (vS none 0 0)) 7 (vP (some ⟨b151_, 0, none⟩))) 8 (vI .i64 (k : Int))) 10 ov) 11 (vI .i64 la)) [] ∧ Holds w1__ (sl 58 2 ov (List.length out) (out.flatMap RV.cells) :: cl b151_ 58 [(vI .i64 at_), (vI .i64 0)] :: ro R :: cl kb 104 [(vS ka kl kc), (vI .i64 m), (vI .i64 n), gv] :: F) ∧ Same w w1__ ∧ (k ≤ N.length) ∧ (iSinceF N at_ = ((N.drop k).flatMap GN.l).foldl (sStep at_) (out, la)) ∧ (out = [] → la = 0) ∧ (out.length ≤ 100000 * k)) (fun x__ => match x__ with | ⟨k, ov, out, la⟩ => N.length - k) (⟨c0, (vS none 0 0), ([] : List RV), 0⟩) ⟨_, congrArg (fun e => mkA 84 e []) (ch (ch (ch (ch (ch (ch rfl rfl) rfl) rfl) rfl) (rfl : (vS none 0 0) = ((vS none 0 0)))) rfl), H209_, S163_, (by first | assumption | omega | exact rfl), (by unfold iSinceF; rw [hc0]), (fun _ => rfl), (Nat.zero_le _)⟩ ?_
   rintro ⟨k, ov, out, la⟩ _ w210_ ⟨h, rfl, H211_, S212_, hk, hq, h0, hol⟩
   refine C_seq (fun K213_ hK213_ => ?_)
   refine C_seq (fun K214_ hK214_ => C_reg ?_)
   refine sv (v := (vI .i64 (k : Int))) (x_move rfl) ?_
   refine sv (v := (vP (some ⟨kb, 0, none⟩))) (x_move rfl) ?_
   refine sv (v := (vP (some ⟨kb, 0, none⟩))) (by kernel_rfl) ?_
   refine sv (v := (vP (some ⟨kb, 3, none⟩))) (by kernel_rfl) ?_
   refine sv (v := gv) (x_load1 rfl Try.underlying102 rfl ((Holds.rd H211_ 3 rfl) 3 gv rfl)) ?_
   refine sv (v := (vI .i64 ((List.length N) : Int))) (x_lenRS rfl h1 Try.underlying102) ?_
   refine sv (v := (vB (decide ((k : Int) < ((List.length N) : Int))))) (x_bin rfl rfl rfl) ?_
   refine wpList_nil (X_then (hK214_ _ _ ?_))
   clear hK214_
   refine C_cond (b := decide ((k : Int) < ((List.length N) : Int))) rfl (fun c215_t => ?_) (fun c215_f => ?_)
   ·have c215_tp : (k : Int) < ((List.length N) : Int) := of_decide_eq_true c215_t
    refine C_skip (X_then (hK213_ _ _ ?_))
    clear hK213_
    refine C_seq (fun K216_ hK216_ => ?_)
    refine C_block ?_
    refine C_seq (fun K217_ hK217_ => C_reg ?_)
    refine sv (v := (vP (some ⟨kb, 0, none⟩))) (x_move rfl) ?_
    refine sv (v := (vP (some ⟨kb, 0, none⟩))) (by kernel_rfl) ?_
    refine sv (v := (vP (some ⟨kb, 3, none⟩))) (by kernel_rfl) ?_
    refine sv (v := gv) (x_load1 rfl Try.underlying102 rfl ((Holds.rd H211_ 3 rfl) 3 gv rfl)) ?_
    refine sv (v := (vI .i64 (k : Int))) (x_move rfl) ?_
    obtain ⟨x218_, hx219_, hm220_⟩ := elem_at N k (by omega)
    have hp221_ := hg1 x218_ hm220_
    have hp222_ := hb2 x218_ hm220_
    have hp223_ := hpos x218_ hm220_
    have hg224_ := hg1 x218_ hm220_
    have hps_ := hpos x218_ hm220_
    refine sv (v := (vP (some ⟨(sb gv), so gv + (k * 4 + 0), none⟩))) (x_idxRS (v := gv) rfl h1 rfl Try.underlying102 z106 (by omega) (by omega) (by omega : _ = k) rfl) ?_
    refine sv (v := (vP (some ⟨(sb gv), so gv + (k * 4 + 3), none⟩))) (by kernel_rfl) ?_
    refine sv (v := x218_.revs) (x_load1 rfl Try.underlying80 rfl (RC.cell (RS.rc h1) (Holds.ro_at H211_ 2 rfl) (j := k * 4 + 3) (u := x218_.revs) (fm_cell GN.len hx219_ (i := 3) rfl))) ?_
    refine sv (v := (vI .i64 ((List.length x218_.l) : Int))) (x_lenRS rfl hg224_ Try.underlying80) ?_
    refine sv (v := (vI .i64 0)) (x_move rfl) ?_
    refine wpList_nil (X_then (hK217_ _ _ ?_))
    clear hK217_
    refine C_block ?_
    refine C_loop (γ := Nat × Value × (List RV) × Int) (fun x__ a__ w1__ => match x__ with | ⟨i, ov2, out2, la2⟩ => ∃ h : Env, a__ = mkA 84 (upd (upd (upd (upd (upd (upd (upd (upd (upd h 0 (vP (some ⟨kb, 0, none⟩))) 6 (vS none 0 0)) 7 (vP (some ⟨b151_, 0, none⟩))) 8 (vI .i64 (k : Int))) 10 ov2) 11 (vI .i64 la2)) 57 x218_.revs) 58 (vI .i64 ((List.length x218_.l) : Int))) 59 (vI .i64 (i : Int))) [] ∧ Holds w1__ (sl 58 2 ov2 (List.length out2) (out2.flatMap RV.cells) :: cl b151_ 58 [(vI .i64 at_), (vI .i64 0)] :: ro R :: cl kb 104 [(vS ka kl kc), (vI .i64 m), (vI .i64 n), gv] :: F) ∧ Same w w1__ ∧ (i ≤ x218_.l.length) ∧ (iSinceF N at_ = (x218_.l.drop i ++ (N.drop (k + 1)).flatMap GN.l).foldl (sStep at_) (out2, la2)) ∧ (out2 = [] → la2 = 0) ∧ (out2.length ≤ 100000 * k + i)) (fun x__ => match x__ with | ⟨i, ov2, out2, la2⟩ => x218_.l.length - i) (⟨0, ov, out, la⟩) ⟨_, congrArg (fun e => mkA 84 e []) (ch (ch (ch (ch (ch (ch (ch (ch (ch rfl rfl) rfl) rfl) rfl) rfl) rfl) rfl) rfl) (congrArg (vI .i64) ((by first | rfl | omega | (simp; done) | (simp; omega)) : 0 = (0 : Int)))), H211_, S212_, (Nat.zero_le _), (by rw [hq, drop_at hx219_, List.flatMap_cons]; rfl), (h0), (by omega)⟩ ?_
    rintro ⟨i, ov2, out2, la2⟩ _ w225_ ⟨h, rfl, H226_, S227_, hi, hq2, h02, hol2⟩
    refine C_seq (fun K228_ hK228_ => C_reg ?_)
    refine sv (v := (vB (decide ((i : Int) < ((List.length x218_.l) : Int))))) (x_bin rfl rfl rfl) ?_
    refine wpList_nil (X_then (hK228_ _ _ ?_))
    clear hK228_
    refine C_seq (fun K229_ hK229_ => ?_)
    refine C_cond (b := decide ((i : Int) < ((List.length x218_.l) : Int))) rfl (fun c230_t => ?_) (fun c230_f => ?_)
    ·have c230_tp : (i : Int) < ((List.length x218_.l) : Int) := of_decide_eq_true c230_t
     refine C_skip (X_then (hK229_ _ _ ?_))
     clear hK229_
     refine C_seq (fun K231_ hK231_ => ?_)
     refine C_block ?_
     refine C_seq (fun K232_ hK232_ => C_reg ?_)
     obtain ⟨x233_, hx234_, hm235_⟩ := elem_at x218_.l i (by omega)
     have hry_ := hps_ x233_ hm235_
     refine sv (v := (vP (some ⟨(sb x218_.revs), so x218_.revs + (i * 2 + 0), none⟩))) (x_idxRS (v := x218_.revs) rfl hg224_ rfl Try.underlying80 z58 (by omega) (by omega) (by omega : _ = i) rfl) ?_
     refine sv (v := (vA #[(vI .i64 x233_.main), (vI .i64 x233_.sub)])) (x_loadN (vs := [(vI .i64 x233_.main), (vI .i64 x233_.sub)]) rfl Try.underlying58 rfl z58 rfl (RC.cells (RS.rc hg224_) (Holds.ro_at H226_ 2 rfl) (i * 2 + 0) (fm_cells RV.len hx234_ (i := 0) rfl))) ?_
     refine S_list (T_alloc z58 H226_ ?_)
     intro b236_ w237_ S239_ H238_
     have S240_ := Same.trans S227_ S239_
     refine S_list0 (T_storeN (vs := [(vI .i64 x233_.main), (vI .i64 x233_.sub)]) rfl rfl z58 rfl (by simp [Value.oneCell']) H238_ 0 rfl (Nat.le_of_ble_eq_true (by rfl)) ?_)
     intro w241_ S243_ H242_
     have S244_ := Same.trans S240_ S243_
     refine wpList_nil (X_then (hK232_ _ _ ?_))
     clear hK232_
     refine C_seq (fun K245_ hK245_ => ?_)
     refine C_seq (fun K246_ hK246_ => C_reg ?_)
     refine sv (v := (vA #[(vI .i64 at_), (vI .i64 0)])) (x_loadN (vs := [(vI .i64 at_), (vI .i64 0)]) rfl Try.underlying58 rfl z58 rfl (Rd.cells (Holds.rd H242_ 2 rfl) 0 rfl)) ?_
     refine sv (v := (vA #[(vI .i64 x233_.main), (vI .i64 x233_.sub)])) (x_loadN (vs := [(vI .i64 x233_.main), (vI .i64 x233_.sub)]) rfl Try.underlying58 rfl z58 rfl (Rd.cells (Holds.rd H242_ 0 rfl) 0 rfl)) ?_
     have H248_ := ((Holds.bring H242_ 3 rfl) :)
     refine S_list (T_call (al := [(vA #[(vI .i64 at_), (vI .i64 0)]), (vA #[(vI .i64 x233_.main), (vI .i64 x233_.sub)])]) (pre := []) rfl rfl cb68 (kGreater R at_ 0 x233_.main x233_.sub) H248_ ?_)
     rintro v247_ p252_ w249_ ⟨rfl, rfl⟩ S251_ H250_
     have S253_ := Same.trans S244_ S251_
     refine wpList_nil (X_then (hK246_ _ _ ?_))
     clear hK246_
     refine C_cond (b := vLessB x233_.main x233_.sub at_ 0) rfl (fun c254_t => ?_) (fun c254_f => ?_)
     ·skip
      refine C_exit (X_thenX (X_blkHit ?_))
      refine (X_then (hK231_ _ _ ?_))
      clear hK231_
      refine C_reg ?_
      refine sv (v := (vI .i64 ((i : Int) + 1))) (x_bin rfl rfl (ib_add (IntWalk.i64_in _ (by omega)))) ?_
      refine sv (v := (vI .i64 ((i : Int) + 1))) (x_move rfl) ?_
      refine wpList_nil (X_then ?_)
      have H255_ : Holds w249_ (sl 58 2 ov2 (List.length out2) (out2.flatMap RV.cells) :: cl b151_ 58 [(vI .i64 at_), (vI .i64 0)] :: ro R :: cl kb 104 [(vS ka kl kc), (vI .i64 m), (vI .i64 n), gv] :: F) := (Holds.pkF H250_ [2, 2, 0, 1] 1 :)
      exact ⟨⟨i + 1, ov2, out2, la2⟩, ⟨_, congrArg (fun e => mkA 84 e []) (ch (ch (ch (ch (ch (ch (ch (ch (ch rfl rfl) rfl) rfl) rfl) rfl) rfl) rfl) rfl) (congrArg (vI .i64) ((by first | rfl | omega | (simp; done) | (simp; omega)) : (i : Int) + 1 = ((i + 1 : Nat) : Int)))), H255_, S253_, (by first | assumption | omega | exact rfl), (by rw [hq2, drop_at hx234_, List.cons_append, List.foldl_cons, show sStep at_ (out2, la2) x233_ = (out2, la2) from if_pos (by simpa using c254_t)]), (h02), (by first | omega | (simp; omega))⟩, by first | omega | (dsimp only; omega) | (simp; omega)⟩
     ·skip
      refine C_skip (X_then (hK245_ _ _ ?_))
      clear hK245_
      refine C_seq (fun K256_ hK256_ => ?_)
      refine C_seq (fun K257_ hK257_ => C_reg ?_)
      refine sv (v := (vP (some ⟨b236_, 0, none⟩))) (by kernel_rfl) ?_
      refine sv (v := (vI .i64 x233_.main)) (x_load1 rfl Try.underlying2 rfl ((Holds.rd H250_ 1 rfl) 0 (vI .i64 x233_.main) rfl)) ?_
      refine sv (v := (vI .i64 la2)) (x_move rfl) ?_
      refine sv (v := (vB (decide (x233_.main = la2)))) (x_bin rfl rfl rfl) ?_
      refine wpList_nil (X_then (hK257_ _ _ ?_))
      clear hK257_
      refine C_cond (b := decide (x233_.main = la2)) rfl (fun c258_t => ?_) (fun c258_f => ?_)
      ·have c258_tp : x233_.main = la2 := of_decide_eq_true c258_t
       have ho0_ : 0 < out2.length := Nat.pos_of_ne_zero fun h_ => by have h2_ := h02 (List.eq_nil_of_length_eq_zero h_); omega
       refine C_seq (fun K259_ hK259_ => C_reg ?_)
       refine sv (v := ov2) (x_move rfl) ?_
       refine sv (v := ov2) (x_move rfl) ?_
       refine sv (v := (vI .i64 ((List.length out2) : Int))) (x_lenSl rfl H250_ 2 rfl Try.underlying80) ?_
       refine sv (v := (vI .i64 (((List.length out2) : Int) - 1))) (x_bin rfl rfl (ib_sub (IntWalk.i64_in _ (by omega)))) ?_
       refine sv (v := (vA #[(vI .i64 x233_.main), (vI .i64 x233_.sub)])) (x_loadN (vs := [(vI .i64 x233_.main), (vI .i64 x233_.sub)]) rfl Try.underlying58 rfl z58 rfl (Rd.cells (Holds.rd H250_ 1 rfl) 0 rfl)) ?_
       have hr260_ := Holds.sl_RSw H250_ 2 rfl
       refine sv (v := (vP (some ⟨(sb ov2), so ov2 + (((((List.length out2) : Int) - 1).toNat) * 2 + 0), none⟩))) (x_idxSlR (v := ov2) rfl hr260_ rfl Try.underlying80 z58 (by omega) (by omega) (by omega : _ = (((List.length out2) : Int) - 1).toNat) rfl) ?_
       refine S_list0 (T_storeSlN (vs := [(vI .i64 x233_.main), (vI .i64 x233_.sub)]) (k := ((((List.length out2) : Int) - 1).toNat) * 2 + 0) rfl rfl z58 rfl (by simp [Value.oneCell']) H250_ 2 rfl (by (rw [fm_len RV.len]; simp only [List.length_cons, List.length_nil]; omega)) (Nat.zero_lt_succ _) rfl rfl ?_)
       intro w261_ S263_ H262_
       have S264_ := Same.trans S253_ S263_
       have H265_ := Holds.resl H262_ 2 rfl (rset_last (y := x233_) (by omega) rfl : List.take (((((List.length out2) : Int) - 1).toNat) * 2 + 0) (out2.flatMap RV.cells) ++ [(vI .i64 x233_.main), (vI .i64 x233_.sub)] ++ List.drop (((((List.length out2) : Int) - 1).toNat) * 2 + 0 + List.length [(vI .i64 x233_.main), (vI .i64 x233_.sub)]) (out2.flatMap RV.cells) = (out2.dropLast ++ [x233_]).flatMap RV.cells) (by simp; omega : (List.length out2) = (List.length (out2.dropLast ++ [x233_])))
       refine wpList_nil (X_then (hK259_ _ _ ?_))
       clear hK259_
       refine C_exit (X_thenX (X_blkHit ?_))
       refine (X_then (hK231_ _ _ ?_))
       clear hK231_
       refine C_reg ?_
       refine sv (v := (vI .i64 ((i : Int) + 1))) (x_bin rfl rfl (ib_add (IntWalk.i64_in _ (by omega)))) ?_
       refine sv (v := (vI .i64 ((i : Int) + 1))) (x_move rfl) ?_
       refine wpList_nil (X_then ?_)
       have H266_ : Holds w261_ (sl 58 2 ov2 (List.length (out2.dropLast ++ [x233_])) ((out2.dropLast ++ [x233_]).flatMap RV.cells) :: cl b151_ 58 [(vI .i64 at_), (vI .i64 0)] :: ro R :: cl kb 104 [(vS ka kl kc), (vI .i64 m), (vI .i64 n), gv] :: F) := (Holds.pkF H265_ [2, 2, 0, 1] 1 :)
       exact ⟨⟨i + 1, ov2, (out2.dropLast ++ [x233_]), la2⟩, ⟨_, congrArg (fun e => mkA 84 e []) (ch (ch (ch (ch (ch (ch (ch (ch (ch rfl rfl) rfl) rfl) rfl) rfl) rfl) rfl) rfl) (congrArg (vI .i64) ((by first | rfl | omega | (simp; done) | (simp; omega)) : (i : Int) + 1 = ((i + 1 : Nat) : Int)))), H266_, S264_, (by first | assumption | omega | exact rfl), (by rw [hq2, drop_at hx234_, List.cons_append, List.foldl_cons, show sStep at_ (out2, la2) x233_ = (out2.dropLast ++ [x233_], la2) from by unfold sStep; rw [if_neg (by simpa using c254_f), if_pos c258_tp]]), (fun h_ => absurd h_ (by simp)), (by first | omega | (simp; omega))⟩, by first | omega | (dsimp only; omega) | (simp; omega)⟩
      ·have c258_fp : ¬ (x233_.main = la2) := of_decide_eq_false c258_f
       refine C_skip (X_then (hK256_ _ _ ?_))
       clear hK256_
       refine C_seq (fun K267_ hK267_ => C_reg ?_)
       refine sv (v := ov2) (x_move rfl) ?_
       refine sv (v := (vA #[(vI .i64 x233_.main), (vI .i64 x233_.sub)])) (x_loadN (vs := [(vI .i64 x233_.main), (vI .i64 x233_.sub)]) rfl Try.underlying58 rfl z58 rfl (Rd.cells (Holds.rd H250_ 1 rfl) 0 rfl)) ?_
       refine S_list (T_new (obj := .cells #[(vI .i64 x233_.main), (vI .i64 x233_.sub)] 58) (f := fun b__ => .slice (some ⟨b__, 0, none⟩) 1 1) (A := fun b__ => cl b__ 58 [(vI .i64 x233_.main), (vI .i64 x233_.sub)]) (by kernel_rfl) (fun l h => h.alloc _ _) H250_ ?_)
       intro b268_ w269_ S271_ H270_
       have S272_ := Same.trans S253_ S271_
       refine S_list (T_append rfl rfl Try.underlying80 z58 rfl (by decide) H270_ 3 rfl (Holds.cl_src H270_ 0 rfl Try.underlying80 (by simp [Value.oneCell']) rfl) (by omega) ?_)
       intro v273_ w274_ S276_ H275_
       have S277_ := Same.trans S272_ S276_
       refine sv (v := v273_) (x_assign rfl) ?_
       refine wpList_nil (X_then (hK267_ _ _ ?_))
       clear hK267_
       refine C_reg ?_
       refine sv (v := (vP (some ⟨b236_, 0, none⟩))) (by kernel_rfl) ?_
       refine sv (v := (vI .i64 x233_.main)) (x_load1 rfl Try.underlying2 rfl ((Holds.rd H275_ 2 rfl) 0 (vI .i64 x233_.main) rfl)) ?_
       refine sv (v := (vI .i64 x233_.main)) (x_assign rfl) ?_
       refine wpList_nil (X_blkN (X_then (hK231_ _ _ ?_)))
       clear hK231_
       refine C_reg ?_
       refine sv (v := (vI .i64 ((i : Int) + 1))) (x_bin rfl rfl (ib_add (IntWalk.i64_in _ (by omega)))) ?_
       refine sv (v := (vI .i64 ((i : Int) + 1))) (x_move rfl) ?_
       refine wpList_nil (X_then ?_)
       have H278_ := Holds.resl H275_ 3 rfl ((by first | rfl | (simp [RV.cells]; done) | (simp; omega)) : (out2.flatMap RV.cells) ++ [(vI .i64 x233_.main), (vI .i64 x233_.sub)] = (out2 ++ [x233_]).flatMap RV.cells) ((by first | rfl | (simp [RV.cells]; done) | (simp; omega)) : (List.length out2) + 1 = (List.length (out2 ++ [x233_])))
       have H279_ : Holds w274_ (sl 58 2 v273_ (List.length (out2 ++ [x233_])) ((out2 ++ [x233_]).flatMap RV.cells) :: cl b151_ 58 [(vI .i64 at_), (vI .i64 0)] :: ro R :: cl kb 104 [(vS ka kl kc), (vI .i64 m), (vI .i64 n), gv] :: F) := (Holds.pkF H278_ [3, 3, 1, 2] 2 :)
       exact ⟨⟨i + 1, v273_, (out2 ++ [x233_]), x233_.main⟩, ⟨_, congrArg (fun e => mkA 84 e []) (ch (ch (ch (ch (ch (ch (ch (ch (ch rfl rfl) rfl) rfl) rfl) rfl) rfl) rfl) rfl) (congrArg (vI .i64) ((by first | rfl | omega | (simp; done) | (simp; omega)) : (i : Int) + 1 = ((i + 1 : Nat) : Int)))), H279_, S277_, (by first | assumption | omega | exact rfl), (by rw [hq2, drop_at hx234_, List.cons_append, List.foldl_cons, show sStep at_ (out2, la2) x233_ = (out2 ++ [x233_], x233_.main) from by unfold sStep; rw [if_neg (by simpa using c254_f), if_neg c258_fp]]), (fun h_ => absurd h_ (by simp)), (by first | omega | (simp; omega))⟩, by first | omega | (dsimp only; omega) | (simp; omega)⟩
    ·have c230_fp : ¬ ((i : Int) < ((List.length x218_.l) : Int)) := of_decide_eq_false c230_f
     refine C_exit (X_thenX (X_thenX (X_blkHit ?_)))
     refine (X_blkN (X_then (hK216_ _ _ ?_)))
     clear hK216_
     refine C_reg ?_
     refine sv (v := (vI .i64 (k : Int))) (x_move rfl) ?_
     refine sv (v := (vI .i64 ((k : Int) + 1))) (x_bin rfl rfl (ib_add (IntWalk.i64_in _ (by omega)))) ?_
     refine sv (v := (vI .i64 ((k : Int) + 1))) (x_assign rfl) ?_
     refine wpList_nil (X_then ?_)
     exact ⟨⟨k + 1, ov2, out2, la2⟩, ⟨_, congrArg (fun e => mkA 84 e []) (ch (ch (ch (ch (ch (ch rfl rfl) rfl) rfl) (congrArg (vI .i64) ((by first | rfl | omega | (simp; done) | (simp; omega)) : (k : Int) + 1 = ((k + 1 : Nat) : Int)))) rfl) rfl), H226_, S227_, (by first | assumption | omega | exact rfl), (by rw [hq2, List.drop_of_length_le (by omega), List.nil_append]), (h02), (by omega)⟩, by first | omega | (dsimp only; omega) | (simp; omega)⟩
   ·have c215_fp : ¬ ((k : Int) < ((List.length N) : Int)) := of_decide_eq_false c215_f
    refine C_exit (X_thenX (X_thenX (X_blkHit ?_)))
    refine (X_then (hK208_ _ _ ?_))
    clear hK208_
    refine C_seq (fun K280_ hK280_ => C_reg ?_)
    refine sv (v := ov) (x_move rfl) ?_
    refine sv (v := ov) (x_assign rfl) ?_
    refine wpList_nil (X_then (hK280_ _ _ ?_))
    clear hK280_
    refine C_ret ?_
    refine R_any (v := ov) (run_results1 rfl rfl) ?_
    have H281_ := Holds.resl H211_ 0 rfl ((by rw [iSince_N, hq, List.drop_of_length_le (by omega)]; rfl) : out.flatMap RV.cells = (iSince (N.map GN.m) at_).flatMap RV.cells) ((by rw [iSince_N, hq, List.drop_of_length_le (by omega)]; rfl) : (List.length out) = (List.length (iSince (N.map GN.m) at_)))
    have H282_ : Holds w210_ (ro R :: sl 58 2 ov (List.length (iSince (N.map GN.m) at_)) ((iSince (N.map GN.m) at_).flatMap RV.cells) :: cl kb 104 [(vS ka kl kc), (vI .i64 m), (vI .i64 n), gv] :: F) := (Holds.pkF H281_ [2, 0, 1] 1 :)
    exact ⟨_, _, rfl, ⟨ov, rfl, rfl⟩, S212_, H282_⟩

theorem kSinceW (R : HP) (kb : Nat) (ka : Option Addr) (kl kc : Nat) (m n : Int) (gv lv : Value) (N0 T : List GN) (ll : List RV) (at_ : Int) (hT : Tlk T lv ll) (hN : ∀ x ∈ N0, GOk R x) (hb1 : (N0 ++ T).length ≤ 100000) (hb2 : ∀ x ∈ N0 ++ T, x.l.length ≤ 100000) (hne : ∀ x, N0 ++ T = [x] → ¬ x.l.length = 0) (hn0 : 0 < (N0 ++ T).length) (hpos : ∀ x ∈ N0 ++ T, ∀ r ∈ x.l, 1 ≤ r.main) :
    Tri Try.prog 59 #[(vP (some ⟨kb, 0, none⟩)), (vP none), (vI .i64 at_)] R [sl 106 4 gv (List.length (N0 ++ T)) ((N0 ++ T).flatMap GN.cells), sl 58 2 lv (List.length ll) (ll.flatMap RV.cells), cl kb 104 [(vS ka kl kc), (vI .i64 m), (vI .i64 n), gv]] (fun v__ post__ => ∃ (v' : Value), v__ = v' ∧ post__ = [sl 106 4 gv (List.length (N0 ++ T)) ((N0 ++ T).flatMap GN.cells), sl 58 2 lv (List.length ll) (ll.flatMap RV.cells), sl 58 2 v' (List.length (iSince ((N0 ++ T).map GN.m) at_)) ((iSince ((N0 ++ T).map GN.m) at_).flatMap RV.cells), cl kb 104 [(vS ka kl kc), (vI .i64 m), (vI .i64 n), gv]]) := by
  refine (Tri.lend (fun h0 a0 d0 => Tri.lend (fun h1 a1 d1 => kSinceR (un (un R h0) h1) kb ka kl kc m n gv (N0 ++ T) at_ ((sl_RS a0 (Sub.un_right d0)).mono (Sub.un_left _ _)) (GOk_app hN (Sub.trans' (Sub.un_left R h0) (Sub.un_left _ h1)) hT (sl_RS a1 (Sub.un_right d1))) hb1 hb2 hne hn0 hpos))).mono fun v post h => ?_
  obtain ⟨p1, rfl, p2, rfl, h⟩ := h
  obtain ⟨v', rfl, rfl⟩ := h
  exact ⟨_, rfl, rfl⟩
end Go.Proofs.Ytiblemgccgbhoaa
set_option linter.unusedVariables false
set_option linter.unusedSimpArgs false
namespace Go.Proofs.Ytiblemgccgbhoaa
open Go Go.RowKit Gw
open Go.Value renaming int → vI, bool → vB, slice → vS, pointer → vP, agg → vA, tuple → vT

set_option maxHeartbeats 8000000 in
theorem kTomb (R : HP) (kb : Nat) (ka : Option Addr) (kl kc : Nat) (m n : Int) (gv lv : Value) (N0 T : List GN) (ll : List RV) (m' n' : Int) (hT : Tlk T lv ll) (hTN : T = [] → N0 = []) (hT0 : T ≠ []) (hN : ∀ x ∈ N0, GOk R x) (hbd : (N0 ++ T).length ≤ 90000 ∧ ll.length ≤ 90000) (hbv : ∀ x ∈ N0 ++ T, 0 ≤ x.ver ∧ x.ver ≤ 90000) (hne : ∀ x, N0 ++ T = [x] → ¬ x.l.length = 0) (hgt : ¬ ll.length = 0 → vLessB m n m' n' = true) :
    TriG Try.prog 55 #[(vP (some ⟨kb, 0, none⟩)), (vP none), (vI .i64 m'), (vI .i64 n')] R [cl kb 104 [(vS ka kl kc), (vI .i64 m), (vI .i64 n), gv], sl 106 4 gv (List.length (N0 ++ T)) ((N0 ++ T).flatMap GN.cells), sl 58 2 lv (List.length ll) (ll.flatMap RV.cells)] (fun R' v__ post__ => (v__ = (Value.iface 122 (Value.string (ByteArray.mk #[109, 118, 99, 99, 58, 32, 114, 101, 118, 105, 115, 105, 111, 110, 32, 110, 111, 116, 32, 102, 111, 117, 110, 100]))) ∧ post__ = [cl kb 104 [(vS ka kl kc), (vI .i64 m), (vI .i64 n), gv], sl 106 4 gv (List.length (N0 ++ T)) ((N0 ++ T).flatMap GN.cells), sl 58 2 lv (List.length ll) (ll.flatMap RV.cells)] ∧ (ll.length = 0)) ∨ (∃ (gv' : Value) (N0' : List GN), v__ = (Value.nilIface) ∧ post__ = [cl kb 104 [(vS ka kl kc), (vI .i64 m'), (vI .i64 n'), gv'], sl 106 4 gv' (List.length (N0' ++ [(⟨0, 0, 0, .slice none 0 0, []⟩ : GN)])) ((N0' ++ [(⟨0, 0, 0, .slice none 0 0, []⟩ : GN)]).flatMap GN.cells), sl 58 2 (vS none 0 0) (List.length ([] : List RV)) (([] : List RV).flatMap RV.cells)] ∧ (¬ ll.length = 0) ∧ (N0'.map GN.m = iPut ((N0 ++ T).map GN.m) m' n') ∧ (∀ x ∈ N0', GOk R' x))) := by
 refine TriG.into (n := 40) (al := [(vP (some ⟨kb, 0, none⟩)), (vP none), (vI .i64 m'), (vI .i64 n')]) Try.func55 rfl Try.ntmps55 rfl rfl fun w F H => ?_
 refine C_seq (fun K1_ hK1_ => C_reg ?_)
 refine sv (v := (Value.nilIface)) (x_assign rfl) ?_
 refine wpList_nil (X_then (hK1_ _ _ ?_))
 clear hK1_
 refine C_seq (fun K2_ hK2_ => ?_)
 refine C_seq (fun K3_ hK3_ => C_reg ?_)
 obtain ⟨ta, tb, tc, hT1_⟩ := Tlk_some hT hT0
 have H4_ := Holds.resl H 2 rfl (by rw [hT1_] : (N0 ++ T).flatMap GN.cells = (N0 ++ [(⟨ta, tb, tc, lv, ll⟩ : GN)]).flatMap GN.cells) (by rw [hT1_]; simp : (List.length (N0 ++ T)) = (List.length N0 + 1))
 have hlt_ : (N0 ++ T).length = N0.length + 1 := by rw [hT1_]; simp
 have hbl_ := hbd; rw [hT1_] at hbl_; simp only [List.length_append, List.length_cons, List.length_nil] at hbl_
 refine sv (v := (vP (some ⟨kb, 0, none⟩))) (x_move rfl) ?_
 refine S_list (T_callW (al := [(vP (some ⟨kb, 0, none⟩))]) rfl rfl cb64 (Calls.into (n := 17) (al := [(vP (some ⟨kb, 0, none⟩))]) Try.func64 rfl Try.ntmps64 rfl rfl ?_))
 refine C_seq (fun K5_ hK5_ => C_reg ?_)
 refine sv (v := (vB false)) (x_assign rfl) ?_
 refine wpList_nil (X_then (hK5_ _ _ ?_))
 clear hK5_
 refine C_seq (fun K6_ hK6_ => C_reg ?_)
 refine sv (v := (vP (some ⟨kb, 0, none⟩))) (x_move rfl) ?_
 refine sv (v := (vP (some ⟨kb, 0, none⟩))) (by kernel_rfl) ?_
 refine sv (v := (vP (some ⟨kb, 3, none⟩))) (by kernel_rfl) ?_
 refine sv (v := gv) (x_load1 rfl Try.underlying102 rfl ((Holds.rd H4_ 1 rfl) 3 gv rfl)) ?_
 refine sv (v := (vI .i64 ((List.length N0 + 1) : Int))) (x_lenSl rfl H4_ 2 rfl Try.underlying102) ?_
 refine sv (v := (vB (decide (((List.length N0 + 1) : Int) = 1)))) (x_bin rfl rfl rfl) ?_
 refine sv (v := (vB (decide (((List.length N0 + 1) : Int) = 1)))) (x_move rfl) ?_
 rcases Bool.eq_false_or_eq_true (decide (((List.length N0 + 1) : Int) = 1)) with c7_t | c7_f
 ·have c7_tp : ((List.length N0 + 1) : Int) = 1 := of_decide_eq_true c7_t
  refine S_yes (j := 6) (dj := 9) (b := true) rfl rfl (congrArg vB c7_t) (T_val (v := (vP (some ⟨kb, 0, none⟩))) (x_move rfl) ?_)
  refine S_yes (j := 6) (dj := 9) (b := true) rfl rfl (congrArg vB c7_t) (T_val (v := (vP (some ⟨kb, 0, none⟩))) (by kernel_rfl) ?_)
  refine S_yes (j := 6) (dj := 9) (b := true) rfl rfl (congrArg vB c7_t) (T_val (v := (vP (some ⟨kb, 3, none⟩))) (by kernel_rfl) ?_)
  refine S_yes (j := 6) (dj := 9) (b := true) rfl rfl (congrArg vB c7_t) (T_val (v := gv) (x_load1 rfl Try.underlying102 rfl ((Holds.rd H4_ 1 rfl) 3 gv rfl)) ?_)
  have hr8_ := Holds.sl_RSw H4_ 2 rfl
  refine S_yes (j := 6) (dj := 9) (b := true) rfl rfl (congrArg vB c7_t) (T_val (v := (vP (some ⟨(sb gv), so gv + (0 * 4 + 0), none⟩))) (x_idxSlR (v := gv) rfl hr8_ rfl Try.underlying102 z106 (by omega) (by omega) (by omega : _ = 0) rfl) ?_)
  refine S_yes (j := 6) (dj := 9) (b := true) rfl rfl (congrArg vB c7_t) (T_callW (al := [(vP (some ⟨(sb gv), so gv + (0 * 4 + 0), none⟩))]) rfl rfl cb69 (Calls.into (n := 13) (al := [(vP (some ⟨(sb gv), so gv + (0 * 4 + 0), none⟩))]) Try.func69 rfl Try.ntmps69 rfl rfl ?_))
  refine C_seq (fun K9_ hK9_ => C_reg ?_)
  refine sv (v := (vB false)) (x_assign rfl) ?_
  refine wpList_nil (X_then (hK9_ _ _ ?_))
  clear hK9_
  refine C_seq (fun K10_ hK10_ => C_reg ?_)
  refine sv (v := (vP (some ⟨(sb gv), so gv + (0 * 4 + 0), none⟩))) (x_move rfl) ?_
  refine sv (v := (vB false)) (by kernel_rfl) ?_
  refine sv (v := (vB false)) (x_move rfl) ?_
  refine S_yes (j := 2) (dj := 5) (b := false) rfl rfl rfl (T_val (v := (vP (some ⟨(sb gv), so gv + (0 * 4 + 0), none⟩))) (x_move rfl) ?_)
  refine S_yes (j := 2) (dj := 5) (b := false) rfl rfl rfl (T_val (v := (vP (some ⟨(sb gv), so gv + (0 * 4 + 0), none⟩))) (by kernel_rfl) ?_)
  refine S_yes (j := 2) (dj := 5) (b := false) rfl rfl rfl (T_val (v := (vP (some ⟨(sb gv), so gv + (0 * 4 + 3), none⟩))) (by kernel_rfl) ?_)
  have hz11_ : (N0 ++ [(⟨ta, tb, tc, lv, ll⟩ : GN)])[0]? = some (⟨ta, tb, tc, lv, ll⟩ : GN) := by rw [List.eq_nil_of_length_eq_zero (show N0.length = 0 by omega)]; rfl
  refine S_yes (j := 2) (dj := 5) (b := false) rfl rfl rfl (T_val (v := lv) (x_load1 rfl Try.underlying80 rfl ((Holds.slrd H4_ 2 rfl) _ _ (fm_cell GN.len hz11_ (i := 3) rfl))) ?_)
  refine S_yes (j := 2) (dj := 5) (b := false) rfl rfl rfl (T_val (v := (vI .i64 ((List.length ll) : Int))) (x_lenSl rfl H4_ 3 rfl Try.underlying80) ?_)
  refine S_yes (j := 2) (dj := 5) (b := false) rfl rfl rfl (T_val (v := (vB (decide (((List.length ll) : Int) = 0)))) (x_bin rfl rfl rfl) ?_)
  refine S_list (T_pickF (v := (vB (decide (((List.length ll) : Int) = 0)))) rfl rfl ?_)
  refine sv (v := (vB (decide (((List.length ll) : Int) = 0)))) (x_assign rfl) ?_
  refine wpList_nil (X_then (hK10_ _ _ ?_))
  clear hK10_
  refine C_ret ?_
  refine R_any (v := (vB (decide (((List.length ll) : Int) = 0)))) (run_results1 rfl rfl) ⟨_, rfl, ?_⟩
  refine S_list (T_pickT (v := (vB (decide (((List.length ll) : Int) = 0)))) (congrArg vB c7_t) rfl ?_)
  refine sv (v := (vB (decide (((List.length ll) : Int) = 0)))) (x_assign rfl) ?_
  refine wpList_nil (X_then (hK6_ _ _ ?_))
  clear hK6_
  refine C_ret ?_
  refine R_any (v := (vB (decide (((List.length ll) : Int) = 0)))) (run_results1 rfl rfl) ⟨_, rfl, ?_⟩
  refine wpList_nil (X_then (hK3_ _ _ ?_))
  clear hK3_
  refine C_cond (b := decide (((List.length ll) : Int) = 0)) rfl (fun c12_t => ?_) (fun c12_f => ?_)
  ·have c12_tp : ((List.length ll) : Int) = 0 := of_decide_eq_true c12_t
   exact absurd (show ll.length = 0 by omega) (hne ⟨ta, tb, tc, lv, ll⟩ (by rw [hT1_, List.eq_nil_of_length_eq_zero (show N0.length = 0 by omega)]; rfl))
  ·have c12_fp : ¬ (((List.length ll) : Int) = 0) := of_decide_eq_false c12_f
   refine C_skip (X_then (hK2_ _ _ ?_))
   clear hK2_
   refine C_seq (fun K13_ hK13_ => ?_)
   refine C_seq (fun K14_ hK14_ => ?_)
   refine A_start (S := fun w => Rd kb [(vS ka kl kc), (vI .i64 m), (vI .i64 n), gv] w ∧ SlRd gv ((N0 ++ [(⟨ta, tb, tc, lv, ll⟩ : GN)]).flatMap GN.cells) w ∧ SlRd lv (ll.flatMap RV.cells) w ∧ Sub R (hp w)) (N := 12) foll rfl rfl ?_
   have H15_ := Holds.drew_ H4_
   have hq16_ := And.intro (Holds.rd H15_ 1 rfl) (And.intro (Holds.slrd H15_ 2 rfl) (And.intro (Holds.slrd H15_ 3 rfl) ((Holds.ro_at H15_ 0 rfl))))
   refine A_tk 0 (v := (vP (some ⟨kb, 0, none⟩))) rfl (by kernel_rfl) (fun w hS => x_move rfl) hq16_ ?_
   refine A_tk 1 (v := (vP (some ⟨kb, 0, none⟩))) rfl (by kernel_rfl) (fun w hS => by kernel_rfl) hq16_ ?_
   refine A_tk 2 (v := (vP (some ⟨kb, 3, none⟩))) rfl (by kernel_rfl) (fun w hS => by kernel_rfl) hq16_ ?_
   refine A_tk 3 (v := gv) rfl (by kernel_rfl) (fun w hS => x_load1 rfl Try.underlying102 rfl (hS.1 3 gv rfl)) hq16_ ?_
   refine A_tk 4 (v := (vP (some ⟨kb, 0, none⟩))) rfl (by kernel_rfl) (fun w hS => x_move rfl) hq16_ ?_
   refine A_tk 5 (v := (vP (some ⟨kb, 0, none⟩))) rfl (by kernel_rfl) (fun w hS => by kernel_rfl) hq16_ ?_
   refine A_tk 6 (v := (vP (some ⟨kb, 3, none⟩))) rfl (by kernel_rfl) (fun w hS => by kernel_rfl) hq16_ ?_
   refine A_tk 7 (v := gv) rfl (by kernel_rfl) (fun w hS => x_load1 rfl Try.underlying102 rfl (hS.1 3 gv rfl)) hq16_ ?_
   refine A_ready (i := 8) (rs := []) (by kernel_rfl) ?_
   refine AllR.cons ?_ AllR.nil
   refine A_op (ls' := #[true, true, true, true, true, true, true, true, true, false, false, false]) rfl (by kernel_rfl) (T_val (v := (vI .i64 ((List.length N0 + 1) : Int))) (x_lenSl rfl H15_ 2 rfl Try.underlying102) ?_)
   refine ⟨⟨Holds.rd H15_ 1 rfl, Holds.slrd H15_ 2 rfl, Holds.slrd H15_ 3 rfl, (Holds.ro_at H15_ 0 rfl)⟩, ?_⟩
   refine A_tk 9 (v := (vI .i64 (((List.length N0 + 1) : Int) - 1))) rfl (by kernel_rfl) (fun w hS => x_bin rfl rfl (ib_sub (IntWalk.i64_in _ (by omega)))) hq16_ ?_
   refine A_tk 10 (v := (vP (some ⟨(sb gv), so gv + ((List.length N0) * 4 + 0), none⟩))) rfl (by kernel_rfl) (fun w hS => x_idxSlR (v := gv) rfl hr8_ rfl Try.underlying102 z106 (by omega) (by omega) (by omega : _ = List.length N0) rfl) hq16_ ?_
   refine A_ready (i := 11) (rs := []) (by kernel_rfl) ?_
   refine AllR.cons ?_ AllR.nil
   refine A_op (ls' := #[true, true, true, true, true, true, true, true, true, true, true, true]) rfl (by kernel_rfl) (T_callW (al := [(vP (some ⟨(sb gv), so gv + ((List.length N0) * 4 + 0), none⟩))]) rfl rfl cb69 (Calls.into (n := 13) (al := [(vP (some ⟨(sb gv), so gv + ((List.length N0) * 4 + 0), none⟩))]) Try.func69 rfl Try.ntmps69 rfl rfl ?_))
   refine C_seq (fun K17_ hK17_ => C_reg ?_)
   refine sv (v := (vB false)) (x_assign rfl) ?_
   refine wpList_nil (X_then (hK17_ _ _ ?_))
   clear hK17_
   refine C_seq (fun K18_ hK18_ => C_reg ?_)
   refine sv (v := (vP (some ⟨(sb gv), so gv + ((List.length N0) * 4 + 0), none⟩))) (x_move rfl) ?_
   refine sv (v := (vB false)) (by kernel_rfl) ?_
   refine sv (v := (vB false)) (x_move rfl) ?_
   refine S_yes (j := 2) (dj := 5) (b := false) rfl rfl rfl (T_val (v := (vP (some ⟨(sb gv), so gv + ((List.length N0) * 4 + 0), none⟩))) (x_move rfl) ?_)
   refine S_yes (j := 2) (dj := 5) (b := false) rfl rfl rfl (T_val (v := (vP (some ⟨(sb gv), so gv + ((List.length N0) * 4 + 0), none⟩))) (by kernel_rfl) ?_)
   refine S_yes (j := 2) (dj := 5) (b := false) rfl rfl rfl (T_val (v := (vP (some ⟨(sb gv), so gv + ((List.length N0) * 4 + 3), none⟩))) (by kernel_rfl) ?_)
   refine S_yes (j := 2) (dj := 5) (b := false) rfl rfl rfl (T_val (v := lv) (x_load1 rfl Try.underlying80 rfl ((Holds.slrd H15_ 2 rfl) _ _ (fm_cell GN.len (gat _ _) (i := 3) rfl))) ?_)
   refine S_yes (j := 2) (dj := 5) (b := false) rfl rfl rfl (T_val (v := (vI .i64 ((List.length ll) : Int))) (x_lenSl rfl H15_ 3 rfl Try.underlying80) ?_)
   refine S_yes (j := 2) (dj := 5) (b := false) rfl rfl rfl (T_val (v := (vB (decide (((List.length ll) : Int) = 0)))) (x_bin rfl rfl rfl) ?_)
   refine S_list (T_pickF (v := (vB (decide (((List.length ll) : Int) = 0)))) rfl rfl ?_)
   refine sv (v := (vB (decide (((List.length ll) : Int) = 0)))) (x_assign rfl) ?_
   refine wpList_nil (X_then (hK18_ _ _ ?_))
   clear hK18_
   refine C_ret ?_
   refine R_any (v := (vB (decide (((List.length ll) : Int) = 0)))) (run_results1 rfl rfl) ⟨_, rfl, ?_⟩
   refine ⟨⟨Holds.rd H15_ 1 rfl, Holds.slrd H15_ 2 rfl, Holds.slrd H15_ 3 rfl, (Holds.ro_at H15_ 0 rfl)⟩, ?_⟩
   refine A_done (by kernel_rfl) ?_
   refine (X_then (hK14_ _ _ ?_))
   clear hK14_
   refine C_condF (congrArg vB c12_f) ?_
   refine C_skip (X_then (hK13_ _ _ ?_))
   clear hK13_
   refine C_seq (fun K19_ hK19_ => C_reg ?_)
   refine sv (v := (vP (some ⟨kb, 0, none⟩))) (x_move rfl) ?_
   refine sv (v := (vP none)) (x_move rfl) ?_
   refine sv (v := (vI .i64 m')) (x_move rfl) ?_
   refine sv (v := (vI .i64 n')) (x_move rfl) ?_
   have H20_ := Holds.resl H15_ 2 rfl ((by first | rfl | (rw [hT1_]; done) | (rw [hT1_]; simp; done) | (simp [RV.cells, GN.cells]; done) | (simp; omega)) : (N0 ++ [(⟨ta, tb, tc, lv, ll⟩ : GN)]).flatMap GN.cells = (N0 ++ [(⟨ta, tb, tc, lv, ll⟩ : GN)]).flatMap GN.cells) ((by first | rfl | (rw [hT1_]; done) | (rw [hT1_]; simp; done) | (simp [RV.cells, GN.cells]; done) | (simp; omega)) : (List.length N0 + 1) = (List.length (N0 ++ [(⟨ta, tb, tc, lv, ll⟩ : GN)])))
   refine S_list (T_call (al := [(vP (some ⟨kb, 0, none⟩)), (vP none), (vI .i64 m'), (vI .i64 n')]) (pre := [cl kb 104 [(vS ka kl kc), (vI .i64 m), (vI .i64 n), gv], sl 106 4 gv (List.length (N0 ++ [(⟨ta, tb, tc, lv, ll⟩ : GN)])) ((N0 ++ [(⟨ta, tb, tc, lv, ll⟩ : GN)]).flatMap GN.cells), sl 58 2 lv (List.length ll) (ll.flatMap RV.cells)]) rfl rfl cb54 (kPut R kb ka kl kc m n gv lv N0 [(⟨ta, tb, tc, lv, ll⟩ : GN)] ll m' n' (hT1_ ▸ hT) (fun h_ => by cases h_) (⟨by simp; omega, by omega⟩) (fun x hx => by have := hbv x (by rw [hT1_]; exact hx); omega) (hgt (by omega))) H20_ ?_)
   rintro v21_ p32_ w29_ ⟨gv22_, lv23_, T24_, ll25_, rfl, rfl, he26_, he27_, he28_⟩ S31_ H30_
   have S33_ := Same.trans (Same.trans (Same.refl w) (Same.drew _)) S31_
   obtain ⟨_, _, _, hT2_⟩ := Tlk_some he27_ he28_
   have hT2l_ : List.length T24_ = 1 := by rw [hT2_]; rfl
   refine wpList_nil (X_then (hK19_ _ _ ?_))
   clear hK19_
   refine C_seq (fun K34_ hK34_ => C_reg ?_)
   refine sv (v := (vP (some ⟨kb, 0, none⟩))) (x_move rfl) ?_
   refine sv (v := (vP (some ⟨kb, 0, none⟩))) (x_move rfl) ?_
   refine sv (v := (vP (some ⟨kb, 0, none⟩))) (by kernel_rfl) ?_
   refine sv (v := (vP (some ⟨kb, 3, none⟩))) (by kernel_rfl) ?_
   refine sv (v := gv22_) (x_load1 rfl Try.underlying102 rfl ((Holds.rd H30_ 1 rfl) 3 gv22_ rfl)) ?_
   refine sv (v := (vA #[(vI .i64 0), (vI .i64 0), (vI .i64 0), (vS none 0 0)])) (by kernel_rfl) ?_
   refine S_list (T_new (obj := .cells #[(vI .i64 0), (vI .i64 0), (vI .i64 0), (vS none 0 0)] 106) (f := fun b__ => .slice (some ⟨b__, 0, none⟩) 1 1) (A := fun b__ => cl b__ 106 [(vI .i64 0), (vI .i64 0), (vI .i64 0), (vS none 0 0)]) (by kernel_rfl) (fun l h => h.alloc _ _) H30_ ?_)
   intro b35_ w36_ S38_ H37_
   have S39_ := Same.trans S33_ S38_
   refine S_list (T_append rfl rfl Try.underlying102 z106 rfl (by decide) H37_ 3 rfl (Holds.cl_src H37_ 0 rfl Try.underlying102 (by simp [Value.oneCell']) rfl) (by first | omega | (simp only [List.length_append, List.length_cons, List.length_nil]; omega)) ?_)
   intro v40_ w41_ S43_ H42_
   have S44_ := Same.trans S39_ S43_
   refine sv (v := (vP (some ⟨kb, 0, none⟩))) (by kernel_rfl) ?_
   refine sv (v := (vP (some ⟨kb, 3, none⟩))) (by kernel_rfl) ?_
   refine S_list0 (T_store1 (v := v40_) rfl rfl z102 (Holds.sl_one H42_ 3 rfl) H42_ 2 rfl (Nat.le_of_ble_eq_true (by rfl)) ?_)
   intro w45_ S47_ H46_
   have S48_ := Same.trans S44_ S47_
   refine wpList_nil (X_then (hK34_ _ _ ?_))
   clear hK34_
   refine C_seq (fun K49_ hK49_ => C_reg ?_)
   refine sv (v := (Value.nilIface)) (x_assign rfl) ?_
   refine wpList_nil (X_then (hK49_ _ _ ?_))
   clear hK49_
   refine C_ret ?_
   refine R_any (v := (Value.nilIface)) (run_results1 rfl rfl) ?_
   have H50_ := ((Holds.bring (Holds.bring H46_ 4 rfl) 2 rfl) :)
   obtain ⟨R51_, hs52_, ⟨R53_, ha54_, hs55_⟩, H56_⟩ := Holds.gift H50_
   have hr57_ : RS R51_ 2 lv23_ (List.length ll25_) (ll25_.flatMap RV.cells) := (sl_RS ha54_ (Sub.rfl' _)).mono hs55_
   have H58_ : Holds w45_ (sl 58 2 (vS none 0 0) (List.length ([] : List RV)) (([] : List RV).flatMap RV.cells) :: ro R51_ :: cl b35_ 106 [(vI .i64 0), (vI .i64 0), (vI .i64 0), (vS none 0 0)] :: cl kb 104 [(vS ka kl kc), (vI .i64 m'), (vI .i64 n'), v40_] :: sl 106 4 v40_ ((List.length (N0 ++ T24_)) + 1) (((N0 ++ T24_).flatMap GN.cells) ++ [(vI .i64 0), (vI .i64 0), (vI .i64 0), (vS none 0 0)]) :: F) := Holds.add_nil H56_ 58 2
   have H59_ := Holds.resl H58_ 4 rfl (by simp [GN.cells] : ((N0 ++ T24_).flatMap GN.cells) ++ [(vI .i64 0), (vI .i64 0), (vI .i64 0), (vS none 0 0)] = ((N0 ++ T24_) ++ [(⟨0, 0, 0, .slice none 0 0, []⟩ : GN)]).flatMap GN.cells) (by simp; omega : (List.length (N0 ++ T24_)) + 1 = (List.length ((N0 ++ T24_) ++ [(⟨0, 0, 0, .slice none 0 0, []⟩ : GN)])))
   have H60_ : Holds w45_ (ro R51_ :: cl kb 104 [(vS ka kl kc), (vI .i64 m'), (vI .i64 n'), v40_] :: sl 106 4 v40_ (List.length ((N0 ++ T24_) ++ [(⟨0, 0, 0, .slice none 0 0, []⟩ : GN)])) (((N0 ++ T24_) ++ [(⟨0, 0, 0, .slice none 0 0, []⟩ : GN)]).flatMap GN.cells) :: sl 58 2 (vS none 0 0) (List.length ([] : List RV)) (([] : List RV).flatMap RV.cells) :: F) := (Holds.pkF H59_ [1, 2, 2, 0] 1 :)
   exact ⟨R51_, _, _, rfl, hs52_, (.inr ⟨v40_, (N0 ++ T24_), rfl, rfl, (by omega), (by rw [he26_, hT1_]), (GOk_app hN hs52_ he27_ hr57_)⟩), S48_, H60_⟩
 ·have c7_fp : ¬ (((List.length N0 + 1) : Int) = 1) := of_decide_eq_false c7_f
  refine S_no (j := 6) (dj := 9) (b := false) rfl rfl (congrArg vB c7_f) (by decide) ?_
  refine S_no (j := 6) (dj := 9) (b := false) rfl rfl (congrArg vB c7_f) (by decide) ?_
  refine S_no (j := 6) (dj := 9) (b := false) rfl rfl (congrArg vB c7_f) (by decide) ?_
  refine S_no (j := 6) (dj := 9) (b := false) rfl rfl (congrArg vB c7_f) (by decide) ?_
  refine S_no (j := 6) (dj := 9) (b := false) rfl rfl (congrArg vB c7_f) (by decide) ?_
  refine S_no (j := 6) (dj := 9) (b := false) rfl rfl (congrArg vB c7_f) (by decide) ?_
  refine S_list (T_pickF (v := (vB false)) (congrArg vB c7_f) rfl ?_)
  refine sv (v := (vB false)) (x_assign rfl) ?_
  refine wpList_nil (X_then (hK6_ _ _ ?_))
  clear hK6_
  refine C_ret ?_
  refine R_any (v := (vB false)) (run_results1 rfl rfl) ⟨_, rfl, ?_⟩
  refine wpList_nil (X_then (hK3_ _ _ ?_))
  clear hK3_
  refine C_condF rfl ?_
  refine C_skip (X_then (hK2_ _ _ ?_))
  clear hK2_
  refine C_seq (fun K61_ hK61_ => ?_)
  refine C_seq (fun K62_ hK62_ => ?_)
  refine A_start (S := fun w => Rd kb [(vS ka kl kc), (vI .i64 m), (vI .i64 n), gv] w ∧ SlRd gv ((N0 ++ [(⟨ta, tb, tc, lv, ll⟩ : GN)]).flatMap GN.cells) w ∧ SlRd lv (ll.flatMap RV.cells) w ∧ Sub R (hp w)) (N := 12) foll rfl rfl ?_
  have H63_ := Holds.drew_ H4_
  have hq64_ := And.intro (Holds.rd H63_ 1 rfl) (And.intro (Holds.slrd H63_ 2 rfl) (And.intro (Holds.slrd H63_ 3 rfl) ((Holds.ro_at H63_ 0 rfl))))
  refine A_tk 0 (v := (vP (some ⟨kb, 0, none⟩))) rfl (by kernel_rfl) (fun w hS => x_move rfl) hq64_ ?_
  refine A_tk 1 (v := (vP (some ⟨kb, 0, none⟩))) rfl (by kernel_rfl) (fun w hS => by kernel_rfl) hq64_ ?_
  refine A_tk 2 (v := (vP (some ⟨kb, 3, none⟩))) rfl (by kernel_rfl) (fun w hS => by kernel_rfl) hq64_ ?_
  refine A_tk 3 (v := gv) rfl (by kernel_rfl) (fun w hS => x_load1 rfl Try.underlying102 rfl (hS.1 3 gv rfl)) hq64_ ?_
  refine A_tk 4 (v := (vP (some ⟨kb, 0, none⟩))) rfl (by kernel_rfl) (fun w hS => x_move rfl) hq64_ ?_
  refine A_tk 5 (v := (vP (some ⟨kb, 0, none⟩))) rfl (by kernel_rfl) (fun w hS => by kernel_rfl) hq64_ ?_
  refine A_tk 6 (v := (vP (some ⟨kb, 3, none⟩))) rfl (by kernel_rfl) (fun w hS => by kernel_rfl) hq64_ ?_
  refine A_tk 7 (v := gv) rfl (by kernel_rfl) (fun w hS => x_load1 rfl Try.underlying102 rfl (hS.1 3 gv rfl)) hq64_ ?_
  refine A_ready (i := 8) (rs := []) (by kernel_rfl) ?_
  refine AllR.cons ?_ AllR.nil
  refine A_op (ls' := #[true, true, true, true, true, true, true, true, true, false, false, false]) rfl (by kernel_rfl) (T_val (v := (vI .i64 ((List.length N0 + 1) : Int))) (x_lenSl rfl H63_ 2 rfl Try.underlying102) ?_)
  refine ⟨⟨Holds.rd H63_ 1 rfl, Holds.slrd H63_ 2 rfl, Holds.slrd H63_ 3 rfl, (Holds.ro_at H63_ 0 rfl)⟩, ?_⟩
  refine A_tk 9 (v := (vI .i64 (((List.length N0 + 1) : Int) - 1))) rfl (by kernel_rfl) (fun w hS => x_bin rfl rfl (ib_sub (IntWalk.i64_in _ (by omega)))) hq64_ ?_
  have hr65_ := Holds.sl_RSw H63_ 2 rfl
  refine A_tk 10 (v := (vP (some ⟨(sb gv), so gv + ((List.length N0) * 4 + 0), none⟩))) rfl (by kernel_rfl) (fun w hS => x_idxSlR (v := gv) rfl hr65_ rfl Try.underlying102 z106 (by omega) (by omega) (by omega : _ = List.length N0) rfl) hq64_ ?_
  refine A_ready (i := 11) (rs := []) (by kernel_rfl) ?_
  refine AllR.cons ?_ AllR.nil
  refine A_op (ls' := #[true, true, true, true, true, true, true, true, true, true, true, true]) rfl (by kernel_rfl) (T_callW (al := [(vP (some ⟨(sb gv), so gv + ((List.length N0) * 4 + 0), none⟩))]) rfl rfl cb69 (Calls.into (n := 13) (al := [(vP (some ⟨(sb gv), so gv + ((List.length N0) * 4 + 0), none⟩))]) Try.func69 rfl Try.ntmps69 rfl rfl ?_))
  refine C_seq (fun K66_ hK66_ => C_reg ?_)
  refine sv (v := (vB false)) (x_assign rfl) ?_
  refine wpList_nil (X_then (hK66_ _ _ ?_))
  clear hK66_
  refine C_seq (fun K67_ hK67_ => C_reg ?_)
  refine sv (v := (vP (some ⟨(sb gv), so gv + ((List.length N0) * 4 + 0), none⟩))) (x_move rfl) ?_
  refine sv (v := (vB false)) (by kernel_rfl) ?_
  refine sv (v := (vB false)) (x_move rfl) ?_
  refine S_yes (j := 2) (dj := 5) (b := false) rfl rfl rfl (T_val (v := (vP (some ⟨(sb gv), so gv + ((List.length N0) * 4 + 0), none⟩))) (x_move rfl) ?_)
  refine S_yes (j := 2) (dj := 5) (b := false) rfl rfl rfl (T_val (v := (vP (some ⟨(sb gv), so gv + ((List.length N0) * 4 + 0), none⟩))) (by kernel_rfl) ?_)
  refine S_yes (j := 2) (dj := 5) (b := false) rfl rfl rfl (T_val (v := (vP (some ⟨(sb gv), so gv + ((List.length N0) * 4 + 3), none⟩))) (by kernel_rfl) ?_)
  refine S_yes (j := 2) (dj := 5) (b := false) rfl rfl rfl (T_val (v := lv) (x_load1 rfl Try.underlying80 rfl ((Holds.slrd H63_ 2 rfl) _ _ (fm_cell GN.len (gat _ _) (i := 3) rfl))) ?_)
  refine S_yes (j := 2) (dj := 5) (b := false) rfl rfl rfl (T_val (v := (vI .i64 ((List.length ll) : Int))) (x_lenSl rfl H63_ 3 rfl Try.underlying80) ?_)
  refine S_yes (j := 2) (dj := 5) (b := false) rfl rfl rfl (T_val (v := (vB (decide (((List.length ll) : Int) = 0)))) (x_bin rfl rfl rfl) ?_)
  refine S_list (T_pickF (v := (vB (decide (((List.length ll) : Int) = 0)))) rfl rfl ?_)
  refine sv (v := (vB (decide (((List.length ll) : Int) = 0)))) (x_assign rfl) ?_
  refine wpList_nil (X_then (hK67_ _ _ ?_))
  clear hK67_
  refine C_ret ?_
  refine R_any (v := (vB (decide (((List.length ll) : Int) = 0)))) (run_results1 rfl rfl) ⟨_, rfl, ?_⟩
  refine ⟨⟨Holds.rd H63_ 1 rfl, Holds.slrd H63_ 2 rfl, Holds.slrd H63_ 3 rfl, (Holds.ro_at H63_ 0 rfl)⟩, ?_⟩
  refine A_done (by kernel_rfl) ?_
  refine (X_then (hK62_ _ _ ?_))
  clear hK62_
  refine C_cond (b := decide (((List.length ll) : Int) = 0)) rfl (fun c68_t => ?_) (fun c68_f => ?_)
  ·have c68_tp : ((List.length ll) : Int) = 0 := of_decide_eq_true c68_t
   refine C_seq (fun K69_ hK69_ => C_reg ?_)
   refine sv (v := (Value.iface 122 (Value.string (ByteArray.mk #[109, 118, 99, 99, 58, 32, 114, 101, 118, 105, 115, 105, 111, 110, 32, 110, 111, 116, 32, 102, 111, 117, 110, 100])))) (by kernel_rfl) ?_
   refine sv (v := (Value.iface 122 (Value.string (ByteArray.mk #[109, 118, 99, 99, 58, 32, 114, 101, 118, 105, 115, 105, 111, 110, 32, 110, 111, 116, 32, 102, 111, 117, 110, 100])))) (x_assign rfl) ?_
   refine wpList_nil (X_then (hK69_ _ _ ?_))
   clear hK69_
   refine C_ret (X_thenR ?_)
   refine R_any (v := (Value.iface 122 (Value.string (ByteArray.mk #[109, 118, 99, 99, 58, 32, 114, 101, 118, 105, 115, 105, 111, 110, 32, 110, 111, 116, 32, 102, 111, 117, 110, 100])))) (run_results1 rfl rfl) ?_
   have H70_ := Holds.resl H63_ 2 rfl ((by first | rfl | (rw [hT1_]; done) | (rw [hT1_]; simp; done) | (simp [RV.cells, GN.cells]; done) | (simp; omega)) : (N0 ++ [(⟨ta, tb, tc, lv, ll⟩ : GN)]).flatMap GN.cells = (N0 ++ T).flatMap GN.cells) ((by first | rfl | (rw [hT1_]; done) | (rw [hT1_]; simp; done) | (simp [RV.cells, GN.cells]; done) | (simp; omega)) : (List.length N0 + 1) = (List.length (N0 ++ T)))
   exact ⟨R, _, _, rfl, (Sub.rfl' _), (.inl ⟨rfl, rfl, (by omega)⟩), (Same.trans (Same.refl w) (Same.drew _)), H70_⟩
  ·have c68_fp : ¬ (((List.length ll) : Int) = 0) := of_decide_eq_false c68_f
   refine C_skip (X_then (hK61_ _ _ ?_))
   clear hK61_
   refine C_seq (fun K71_ hK71_ => C_reg ?_)
   refine sv (v := (vP (some ⟨kb, 0, none⟩))) (x_move rfl) ?_
   refine sv (v := (vP none)) (x_move rfl) ?_
   refine sv (v := (vI .i64 m')) (x_move rfl) ?_
   refine sv (v := (vI .i64 n')) (x_move rfl) ?_
   have H72_ := Holds.resl H63_ 2 rfl ((by first | rfl | (rw [hT1_]; done) | (rw [hT1_]; simp; done) | (simp [RV.cells, GN.cells]; done) | (simp; omega)) : (N0 ++ [(⟨ta, tb, tc, lv, ll⟩ : GN)]).flatMap GN.cells = (N0 ++ [(⟨ta, tb, tc, lv, ll⟩ : GN)]).flatMap GN.cells) ((by first | rfl | (rw [hT1_]; done) | (rw [hT1_]; simp; done) | (simp [RV.cells, GN.cells]; done) | (simp; omega)) : (List.length N0 + 1) = (List.length (N0 ++ [(⟨ta, tb, tc, lv, ll⟩ : GN)])))
   refine S_list (T_call (al := [(vP (some ⟨kb, 0, none⟩)), (vP none), (vI .i64 m'), (vI .i64 n')]) (pre := [cl kb 104 [(vS ka kl kc), (vI .i64 m), (vI .i64 n), gv], sl 106 4 gv (List.length (N0 ++ [(⟨ta, tb, tc, lv, ll⟩ : GN)])) ((N0 ++ [(⟨ta, tb, tc, lv, ll⟩ : GN)]).flatMap GN.cells), sl 58 2 lv (List.length ll) (ll.flatMap RV.cells)]) rfl rfl cb54 (kPut R kb ka kl kc m n gv lv N0 [(⟨ta, tb, tc, lv, ll⟩ : GN)] ll m' n' (hT1_ ▸ hT) (fun h_ => by cases h_) (⟨by simp; omega, by omega⟩) (fun x hx => by have := hbv x (by rw [hT1_]; exact hx); omega) (hgt (by omega))) H72_ ?_)
   rintro v73_ p84_ w81_ ⟨gv74_, lv75_, T76_, ll77_, rfl, rfl, he78_, he79_, he80_⟩ S83_ H82_
   have S85_ := Same.trans (Same.trans (Same.refl w) (Same.drew _)) S83_
   obtain ⟨_, _, _, hT2_⟩ := Tlk_some he79_ he80_
   have hT2l_ : List.length T76_ = 1 := by rw [hT2_]; rfl
   refine wpList_nil (X_then (hK71_ _ _ ?_))
   clear hK71_
   refine C_seq (fun K86_ hK86_ => C_reg ?_)
   refine sv (v := (vP (some ⟨kb, 0, none⟩))) (x_move rfl) ?_
   refine sv (v := (vP (some ⟨kb, 0, none⟩))) (x_move rfl) ?_
   refine sv (v := (vP (some ⟨kb, 0, none⟩))) (by kernel_rfl) ?_
   refine sv (v := (vP (some ⟨kb, 3, none⟩))) (by kernel_rfl) ?_
   refine sv (v := gv74_) (x_load1 rfl Try.underlying102 rfl ((Holds.rd H82_ 1 rfl) 3 gv74_ rfl)) ?_
   refine sv (v := (vA #[(vI .i64 0), (vI .i64 0), (vI .i64 0), (vS none 0 0)])) (by kernel_rfl) ?_
   refine S_list (T_new (obj := .cells #[(vI .i64 0), (vI .i64 0), (vI .i64 0), (vS none 0 0)] 106) (f := fun b__ => .slice (some ⟨b__, 0, none⟩) 1 1) (A := fun b__ => cl b__ 106 [(vI .i64 0), (vI .i64 0), (vI .i64 0), (vS none 0 0)]) (by kernel_rfl) (fun l h => h.alloc _ _) H82_ ?_)
   intro b87_ w88_ S90_ H89_
   have S91_ := Same.trans S85_ S90_
   refine S_list (T_append rfl rfl Try.underlying102 z106 rfl (by decide) H89_ 3 rfl (Holds.cl_src H89_ 0 rfl Try.underlying102 (by simp [Value.oneCell']) rfl) (by first | omega | (simp only [List.length_append, List.length_cons, List.length_nil]; omega)) ?_)
   intro v92_ w93_ S95_ H94_
   have S96_ := Same.trans S91_ S95_
   refine sv (v := (vP (some ⟨kb, 0, none⟩))) (by kernel_rfl) ?_
   refine sv (v := (vP (some ⟨kb, 3, none⟩))) (by kernel_rfl) ?_
   refine S_list0 (T_store1 (v := v92_) rfl rfl z102 (Holds.sl_one H94_ 3 rfl) H94_ 2 rfl (Nat.le_of_ble_eq_true (by rfl)) ?_)
   intro w97_ S99_ H98_
   have S100_ := Same.trans S96_ S99_
   refine wpList_nil (X_then (hK86_ _ _ ?_))
   clear hK86_
   refine C_seq (fun K101_ hK101_ => C_reg ?_)
   refine sv (v := (Value.nilIface)) (x_assign rfl) ?_
   refine wpList_nil (X_then (hK101_ _ _ ?_))
   clear hK101_
   refine C_ret ?_
   refine R_any (v := (Value.nilIface)) (run_results1 rfl rfl) ?_
   have H102_ := ((Holds.bring (Holds.bring H98_ 4 rfl) 2 rfl) :)
   obtain ⟨R103_, hs104_, ⟨R105_, ha106_, hs107_⟩, H108_⟩ := Holds.gift H102_
   have hr109_ : RS R103_ 2 lv75_ (List.length ll77_) (ll77_.flatMap RV.cells) := (sl_RS ha106_ (Sub.rfl' _)).mono hs107_
   have H110_ : Holds w97_ (sl 58 2 (vS none 0 0) (List.length ([] : List RV)) (([] : List RV).flatMap RV.cells) :: ro R103_ :: cl b87_ 106 [(vI .i64 0), (vI .i64 0), (vI .i64 0), (vS none 0 0)] :: cl kb 104 [(vS ka kl kc), (vI .i64 m'), (vI .i64 n'), v92_] :: sl 106 4 v92_ ((List.length (N0 ++ T76_)) + 1) (((N0 ++ T76_).flatMap GN.cells) ++ [(vI .i64 0), (vI .i64 0), (vI .i64 0), (vS none 0 0)]) :: F) := Holds.add_nil H108_ 58 2
   have H111_ := Holds.resl H110_ 4 rfl (by simp [GN.cells] : ((N0 ++ T76_).flatMap GN.cells) ++ [(vI .i64 0), (vI .i64 0), (vI .i64 0), (vS none 0 0)] = ((N0 ++ T76_) ++ [(⟨0, 0, 0, .slice none 0 0, []⟩ : GN)]).flatMap GN.cells) (by simp; omega : (List.length (N0 ++ T76_)) + 1 = (List.length ((N0 ++ T76_) ++ [(⟨0, 0, 0, .slice none 0 0, []⟩ : GN)])))
   have H112_ : Holds w97_ (ro R103_ :: cl kb 104 [(vS ka kl kc), (vI .i64 m'), (vI .i64 n'), v92_] :: sl 106 4 v92_ (List.length ((N0 ++ T76_) ++ [(⟨0, 0, 0, .slice none 0 0, []⟩ : GN)])) (((N0 ++ T76_) ++ [(⟨0, 0, 0, .slice none 0 0, []⟩ : GN)]).flatMap GN.cells) :: sl 58 2 (vS none 0 0) (List.length ([] : List RV)) (([] : List RV).flatMap RV.cells) :: F) := (Holds.pkF H111_ [1, 2, 2, 0] 1 :)
   exact ⟨R103_, _, _, rfl, hs104_, (.inr ⟨v92_, (N0 ++ T76_), rfl, rfl, (by omega), (by rw [he78_, hT1_]), (GOk_app hN hs104_ he79_ hr109_)⟩), S100_, H112_⟩
end Go.Proofs.Ytiblemgccgbhoaa
