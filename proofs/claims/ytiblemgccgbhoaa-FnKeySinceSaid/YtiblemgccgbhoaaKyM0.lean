/- A dump is brought in. -/
import Derived.Test.YtiblemgccgbhoaaKyL0
set_option linter.unusedVariables false
set_option linter.unusedSimpArgs false
namespace Go.Proofs.Ytiblemgccgbhoaa
open Go Go.RowKit Gw

theorem map_m_len {N N' : List GN} (h : N'.map GN.m = N.map GN.m) : N'.length = N.length := by
  have e := congrArg List.length h
  rwa [List.length_map, List.length_map] at e
theorem map_m_all {N N' : List GN} {n : Nat} (h : N'.map GN.m = N.map GN.m) (hb : ∀ x ∈ N, x.l.length ≤ n) : ∀ x ∈ N', x.l.length ≤ n := fun x hx => by
  have e : x.m ∈ N.map GN.m := h ▸ List.mem_map_of_mem hx
  obtain ⟨y, hy, e⟩ := List.mem_map.1 e
  have e2 : y.l = x.l := congrArg GM.l e
  rw [← e2]; exact hb y hy
theorem map_m_k {N N' : List GN} (h : N'.map GN.m = N.map GN.m) : N'.map GN.k = N.map GN.k := by
  rw [← GN.mk_, ← GN.mk_, h]
theorem map_m_snoc {N N' : List GN} {k : Nat} {x y : GN} (h : N'.map GN.m = (N.take k).map GN.m) (hx : N[k]? = some x) (hy : y.m = x.m) : (N' ++ [y]).map GN.m = (N.take (k + 1)).map GN.m := by
  rw [List.take_add_one, hx, List.map_append, List.map_append, h]
  simp [hy]

set_option maxHeartbeats 400000 in
theorem kRevsIn (R : HP) (v : Value) (K : List RV) (hK : RS R 2 v (List.length K) (K.flatMap RV.cells)) (hl : K.length ≤ 100000) :
    Tri Try.prog 34 #[v] R [] (fun v__ post__ => ∃ (v' : Value), v__ = v' ∧ post__ = [sl 58 2 v' (List.length K) (K.flatMap RV.cells)]) := by
 refine Tri.into (n := 20) (al := [v]) Try.func34 rfl Try.ntmps34 rfl rfl fun w F H => ?_
 refine C_seq (fun K1_ hK1_ => ?_)
 refine C_reg ?_
 refine S_list (T_val (v := (Value.slice none 0 0)) (x_assign rfl) ?_)
 refine wpList_nil ?_
 refine (X_then (hK1_ _ _ ?_))
 clear hK1_
 refine C_seq (fun K2_ hK2_ => ?_)
 refine C_reg ?_
 refine S_list (T_val (v := (Value.slice none 0 0)) (x_assign rfl) ?_)
 refine wpList_nil ?_
 refine (X_then (hK2_ _ _ ?_))
 clear hK2_
 refine C_seq (fun K3_ hK3_ => ?_)
 refine C_seq (fun K4_ hK4_ => ?_)
 refine C_reg ?_
 refine S_list (T_val (v := (Value.int .i64 0)) (x_assign rfl) ?_)
 refine wpList_nil ?_
 refine (X_then (hK4_ _ _ ?_))
 clear hK4_
 refine C_block ?_
 have H5_ : Holds w (sl 58 2 (Value.slice none 0 0) (List.length (List.take 0 K)) ((List.take 0 K).flatMap RV.cells) :: ro R :: F) := Holds.add_nil H 58 2
 refine C_loop (γ := Nat × Value) (fun x__ a__ w1__ => match x__ with | ⟨k, v1⟩ => ∃ h : Env, a__ = mkA 20 (upd (upd (upd (upd h 0 v) 2 (Value.slice none 0 0)) 3 v1) 4 (Value.int .i64 (k : Int))) [] ∧ Holds w1__ (sl 58 2 v1 (List.length (List.take k K)) ((List.take k K).flatMap RV.cells) :: ro R :: F) ∧ Same w w1__ ∧ (k ≤ K.length)) (fun x__ => match x__ with | ⟨k, v1⟩ => K.length - k) (⟨0, (Value.slice none 0 0)⟩) ⟨_, congrArg (fun e => mkA 20 e []) (ch (ch (ch (ch rfl rfl) rfl) (rfl : (Value.slice none 0 0) = ((Value.slice none 0 0)))) (congrArg (Value.int .i64) ((by first | rfl | omega | (simp; done) | (simp; omega)) : 0 = (0 : Int)))), H5_, (Same.refl w), (by first | assumption | omega | exact rfl)⟩ ?_
 rintro ⟨k, v1⟩ _ w6_ ⟨h, rfl, H7_, S8_, hk⟩
 refine C_seq (fun K9_ hK9_ => ?_)
 refine C_seq (fun K10_ hK10_ => ?_)
 refine C_reg ?_
 refine S_list (T_val (v := (Value.int .i64 (k : Int))) (x_move rfl) ?_)
 refine S_list (T_val (v := v) (x_move rfl) ?_)
 refine S_list (T_val (v := (Value.int .i64 ((List.length K) : Int))) (x_lenRS rfl hK Try.underlying41) ?_)
 refine S_list (T_val (v := (Value.bool (decide ((k : Int) < ((List.length K) : Int))))) (x_bin rfl rfl rfl) ?_)
 refine wpList_nil ?_
 refine (X_then (hK10_ _ _ ?_))
 clear hK10_
 refine C_cond (b := decide ((k : Int) < ((List.length K) : Int))) rfl (fun c11_t => ?_) (fun c11_f => ?_)
 ·have c11_tp : (k : Int) < ((List.length K) : Int) := of_decide_eq_true c11_t
  refine C_skip (X_then (hK9_ _ _ ?_))
  clear hK9_
  refine C_seq (fun K12_ hK12_ => ?_)
  refine C_block ?_
  refine C_reg ?_
  refine S_list (T_val (v := v1) (x_move rfl) ?_)
  refine S_list (T_val (v := v) (x_move rfl) ?_)
  refine S_list (T_val (v := (Value.int .i64 (k : Int))) (x_move rfl) ?_)
  obtain ⟨x13_, hx14_, hm15_⟩ := elem_at K k (by omega)
  refine S_list (T_val (v := (Value.pointer (some ⟨(sb v), so v + (k * 2 + 0), none⟩))) (x_idxRS (v := v) rfl hK rfl Try.underlying41 z31 (by omega) (by omega) (by omega : _ = k) rfl) ?_)
  refine S_list (T_val (v := (Value.agg #[(Value.int .i64 x13_.main), (Value.int .i64 x13_.sub)])) (x_loadN (vs := [(Value.int .i64 x13_.main), (Value.int .i64 x13_.sub)]) rfl Try.underlying31 rfl z31 rfl (RC.cells (RS.rc hK) (Holds.ro_at H7_ 1 rfl) (k * 2 + 0) (fm_cells RV.len hx14_ (i := 0) rfl))) ?_)
  refine S_list (T_callW (al := [(Value.agg #[(Value.int .i64 x13_.main), (Value.int .i64 x13_.sub)])]) rfl rfl cb33 (Calls.into (n := 8) (al := [(Value.agg #[(Value.int .i64 x13_.main), (Value.int .i64 x13_.sub)])]) Try.func33 rfl Try.ntmps33 rfl rfl ?_))
  refine C_seq (fun K16_ hK16_ => ?_)
  refine C_reg ?_
  refine S_list (T_box (v := (Value.agg #[(Value.int .i64 x13_.main), (Value.int .i64 x13_.sub)])) rfl H7_ ?_)
  intro b17_ w18_ S20_ H19_
  have S21_ := Same.trans S8_ S20_
  refine S_list (T_alloc z58 H19_ ?_)
  intro b22_ w23_ S25_ H24_
  replace H24_ : Holds w23_ (cl b22_ 58 [(Value.int .i64 0), (Value.int .i64 0)] :: cl b17_ 31 [(Value.int .i64 x13_.main), (Value.int .i64 x13_.sub)] :: sl 58 2 v1 (List.length (List.take k K)) ((List.take k K).flatMap RV.cells) :: ro R :: F) := H24_
  have S26_ := Same.trans S21_ S25_
  refine wpList_nil ?_
  refine (X_then (hK16_ _ _ ?_))
  clear hK16_
  refine C_seq (fun K27_ hK27_ => ?_)
  refine C_reg ?_
  refine S_list (T_val (v := (Value.pointer (some ⟨b17_, 0, none⟩))) (by kernel_rfl) ?_)
  refine S_list (T_val (v := (Value.int .i64 x13_.main)) (x_load1 rfl Try.underlying2 rfl ((Holds.rd H24_ 1 rfl) 0 (Value.int .i64 x13_.main) rfl)) ?_)
  refine S_list (T_val (v := (Value.pointer (some ⟨b17_, 1, none⟩))) (by kernel_rfl) ?_)
  refine S_list (T_val (v := (Value.int .i64 x13_.sub)) (x_load1 rfl Try.underlying2 rfl ((Holds.rd H24_ 1 rfl) 1 (Value.int .i64 x13_.sub) rfl)) ?_)
  refine S_list (T_val (v := (Value.agg #[(Value.int .i64 x13_.main), (Value.int .i64 x13_.sub)])) (by kernel_rfl) ?_)
  refine S_list0 (T_storeN (vs := [(Value.int .i64 x13_.main), (Value.int .i64 x13_.sub)]) rfl rfl z58 rfl (by simp [Value.oneCell']) H24_ 0 rfl (Nat.le_of_ble_eq_true (by rfl)) ?_)
  intro w28_ S30_ H29_
  have S31_ := Same.trans S26_ S30_
  refine wpList_nil ?_
  refine (X_then (hK27_ _ _ ?_))
  clear hK27_
  refine C_ret ?_
  refine R_any (v := (Value.agg #[(Value.int .i64 x13_.main), (Value.int .i64 x13_.sub)])) (run_results1 rfl ⟨_, rfl, load_resN Try.underlying58 rfl z58 rfl (vs := [(Value.int .i64 x13_.main), (Value.int .i64 x13_.sub)]) (Holds.cl_cells H29_ 0 rfl 0 rfl)⟩) ⟨_, rfl, ?_⟩
  refine S_list (T_new (obj := .cells #[(Value.int .i64 x13_.main), (Value.int .i64 x13_.sub)] 58) (f := fun b__ => .slice (some ⟨b__, 0, none⟩) 1 1) (A := fun b__ => cl b__ 58 [(Value.int .i64 x13_.main), (Value.int .i64 x13_.sub)]) (by kernel_rfl) (fun l h => h.alloc _ _) H29_ ?_)
  intro b32_ w33_ S35_ H34_
  have S36_ := Same.trans S31_ S35_
  refine S_list (T_append rfl rfl Try.underlying80 z58 rfl (by decide) H34_ 3 rfl (Holds.cl_src H34_ 0 rfl Try.underlying80 (by simp [Value.oneCell']) rfl) (by rw [List.length_take]; omega) ?_)
  intro v37_ w38_ S40_ H39_
  replace H39_ : Holds w38_ (cl b32_ 58 [(Value.int .i64 x13_.main), (Value.int .i64 x13_.sub)] :: cl b22_ 58 [(Value.int .i64 x13_.main), (Value.int .i64 x13_.sub)] :: cl b17_ 31 [(Value.int .i64 x13_.main), (Value.int .i64 x13_.sub)] :: sl 58 2 v37_ ((List.length (List.take k K)) + 1) (((List.take k K).flatMap RV.cells) ++ [(Value.int .i64 x13_.main), (Value.int .i64 x13_.sub)]) :: ro R :: F) := H39_
  have S41_ := Same.trans S36_ S40_
  refine S_list (T_val (v := v37_) (x_assign rfl) ?_)
  refine wpList_nil ?_
  refine (X_blkN (X_then (hK12_ _ _ ?_)))
  clear hK12_
  refine C_reg ?_
  refine S_list (T_val (v := (Value.int .i64 (k : Int))) (x_move rfl) ?_)
  refine S_list (T_val (v := (Value.int .i64 ((k : Int) + 1))) (x_bin rfl rfl (ib_add (IntWalk.i64_in _ (by omega)))) ?_)
  refine S_list (T_val (v := (Value.int .i64 ((k : Int) + 1))) (x_assign rfl) ?_)
  refine wpList_nil ?_
  refine (X_then ?_)
  have H42_ := Holds.resl H39_ 3 rfl ((by rw [List.take_add_one, hx14_]; simp [RV.cells]) : ((List.take k K).flatMap RV.cells) ++ [(Value.int .i64 x13_.main), (Value.int .i64 x13_.sub)] = (List.take (k + 1) K).flatMap RV.cells) ((by rw [List.take_add_one, hx14_]; simp [RV.cells]) : (List.length (List.take k K)) + 1 = (List.length (List.take (k + 1) K)))
  have H43_ : Holds w38_ (sl 58 2 v37_ (List.length (List.take (k + 1) K)) ((List.take (k + 1) K).flatMap RV.cells) :: ro R :: F) := (Holds.pkF H42_ [3, 3] 3 :)
  exact ⟨⟨k + 1, v37_⟩, ⟨_, congrArg (fun e => mkA 20 e []) (ch (ch (ch (ch rfl rfl) rfl) rfl) (congrArg (Value.int .i64) ((by first | rfl | omega | (simp; done) | (simp; omega)) : (k : Int) + 1 = ((k + 1 : Nat) : Int)))), H43_, S41_, (by first | assumption | omega | exact rfl)⟩, by first | omega | (dsimp only; omega) | (simp; omega)⟩
 ·have c11_fp : ¬ ((k : Int) < ((List.length K) : Int)) := of_decide_eq_false c11_f
  refine C_exit (X_thenX (X_thenX (X_blkHit ?_)))
  refine (X_then (hK3_ _ _ ?_))
  clear hK3_
  refine C_seq (fun K44_ hK44_ => ?_)
  refine C_reg ?_
  refine S_list (T_val (v := v1) (x_move rfl) ?_)
  refine S_list (T_val (v := v1) (x_assign rfl) ?_)
  refine wpList_nil ?_
  refine (X_then (hK44_ _ _ ?_))
  clear hK44_
  refine C_ret ?_
  refine R_any (v := v1) (run_results1 rfl rfl) ?_
  have H45_ := Holds.resl H7_ 0 rfl ((by rw [List.take_of_length_le (by omega)]) : (List.take k K).flatMap RV.cells = K.flatMap RV.cells) ((by rw [List.take_of_length_le (by omega)]) : (List.length (List.take k K)) = (List.length K))
  have H46_ : Holds w6_ (ro R :: sl 58 2 v1 (List.length K) (K.flatMap RV.cells) :: F) := (Holds.pkF H45_ [1, 0] 0 :)
  exact ⟨_, _, rfl, ⟨v1, rfl, rfl⟩, S8_, H46_⟩

set_option maxHeartbeats 400000 in
theorem kDumpIn (R : HP) (m n : Int) (v : Value) (N : List GN) (h1 : RS R 4 v (List.length N) (N.flatMap GN.cells)) (hg1 : ∀ x ∈ N, GOk R x) (hb1 : N.length ≤ 100000) (hb2 : ∀ x ∈ N, x.l.length ≤ 100000) :
    TriG Try.prog 20 #[(Value.agg #[(Value.int .i64 m), (Value.int .i64 n), v])] R [] (fun R' v__ post__ => ∃ (v' : Value) (N' : List GN), v__ = (Value.agg #[(Value.int .i64 m), (Value.int .i64 n), v']) ∧ post__ = [] ∧ (N'.map GN.m = N.map GN.m) ∧ (RS R' 4 v' (List.length N') (N'.flatMap GN.cells)) ∧ (∀ x ∈ N', GOk R' x)) := by
 refine TriG.into (n := 43) (al := [(Value.agg #[(Value.int .i64 m), (Value.int .i64 n), v])]) Try.func20 rfl Try.ntmps20 rfl rfl fun w F H => ?_
 refine C_seq (fun K1_ hK1_ => ?_)
 refine C_reg ?_
 refine S_list (T_box (v := (Value.agg #[(Value.int .i64 m), (Value.int .i64 n), v])) rfl H ?_)
 intro b2_ w3_ S5_ H4_
 have S6_ := Same.trans (Same.refl w) S5_
 refine S_list (T_alloc z61 H4_ ?_)
 intro b7_ w8_ S10_ H9_
 replace H9_ : Holds w8_ (cl b7_ 61 [(Value.int .i64 0), (Value.int .i64 0), (Value.slice none 0 0)] :: cl b2_ 34 [(Value.int .i64 m), (Value.int .i64 n), v] :: ro R :: F) := H9_
 have S11_ := Same.trans S6_ S10_
 refine wpList_nil ?_
 refine (X_then (hK1_ _ _ ?_))
 clear hK1_
 refine C_seq (fun K12_ hK12_ => ?_)
 refine C_reg ?_
 refine S_list (T_val (v := (Value.pointer (some ⟨b2_, 0, none⟩))) (by kernel_rfl) ?_)
 refine S_list (T_val (v := (Value.agg #[(Value.int .i64 m), (Value.int .i64 n)])) (x_loadN (vs := [(Value.int .i64 m), (Value.int .i64 n)]) rfl Try.underlying31 rfl z31 rfl (Rd.cells (Holds.rd H9_ 1 rfl) 0 rfl)) ?_)
 refine S_list (T_callW (al := [(Value.agg #[(Value.int .i64 m), (Value.int .i64 n)])]) rfl rfl cb33 (Calls.into (n := 8) (al := [(Value.agg #[(Value.int .i64 m), (Value.int .i64 n)])]) Try.func33 rfl Try.ntmps33 rfl rfl ?_))
 refine C_seq (fun K13_ hK13_ => ?_)
 refine C_reg ?_
 refine S_list (T_box (v := (Value.agg #[(Value.int .i64 m), (Value.int .i64 n)])) rfl H9_ ?_)
 intro b14_ w15_ S17_ H16_
 have S18_ := Same.trans S11_ S17_
 refine S_list (T_alloc z58 H16_ ?_)
 intro b19_ w20_ S22_ H21_
 have S23_ := Same.trans S18_ S22_
 refine wpList_nil ?_
 refine (X_then (hK13_ _ _ ?_))
 clear hK13_
 refine C_seq (fun K24_ hK24_ => ?_)
 refine C_reg ?_
 refine S_list (T_val (v := (Value.pointer (some ⟨b14_, 0, none⟩))) (by kernel_rfl) ?_)
 refine S_list (T_val (v := (Value.int .i64 m)) (x_load1 rfl Try.underlying2 rfl ((Holds.rd H21_ 1 rfl) 0 (Value.int .i64 m) rfl)) ?_)
 refine S_list (T_val (v := (Value.pointer (some ⟨b14_, 1, none⟩))) (by kernel_rfl) ?_)
 refine S_list (T_val (v := (Value.int .i64 n)) (x_load1 rfl Try.underlying2 rfl ((Holds.rd H21_ 1 rfl) 1 (Value.int .i64 n) rfl)) ?_)
 refine S_list (T_val (v := (Value.agg #[(Value.int .i64 m), (Value.int .i64 n)])) (by kernel_rfl) ?_)
 refine S_list0 (T_storeN (vs := [(Value.int .i64 m), (Value.int .i64 n)]) rfl rfl z58 rfl (by simp [Value.oneCell']) H21_ 0 rfl (Nat.le_of_ble_eq_true (by rfl)) ?_)
 intro w25_ S27_ H26_
 replace H26_ : Holds w25_ (cl b19_ 58 [(Value.int .i64 m), (Value.int .i64 n)] :: cl b14_ 31 [(Value.int .i64 m), (Value.int .i64 n)] :: cl b7_ 61 [(Value.int .i64 0), (Value.int .i64 0), (Value.slice none 0 0)] :: cl b2_ 34 [(Value.int .i64 m), (Value.int .i64 n), v] :: ro R :: F) := H26_
 have S28_ := Same.trans S23_ S27_
 refine wpList_nil ?_
 refine (X_then (hK24_ _ _ ?_))
 clear hK24_
 refine C_ret ?_
 refine R_any (v := (Value.agg #[(Value.int .i64 m), (Value.int .i64 n)])) (run_results1 rfl ⟨_, rfl, load_resN Try.underlying58 rfl z58 rfl (vs := [(Value.int .i64 m), (Value.int .i64 n)]) (Holds.cl_cells H26_ 0 rfl 0 rfl)⟩) ⟨_, rfl, ?_⟩
 refine S_list (T_val (v := (Value.agg #[(Value.int .i64 m), (Value.int .i64 n), (Value.slice none 0 0)])) (by kernel_rfl) ?_)
 refine S_list (T_alloc z61 H26_ ?_)
 intro b29_ w30_ S32_ H31_
 have S33_ := Same.trans S28_ S32_
 refine S_list0 (T_storeN (vs := [(Value.int .i64 m), (Value.int .i64 n), (Value.slice none 0 0)]) rfl rfl z61 rfl (by simp [Value.oneCell']) H31_ 0 rfl (Nat.le_of_ble_eq_true (by rfl)) ?_)
 intro w34_ S36_ H35_
 have S37_ := Same.trans S33_ S36_
 refine wpList_nil ?_
 refine (X_then (hK12_ _ _ ?_))
 clear hK12_
 refine C_seq (fun K38_ hK38_ => ?_)
 refine C_seq (fun K39_ hK39_ => ?_)
 refine C_reg ?_
 refine S_list (T_val (v := (Value.int .i64 0)) (x_assign rfl) ?_)
 refine wpList_nil ?_
 refine (X_then (hK39_ _ _ ?_))
 clear hK39_
 refine C_block ?_
 have H40_ : Holds w34_ (sl 83 4 (Value.slice none 0 0) (List.length ([] : List GN)) (([] : List GN).flatMap GN.cells) :: cl b29_ 61 [(Value.int .i64 m), (Value.int .i64 n), (Value.slice none 0 0)] :: cl b19_ 58 [(Value.int .i64 m), (Value.int .i64 n)] :: cl b14_ 31 [(Value.int .i64 m), (Value.int .i64 n)] :: cl b7_ 61 [(Value.int .i64 0), (Value.int .i64 0), (Value.slice none 0 0)] :: cl b2_ 34 [(Value.int .i64 m), (Value.int .i64 n), v] :: ro R :: F) := Holds.add_nil H35_ 83 4
 have H41_ := Holds.recl H40_ 1 rfl ((lcons rfl (lcons rfl (lcons (rfl : (Value.slice none 0 0) = ((Value.slice none 0 0))) rfl))) : [(Value.int .i64 m), (Value.int .i64 n), (Value.slice none 0 0)] = [(Value.int .i64 m), (Value.int .i64 n), ((Value.slice none 0 0))])
 have H42_ : Holds w34_ (sl 83 4 (Value.slice none 0 0) (List.length ([] : List GN)) (([] : List GN).flatMap GN.cells) :: cl b29_ 61 [(Value.int .i64 m), (Value.int .i64 n), ((Value.slice none 0 0))] :: cl b7_ 61 [(Value.int .i64 0), (Value.int .i64 0), (Value.slice none 0 0)] :: cl b2_ 34 [(Value.int .i64 m), (Value.int .i64 n), v] :: ro R :: F) := (Holds.pkF H41_ [0, 0, 2, 2, 2] 2 :)
 refine C_loop (γ := HP × Nat × Value × (List GN)) (fun x__ a__ w1__ => match x__ with | ⟨R1, k, gv, N'⟩ => ∃ h : Env, a__ = mkA 43 (upd (upd (upd (upd h 1 (Value.pointer (some ⟨b2_, 0, none⟩))) 2 (Value.pointer (some ⟨b7_, 0, none⟩))) 3 (Value.pointer (some ⟨b29_, 0, none⟩))) 4 (Value.int .i64 (k : Int))) [] ∧ Holds w1__ (sl 83 4 gv (List.length N') (N'.flatMap GN.cells) :: cl b29_ 61 [(Value.int .i64 m), (Value.int .i64 n), gv] :: cl b7_ 61 [(Value.int .i64 0), (Value.int .i64 0), (Value.slice none 0 0)] :: cl b2_ 34 [(Value.int .i64 m), (Value.int .i64 n), v] :: ro R1 :: F) ∧ Same w w1__ ∧ (Sub R R1) ∧ (k ≤ N.length) ∧ (N'.map GN.m = (N.take k).map GN.m) ∧ (∀ x ∈ N', GOk R1 x)) (fun x__ => match x__ with | ⟨R1, k, gv, N'⟩ => N.length - k) (⟨R, 0, (Value.slice none 0 0), ([] : List GN)⟩) ⟨_, congrArg (fun e => mkA 43 e []) (ch (ch (ch (ch rfl rfl) rfl) rfl) (congrArg (Value.int .i64) ((by first | rfl | omega | (simp; done) | (simp; omega)) : 0 = (0 : Int)))), H42_, S37_, (Sub.rfl' _), (by first | assumption | omega | exact rfl), (rfl), (fun x hx => by cases hx)⟩ ?_
 rintro ⟨R1, k, gv, N'⟩ _ w43_ ⟨h, rfl, H44_, S45_, hsR1, hk, hm, hN⟩
 refine C_seq (fun K46_ hK46_ => ?_)
 refine C_seq (fun K47_ hK47_ => ?_)
 refine C_reg ?_
 refine S_list (T_val (v := (Value.int .i64 (k : Int))) (x_move rfl) ?_)
 refine S_list (T_val (v := (Value.pointer (some ⟨b2_, 2, none⟩))) (by kernel_rfl) ?_)
 refine S_list (T_val (v := v) (x_load1 rfl Try.underlying32 rfl ((Holds.rd H44_ 3 rfl) 2 v rfl)) ?_)
 refine S_list (T_val (v := (Value.int .i64 ((List.length N) : Int))) (x_lenRS rfl (RS.mono h1 hsR1) Try.underlying32) ?_)
 refine S_list (T_val (v := (Value.bool (decide ((k : Int) < ((List.length N) : Int))))) (x_bin rfl rfl rfl) ?_)
 refine wpList_nil ?_
 refine (X_then (hK47_ _ _ ?_))
 clear hK47_
 refine C_cond (b := decide ((k : Int) < ((List.length N) : Int))) rfl (fun c48_t => ?_) (fun c48_f => ?_)
 ·have c48_tp : (k : Int) < ((List.length N) : Int) := of_decide_eq_true c48_t
  refine C_skip (X_then (hK46_ _ _ ?_))
  clear hK46_
  refine C_seq (fun K49_ hK49_ => ?_)
  refine C_block ?_
  refine A_start (S := fun w => Rd b2_ [(Value.int .i64 m), (Value.int .i64 n), v] w ∧ Sub R1 (hp w)) (N := 27) foll rfl rfl ?_
  have H50_ := Holds.drew_ H44_
  have hq51_ := And.intro (Holds.rd H50_ 3 rfl) ((Holds.ro_at H50_ 4 rfl))
  refine A_tk 0 (v := (Value.pointer (some ⟨b29_, 2, none⟩))) rfl (by kernel_rfl) (fun w hS => by kernel_rfl) hq51_ ?_
  refine A_tk 2 (v := (Value.pointer (some ⟨b2_, 2, none⟩))) rfl (by kernel_rfl) (fun w hS => by kernel_rfl) hq51_ ?_
  refine A_tk 3 (v := v) rfl (by kernel_rfl) (fun w hS => x_load1 rfl Try.underlying32 rfl (hS.1 2 v rfl)) hq51_ ?_
  refine A_tk 4 (v := (Value.int .i64 (k : Int))) rfl (by kernel_rfl) (fun w hS => x_move rfl) hq51_ ?_
  obtain ⟨x52_, hx53_, hm54_⟩ := elem_at N k (by omega)
  have hp55_ := hg1 x52_ hm54_
  have hp56_ := hb2 x52_ hm54_
  have hg57_ := hg1 x52_ hm54_
  refine A_tk 5 (v := (Value.pointer (some ⟨(sb v), so v + (k * 4 + 0), none⟩))) rfl (by kernel_rfl) (fun w hS => x_idxRS (v := v) rfl (RS.mono h1 hsR1) rfl Try.underlying32 z68 (by omega) (by omega) (by omega : _ = k) rfl) hq51_ ?_
  refine A_tk 6 (v := (Value.pointer (some ⟨(sb v), so v + (k * 4 + 0), none⟩))) rfl (by kernel_rfl) (fun w hS => by kernel_rfl) hq51_ ?_
  refine A_tk 7 (v := (Value.int .i64 x52_.ver)) rfl (by kernel_rfl) (fun w hS => x_load1 rfl Try.underlying2 rfl (RC.cell (RS.rc (RS.mono h1 hsR1)) hS.2 (j := k * 4 + 0) (u := (Value.int .i64 x52_.ver)) (fm_cell GN.len hx53_ (i := 0) rfl))) hq51_ ?_
  refine A_tk 8 (v := (Value.pointer (some ⟨b2_, 2, none⟩))) rfl (by kernel_rfl) (fun w hS => by kernel_rfl) hq51_ ?_
  refine A_tk 9 (v := v) rfl (by kernel_rfl) (fun w hS => x_load1 rfl Try.underlying32 rfl (hS.1 2 v rfl)) hq51_ ?_
  refine A_tk 10 (v := (Value.int .i64 (k : Int))) rfl (by kernel_rfl) (fun w hS => x_move rfl) hq51_ ?_
  refine A_tk 11 (v := (Value.pointer (some ⟨(sb v), so v + (k * 4 + 0), none⟩))) rfl (by kernel_rfl) (fun w hS => x_idxRS (v := v) rfl (RS.mono h1 hsR1) rfl Try.underlying32 z68 (by omega) (by omega) (by omega : _ = k) rfl) hq51_ ?_
  refine A_tk 12 (v := (Value.pointer (some ⟨(sb v), so v + (k * 4 + 1), none⟩))) rfl (by kernel_rfl) (fun w hS => by kernel_rfl) hq51_ ?_
  refine A_tk 13 (v := (Value.agg #[(Value.int .i64 x52_.created_Main), (Value.int .i64 x52_.created_Sub)])) rfl (by kernel_rfl) (fun w hS => x_loadN (vs := [(Value.int .i64 x52_.created_Main), (Value.int .i64 x52_.created_Sub)]) rfl Try.underlying31 rfl z31 rfl (RC.cells (RS.rc (RS.mono h1 hsR1)) hS.2 (k * 4 + 1) (fm_cells GN.len hx53_ (i := 1) rfl))) hq51_ ?_
  refine A_tk 15 (v := (Value.pointer (some ⟨b2_, 2, none⟩))) rfl (by kernel_rfl) (fun w hS => by kernel_rfl) hq51_ ?_
  refine A_tk 16 (v := v) rfl (by kernel_rfl) (fun w hS => x_load1 rfl Try.underlying32 rfl (hS.1 2 v rfl)) hq51_ ?_
  refine A_tk 17 (v := (Value.int .i64 (k : Int))) rfl (by kernel_rfl) (fun w hS => x_move rfl) hq51_ ?_
  refine A_tk 18 (v := (Value.pointer (some ⟨(sb v), so v + (k * 4 + 0), none⟩))) rfl (by kernel_rfl) (fun w hS => x_idxRS (v := v) rfl (RS.mono h1 hsR1) rfl Try.underlying32 z68 (by omega) (by omega) (by omega : _ = k) rfl) hq51_ ?_
  refine A_tk 19 (v := (Value.pointer (some ⟨(sb v), so v + (k * 4 + 3), none⟩))) rfl (by kernel_rfl) (fun w hS => by kernel_rfl) hq51_ ?_
  refine A_tk 20 (v := x52_.revs) rfl (by kernel_rfl) (fun w hS => x_load1 rfl Try.underlying41 rfl (RC.cell (RS.rc (RS.mono h1 hsR1)) hS.2 (j := k * 4 + 3) (u := x52_.revs) (fm_cell GN.len hx53_ (i := 3) rfl))) hq51_ ?_
  refine A_ready (i := 1) (rs := [14]) (by kernel_rfl) ?_
  refine AllR.cons ?_ ?_
  ·skip
   refine A_op (ls' := #[true, true, true, true, true, true, true, true, true, true, true, true, true, true, false, true, true, true, true, true, true, false, false, false, false, false, false]) rfl (by kernel_rfl) (T_val (v := gv) (x_load1 rfl Try.underlying59 rfl ((Holds.rd H50_ 1 rfl) 2 gv rfl)) ?_)
   refine ⟨⟨Holds.rd H50_ 3 rfl, (Holds.ro_at H50_ 4 rfl)⟩, ?_⟩
   refine A_ready (i := 14) (rs := []) (by kernel_rfl) ?_
   refine AllR.cons ?_ AllR.nil
   refine A_op (ls' := #[true, true, true, true, true, true, true, true, true, true, true, true, true, true, true, true, true, true, true, true, true, false, false, false, false, false, false]) rfl (by kernel_rfl) (T_callW (al := [(Value.agg #[(Value.int .i64 x52_.created_Main), (Value.int .i64 x52_.created_Sub)])]) rfl rfl cb33 (Calls.into (n := 8) (al := [(Value.agg #[(Value.int .i64 x52_.created_Main), (Value.int .i64 x52_.created_Sub)])]) Try.func33 rfl Try.ntmps33 rfl rfl ?_))
   refine C_seq (fun K58_ hK58_ => ?_)
   refine C_reg ?_
   refine S_list (T_box (v := (Value.agg #[(Value.int .i64 x52_.created_Main), (Value.int .i64 x52_.created_Sub)])) rfl H50_ ?_)
   intro b59_ w60_ S62_ H61_
   have S63_ := Same.trans (Same.trans S45_ (Same.drew _)) S62_
   refine S_list (T_alloc z58 H61_ ?_)
   intro b64_ w65_ S67_ H66_
   replace H66_ : Holds w65_ (cl b64_ 58 [(Value.int .i64 0), (Value.int .i64 0)] :: cl b59_ 31 [(Value.int .i64 x52_.created_Main), (Value.int .i64 x52_.created_Sub)] :: sl 83 4 gv (List.length N') (N'.flatMap GN.cells) :: cl b29_ 61 [(Value.int .i64 m), (Value.int .i64 n), gv] :: cl b7_ 61 [(Value.int .i64 0), (Value.int .i64 0), (Value.slice none 0 0)] :: cl b2_ 34 [(Value.int .i64 m), (Value.int .i64 n), v] :: ro R1 :: F) := H66_
   have S68_ := Same.trans S63_ S67_
   refine wpList_nil ?_
   refine (X_then (hK58_ _ _ ?_))
   clear hK58_
   refine C_seq (fun K69_ hK69_ => ?_)
   refine C_reg ?_
   refine S_list (T_val (v := (Value.pointer (some ⟨b59_, 0, none⟩))) (by kernel_rfl) ?_)
   refine S_list (T_val (v := (Value.int .i64 x52_.created_Main)) (x_load1 rfl Try.underlying2 rfl ((Holds.rd H66_ 1 rfl) 0 (Value.int .i64 x52_.created_Main) rfl)) ?_)
   refine S_list (T_val (v := (Value.pointer (some ⟨b59_, 1, none⟩))) (by kernel_rfl) ?_)
   refine S_list (T_val (v := (Value.int .i64 x52_.created_Sub)) (x_load1 rfl Try.underlying2 rfl ((Holds.rd H66_ 1 rfl) 1 (Value.int .i64 x52_.created_Sub) rfl)) ?_)
   refine S_list (T_val (v := (Value.agg #[(Value.int .i64 x52_.created_Main), (Value.int .i64 x52_.created_Sub)])) (by kernel_rfl) ?_)
   refine S_list0 (T_storeN (vs := [(Value.int .i64 x52_.created_Main), (Value.int .i64 x52_.created_Sub)]) rfl rfl z58 rfl (by simp [Value.oneCell']) H66_ 0 rfl (Nat.le_of_ble_eq_true (by rfl)) ?_)
   intro w70_ S72_ H71_
   have S73_ := Same.trans S68_ S72_
   refine wpList_nil ?_
   refine (X_then (hK69_ _ _ ?_))
   clear hK69_
   refine C_ret ?_
   refine R_any (v := (Value.agg #[(Value.int .i64 x52_.created_Main), (Value.int .i64 x52_.created_Sub)])) (run_results1 rfl ⟨_, rfl, load_resN Try.underlying58 rfl z58 rfl (vs := [(Value.int .i64 x52_.created_Main), (Value.int .i64 x52_.created_Sub)]) (Holds.cl_cells H71_ 0 rfl 0 rfl)⟩) ⟨_, rfl, ?_⟩
   refine ⟨⟨Holds.rd H71_ 5 rfl, (Holds.ro_at H71_ 6 rfl)⟩, ?_⟩
   refine A_ready (i := 21) (rs := []) (by kernel_rfl) ?_
   refine AllR.cons ?_ AllR.nil
   have H75_ := ((Holds.bring H71_ 6 rfl) :)
   refine A_op (ls' := #[true, true, true, true, true, true, true, true, true, true, true, true, true, true, true, true, true, true, true, true, true, true, false, false, false, false, false]) rfl (by kernel_rfl) (T_call (al := [x52_.revs]) (pre := []) rfl rfl cb34 (kRevsIn R1 x52_.revs x52_.l (RS.mono hg57_ hsR1) (by first | assumption | omega)) H75_ ?_)
   rintro v74_ p79_ w76_ ⟨_, rfl, rfl⟩ S78_ H77_
   replace H77_ : Holds w76_ (ro R1 :: sl 58 2 v74_ (List.length x52_.l) (x52_.l.flatMap RV.cells) :: cl b64_ 58 [(Value.int .i64 x52_.created_Main), (Value.int .i64 x52_.created_Sub)] :: cl b59_ 31 [(Value.int .i64 x52_.created_Main), (Value.int .i64 x52_.created_Sub)] :: sl 83 4 gv (List.length N') (N'.flatMap GN.cells) :: cl b29_ 61 [(Value.int .i64 m), (Value.int .i64 n), gv] :: cl b7_ 61 [(Value.int .i64 0), (Value.int .i64 0), (Value.slice none 0 0)] :: cl b2_ 34 [(Value.int .i64 m), (Value.int .i64 n), v] :: F) := H77_
   have S80_ := Same.trans S73_ S78_
   obtain ⟨-, a81_, cp82_, rfl, hle83_⟩ := Holds.sl_len H77_ 1 rfl
   refine ⟨⟨Holds.rd H77_ 7 rfl, (Holds.ro_at H77_ 0 rfl)⟩, ?_⟩
   have hq84_ := And.intro (Holds.rd H77_ 7 rfl) ((Holds.ro_at H77_ 0 rfl))
   refine A_tk 22 (v := (Value.agg #[(Value.int .i64 x52_.ver), (Value.int .i64 x52_.created_Main), (Value.int .i64 x52_.created_Sub), (Value.slice a81_ (List.length x52_.l) cp82_)])) rfl (by kernel_rfl) (fun w hS => by kernel_rfl) hq84_ ?_
   refine A_ready (i := 23) (rs := []) (by kernel_rfl) ?_
   refine AllR.cons ?_ AllR.nil
   refine A_op (ls' := #[true, true, true, true, true, true, true, true, true, true, true, true, true, true, true, true, true, true, true, true, true, true, true, true, false, false, false]) rfl (by kernel_rfl) (T_new (obj := .cells #[(Value.int .i64 x52_.ver), (Value.int .i64 x52_.created_Main), (Value.int .i64 x52_.created_Sub), (Value.slice a81_ (List.length x52_.l) cp82_)] 83) (f := fun b__ => .slice (some ⟨b__, 0, none⟩) 1 1) (A := fun b__ => cl b__ 83 [(Value.int .i64 x52_.ver), (Value.int .i64 x52_.created_Main), (Value.int .i64 x52_.created_Sub), (Value.slice a81_ (List.length x52_.l) cp82_)]) (by kernel_rfl) (fun l h => h.alloc _ _) H77_ ?_)
   intro b85_ w86_ S88_ H87_
   have S89_ := Same.trans S80_ S88_
   refine ⟨⟨Holds.rd H87_ 8 rfl, (Holds.ro_at H87_ 1 rfl)⟩, ?_⟩
   refine A_ready (i := 24) (rs := []) (by kernel_rfl) ?_
   refine AllR.cons ?_ AllR.nil
   refine A_op (ls' := #[true, true, true, true, true, true, true, true, true, true, true, true, true, true, true, true, true, true, true, true, true, true, true, true, true, false, false]) rfl (by kernel_rfl) (T_append rfl rfl Try.underlying59 z83 rfl (by decide) H87_ 5 rfl (Holds.cl_src H87_ 0 rfl Try.underlying59 (by simp [Value.oneCell']) rfl) (by have hz_ := congrArg List.length hm; rw [List.length_map, List.length_map, List.length_take] at hz_; omega) ?_)
   intro v90_ w91_ S93_ H92_
   have S94_ := Same.trans S89_ S93_
   refine ⟨⟨Holds.rd H92_ 8 rfl, (Holds.ro_at H92_ 1 rfl)⟩, ?_⟩
   have hq95_ := And.intro (Holds.rd H92_ 8 rfl) ((Holds.ro_at H92_ 1 rfl))
   refine A_tk 25 (v := (Value.pointer (some ⟨b29_, 2, none⟩))) rfl (by kernel_rfl) (fun w hS => by kernel_rfl) hq95_ ?_
   refine A_ready (i := 26) (rs := []) (by kernel_rfl) ?_
   refine AllR.cons ?_ AllR.nil
   refine A_op0 (ls' := #[true, true, true, true, true, true, true, true, true, true, true, true, true, true, true, true, true, true, true, true, true, true, true, true, true, true, true]) rfl (by kernel_rfl) (T_store1 (v := v90_) rfl rfl z59 (Holds.sl_one H92_ 5 rfl) H92_ 6 rfl (Nat.le_of_ble_eq_true (by rfl)) ?_)
   intro w96_ S98_ H97_
   replace H97_ : Holds w96_ (cl b85_ 83 [(Value.int .i64 x52_.ver), (Value.int .i64 x52_.created_Main), (Value.int .i64 x52_.created_Sub), (Value.slice a81_ (List.length x52_.l) cp82_)] :: ro R1 :: sl 58 2 (Value.slice a81_ (List.length x52_.l) cp82_) (List.length x52_.l) (x52_.l.flatMap RV.cells) :: cl b64_ 58 [(Value.int .i64 x52_.created_Main), (Value.int .i64 x52_.created_Sub)] :: cl b59_ 31 [(Value.int .i64 x52_.created_Main), (Value.int .i64 x52_.created_Sub)] :: sl 83 4 v90_ ((List.length N') + 1) ((N'.flatMap GN.cells) ++ [(Value.int .i64 x52_.ver), (Value.int .i64 x52_.created_Main), (Value.int .i64 x52_.created_Sub), (Value.slice a81_ (List.length x52_.l) cp82_)]) :: cl b29_ 61 [(Value.int .i64 m), (Value.int .i64 n), v90_] :: cl b7_ 61 [(Value.int .i64 0), (Value.int .i64 0), (Value.slice none 0 0)] :: cl b2_ 34 [(Value.int .i64 m), (Value.int .i64 n), v] :: F) := H97_
   have S99_ := Same.trans S94_ S98_
   refine ⟨⟨Holds.rd H97_ 8 rfl, (Holds.ro_at H97_ 1 rfl)⟩, ?_⟩
   refine A_done (by kernel_rfl) ?_
   refine (X_blkN (X_then (hK49_ _ _ ?_)))
   clear hK49_
   refine C_reg ?_
   refine S_list (T_val (v := (Value.int .i64 (k : Int))) (x_move rfl) ?_)
   refine S_list (T_val (v := (Value.int .i64 ((k : Int) + 1))) (x_bin rfl rfl (ib_add (IntWalk.i64_in _ (by omega)))) ?_)
   refine S_list (T_val (v := (Value.int .i64 ((k : Int) + 1))) (x_assign rfl) ?_)
   refine wpList_nil ?_
   refine (X_then ?_)
   have H100_ := ((Holds.bring (Holds.bring H97_ 2 rfl) 2 rfl) :)
   obtain ⟨R101_, hs102_, ⟨R103_, ha104_, hs105_⟩, H106_⟩ := Holds.gift H100_
   have hz_R_R101_ := Sub.trans' hsR1 hs102_
   have hr107_ : RS R101_ 2 (Value.slice a81_ (List.length x52_.l) cp82_) (List.length x52_.l) (x52_.l.flatMap RV.cells) := (sl_RS ha104_ (Sub.rfl' _)).mono hs105_
   have H108_ := Holds.resl H106_ 4 rfl (by simp [GN.cells] : (N'.flatMap GN.cells) ++ [(Value.int .i64 x52_.ver), (Value.int .i64 x52_.created_Main), (Value.int .i64 x52_.created_Sub), (Value.slice a81_ (List.length x52_.l) cp82_)] = (N' ++ [(⟨x52_.ver, x52_.created_Main, x52_.created_Sub, (Value.slice a81_ (List.length x52_.l) cp82_), x52_.l⟩ : GN)]).flatMap GN.cells) (by simp : (List.length N') + 1 = (List.length (N' ++ [(⟨x52_.ver, x52_.created_Main, x52_.created_Sub, (Value.slice a81_ (List.length x52_.l) cp82_), x52_.l⟩ : GN)])))
   have H109_ : Holds w96_ (sl 83 4 v90_ (List.length (N' ++ [(⟨x52_.ver, x52_.created_Main, x52_.created_Sub, (Value.slice a81_ (List.length x52_.l) cp82_), x52_.l⟩ : GN)])) ((N' ++ [(⟨x52_.ver, x52_.created_Main, x52_.created_Sub, (Value.slice a81_ (List.length x52_.l) cp82_), x52_.l⟩ : GN)]).flatMap GN.cells) :: cl b29_ 61 [(Value.int .i64 m), (Value.int .i64 n), v90_] :: cl b7_ 61 [(Value.int .i64 0), (Value.int .i64 0), (Value.slice none 0 0)] :: cl b2_ 34 [(Value.int .i64 m), (Value.int .i64 n), v] :: ro R101_ :: F) := (Holds.pkF H108_ [4, 4, 4, 4, 0] 3 :)
   exact ⟨⟨R101_, k + 1, v90_, (N' ++ [(⟨x52_.ver, x52_.created_Main, x52_.created_Sub, (Value.slice a81_ (List.length x52_.l) cp82_), x52_.l⟩ : GN)])⟩, ⟨_, congrArg (fun e => mkA 43 e []) (ch (ch (ch (ch rfl rfl) rfl) rfl) (congrArg (Value.int .i64) ((by first | rfl | omega | (simp; done) | (simp; omega)) : (k : Int) + 1 = ((k + 1 : Nat) : Int)))), H109_, S99_, (hz_R_R101_), (by first | assumption | omega | exact rfl), (map_m_snoc hm hx53_ rfl), (all_snoc (fun x hx => (hN x hx).mono hs102_) (show RS _ 2 _ _ _ from hr107_))⟩, by first | omega | (dsimp only; omega) | (simp; omega)⟩
  refine AllR.cons ?_ AllR.nil
  refine A_op (ls' := #[true, false, true, true, true, true, true, true, true, true, true, true, true, true, true, true, true, true, true, true, true, false, false, false, false, false, false]) rfl (by kernel_rfl) (T_callW (al := [(Value.agg #[(Value.int .i64 x52_.created_Main), (Value.int .i64 x52_.created_Sub)])]) rfl rfl cb33 (Calls.into (n := 8) (al := [(Value.agg #[(Value.int .i64 x52_.created_Main), (Value.int .i64 x52_.created_Sub)])]) Try.func33 rfl Try.ntmps33 rfl rfl ?_))
  refine C_seq (fun K110_ hK110_ => ?_)
  refine C_reg ?_
  refine S_list (T_box (v := (Value.agg #[(Value.int .i64 x52_.created_Main), (Value.int .i64 x52_.created_Sub)])) rfl H50_ ?_)
  intro b111_ w112_ S114_ H113_
  have S115_ := Same.trans (Same.trans S45_ (Same.drew _)) S114_
  refine S_list (T_alloc z58 H113_ ?_)
  intro b116_ w117_ S119_ H118_
  have S120_ := Same.trans S115_ S119_
  refine wpList_nil ?_
  refine (X_then (hK110_ _ _ ?_))
  clear hK110_
  refine C_seq (fun K121_ hK121_ => ?_)
  refine C_reg ?_
  refine S_list (T_val (v := (Value.pointer (some ⟨b111_, 0, none⟩))) (by kernel_rfl) ?_)
  refine S_list (T_val (v := (Value.int .i64 x52_.created_Main)) (x_load1 rfl Try.underlying2 rfl ((Holds.rd H118_ 1 rfl) 0 (Value.int .i64 x52_.created_Main) rfl)) ?_)
  refine S_list (T_val (v := (Value.pointer (some ⟨b111_, 1, none⟩))) (by kernel_rfl) ?_)
  refine S_list (T_val (v := (Value.int .i64 x52_.created_Sub)) (x_load1 rfl Try.underlying2 rfl ((Holds.rd H118_ 1 rfl) 1 (Value.int .i64 x52_.created_Sub) rfl)) ?_)
  refine S_list (T_val (v := (Value.agg #[(Value.int .i64 x52_.created_Main), (Value.int .i64 x52_.created_Sub)])) (by kernel_rfl) ?_)
  refine S_list0 (T_storeN (vs := [(Value.int .i64 x52_.created_Main), (Value.int .i64 x52_.created_Sub)]) rfl rfl z58 rfl (by simp [Value.oneCell']) H118_ 0 rfl (Nat.le_of_ble_eq_true (by rfl)) ?_)
  intro w122_ S124_ H123_
  replace H123_ : Holds w122_ (cl b116_ 58 [(Value.int .i64 x52_.created_Main), (Value.int .i64 x52_.created_Sub)] :: cl b111_ 31 [(Value.int .i64 x52_.created_Main), (Value.int .i64 x52_.created_Sub)] :: sl 83 4 gv (List.length N') (N'.flatMap GN.cells) :: cl b29_ 61 [(Value.int .i64 m), (Value.int .i64 n), gv] :: cl b7_ 61 [(Value.int .i64 0), (Value.int .i64 0), (Value.slice none 0 0)] :: cl b2_ 34 [(Value.int .i64 m), (Value.int .i64 n), v] :: ro R1 :: F) := H123_
  have S125_ := Same.trans S120_ S124_
  refine wpList_nil ?_
  refine (X_then (hK121_ _ _ ?_))
  clear hK121_
  refine C_ret ?_
  refine R_any (v := (Value.agg #[(Value.int .i64 x52_.created_Main), (Value.int .i64 x52_.created_Sub)])) (run_results1 rfl ⟨_, rfl, load_resN Try.underlying58 rfl z58 rfl (vs := [(Value.int .i64 x52_.created_Main), (Value.int .i64 x52_.created_Sub)]) (Holds.cl_cells H123_ 0 rfl 0 rfl)⟩) ⟨_, rfl, ?_⟩
  refine ⟨⟨Holds.rd H123_ 5 rfl, (Holds.ro_at H123_ 6 rfl)⟩, ?_⟩
  refine A_ready (i := 1) (rs := [21]) (by kernel_rfl) ?_
  refine AllR.cons ?_ ?_
  ·skip
   refine A_op (ls' := #[true, true, true, true, true, true, true, true, true, true, true, true, true, true, true, true, true, true, true, true, true, false, false, false, false, false, false]) rfl (by kernel_rfl) (T_val (v := gv) (x_load1 rfl Try.underlying59 rfl ((Holds.rd H123_ 3 rfl) 2 gv rfl)) ?_)
   refine ⟨⟨Holds.rd H123_ 5 rfl, (Holds.ro_at H123_ 6 rfl)⟩, ?_⟩
   refine A_ready (i := 21) (rs := []) (by kernel_rfl) ?_
   refine AllR.cons ?_ AllR.nil
   have H127_ := ((Holds.bring H123_ 6 rfl) :)
   refine A_op (ls' := #[true, true, true, true, true, true, true, true, true, true, true, true, true, true, true, true, true, true, true, true, true, true, false, false, false, false, false]) rfl (by kernel_rfl) (T_call (al := [x52_.revs]) (pre := []) rfl rfl cb34 (kRevsIn R1 x52_.revs x52_.l (RS.mono hg57_ hsR1) (by first | assumption | omega)) H127_ ?_)
   rintro v126_ p131_ w128_ ⟨_, rfl, rfl⟩ S130_ H129_
   have S132_ := Same.trans S125_ S130_
   obtain ⟨-, a133_, cp134_, rfl, hle135_⟩ := Holds.sl_len H129_ 1 rfl
   refine ⟨⟨Holds.rd H129_ 7 rfl, (Holds.ro_at H129_ 0 rfl)⟩, ?_⟩
   have hq136_ := And.intro (Holds.rd H129_ 7 rfl) ((Holds.ro_at H129_ 0 rfl))
   refine A_tk 22 (v := (Value.agg #[(Value.int .i64 x52_.ver), (Value.int .i64 x52_.created_Main), (Value.int .i64 x52_.created_Sub), (Value.slice a133_ (List.length x52_.l) cp134_)])) rfl (by kernel_rfl) (fun w hS => by kernel_rfl) hq136_ ?_
   refine A_ready (i := 23) (rs := []) (by kernel_rfl) ?_
   refine AllR.cons ?_ AllR.nil
   refine A_op (ls' := #[true, true, true, true, true, true, true, true, true, true, true, true, true, true, true, true, true, true, true, true, true, true, true, true, false, false, false]) rfl (by kernel_rfl) (T_new (obj := .cells #[(Value.int .i64 x52_.ver), (Value.int .i64 x52_.created_Main), (Value.int .i64 x52_.created_Sub), (Value.slice a133_ (List.length x52_.l) cp134_)] 83) (f := fun b__ => .slice (some ⟨b__, 0, none⟩) 1 1) (A := fun b__ => cl b__ 83 [(Value.int .i64 x52_.ver), (Value.int .i64 x52_.created_Main), (Value.int .i64 x52_.created_Sub), (Value.slice a133_ (List.length x52_.l) cp134_)]) (by kernel_rfl) (fun l h => h.alloc _ _) H129_ ?_)
   intro b137_ w138_ S140_ H139_
   replace H139_ : Holds w138_ (cl b137_ 83 [(Value.int .i64 x52_.ver), (Value.int .i64 x52_.created_Main), (Value.int .i64 x52_.created_Sub), (Value.slice a133_ (List.length x52_.l) cp134_)] :: ro R1 :: sl 58 2 (Value.slice a133_ (List.length x52_.l) cp134_) (List.length x52_.l) (x52_.l.flatMap RV.cells) :: cl b116_ 58 [(Value.int .i64 x52_.created_Main), (Value.int .i64 x52_.created_Sub)] :: cl b111_ 31 [(Value.int .i64 x52_.created_Main), (Value.int .i64 x52_.created_Sub)] :: sl 83 4 gv (List.length N') (N'.flatMap GN.cells) :: cl b29_ 61 [(Value.int .i64 m), (Value.int .i64 n), gv] :: cl b7_ 61 [(Value.int .i64 0), (Value.int .i64 0), (Value.slice none 0 0)] :: cl b2_ 34 [(Value.int .i64 m), (Value.int .i64 n), v] :: F) := H139_
   have S141_ := Same.trans S132_ S140_
   refine ⟨⟨Holds.rd H139_ 8 rfl, (Holds.ro_at H139_ 1 rfl)⟩, ?_⟩
   refine A_ready (i := 24) (rs := []) (by kernel_rfl) ?_
   refine AllR.cons ?_ AllR.nil
   refine A_op (ls' := #[true, true, true, true, true, true, true, true, true, true, true, true, true, true, true, true, true, true, true, true, true, true, true, true, true, false, false]) rfl (by kernel_rfl) (T_append rfl rfl Try.underlying59 z83 rfl (by decide) H139_ 5 rfl (Holds.cl_src H139_ 0 rfl Try.underlying59 (by simp [Value.oneCell']) rfl) (by have hz_ := congrArg List.length hm; rw [List.length_map, List.length_map, List.length_take] at hz_; omega) ?_)
   intro v142_ w143_ S145_ H144_
   have S146_ := Same.trans S141_ S145_
   refine ⟨⟨Holds.rd H144_ 8 rfl, (Holds.ro_at H144_ 1 rfl)⟩, ?_⟩
   have hq147_ := And.intro (Holds.rd H144_ 8 rfl) ((Holds.ro_at H144_ 1 rfl))
   refine A_tk 25 (v := (Value.pointer (some ⟨b29_, 2, none⟩))) rfl (by kernel_rfl) (fun w hS => by kernel_rfl) hq147_ ?_
   refine A_ready (i := 26) (rs := []) (by kernel_rfl) ?_
   refine AllR.cons ?_ AllR.nil
   refine A_op0 (ls' := #[true, true, true, true, true, true, true, true, true, true, true, true, true, true, true, true, true, true, true, true, true, true, true, true, true, true, true]) rfl (by kernel_rfl) (T_store1 (v := v142_) rfl rfl z59 (Holds.sl_one H144_ 5 rfl) H144_ 6 rfl (Nat.le_of_ble_eq_true (by rfl)) ?_)
   intro w148_ S150_ H149_
   have S151_ := Same.trans S146_ S150_
   refine ⟨⟨Holds.rd H149_ 8 rfl, (Holds.ro_at H149_ 1 rfl)⟩, ?_⟩
   refine A_done (by kernel_rfl) ?_
   refine (X_blkN (X_then (hK49_ _ _ ?_)))
   clear hK49_
   refine C_reg ?_
   refine S_list (T_val (v := (Value.int .i64 (k : Int))) (x_move rfl) ?_)
   refine S_list (T_val (v := (Value.int .i64 ((k : Int) + 1))) (x_bin rfl rfl (ib_add (IntWalk.i64_in _ (by omega)))) ?_)
   refine S_list (T_val (v := (Value.int .i64 ((k : Int) + 1))) (x_assign rfl) ?_)
   refine wpList_nil ?_
   refine (X_then ?_)
   have H152_ := ((Holds.bring (Holds.bring H149_ 2 rfl) 2 rfl) :)
   replace H152_ : Holds w148_ (ro R1 :: sl 58 2 (Value.slice a133_ (List.length x52_.l) cp134_) (List.length x52_.l) (x52_.l.flatMap RV.cells) :: cl b137_ 83 [(Value.int .i64 x52_.ver), (Value.int .i64 x52_.created_Main), (Value.int .i64 x52_.created_Sub), (Value.slice a133_ (List.length x52_.l) cp134_)] :: cl b116_ 58 [(Value.int .i64 x52_.created_Main), (Value.int .i64 x52_.created_Sub)] :: cl b111_ 31 [(Value.int .i64 x52_.created_Main), (Value.int .i64 x52_.created_Sub)] :: sl 83 4 v142_ ((List.length N') + 1) ((N'.flatMap GN.cells) ++ [(Value.int .i64 x52_.ver), (Value.int .i64 x52_.created_Main), (Value.int .i64 x52_.created_Sub), (Value.slice a133_ (List.length x52_.l) cp134_)]) :: cl b29_ 61 [(Value.int .i64 m), (Value.int .i64 n), v142_] :: cl b7_ 61 [(Value.int .i64 0), (Value.int .i64 0), (Value.slice none 0 0)] :: cl b2_ 34 [(Value.int .i64 m), (Value.int .i64 n), v] :: F) := H152_
   obtain ⟨R153_, hs154_, ⟨R155_, ha156_, hs157_⟩, H158_⟩ := Holds.gift H152_
   have hz_R_R153_ := Sub.trans' hsR1 hs154_
   have hr159_ : RS R153_ 2 (Value.slice a133_ (List.length x52_.l) cp134_) (List.length x52_.l) (x52_.l.flatMap RV.cells) := (sl_RS ha156_ (Sub.rfl' _)).mono hs157_
   have H160_ := Holds.resl H158_ 4 rfl (by simp [GN.cells] : (N'.flatMap GN.cells) ++ [(Value.int .i64 x52_.ver), (Value.int .i64 x52_.created_Main), (Value.int .i64 x52_.created_Sub), (Value.slice a133_ (List.length x52_.l) cp134_)] = (N' ++ [(⟨x52_.ver, x52_.created_Main, x52_.created_Sub, (Value.slice a133_ (List.length x52_.l) cp134_), x52_.l⟩ : GN)]).flatMap GN.cells) (by simp : (List.length N') + 1 = (List.length (N' ++ [(⟨x52_.ver, x52_.created_Main, x52_.created_Sub, (Value.slice a133_ (List.length x52_.l) cp134_), x52_.l⟩ : GN)])))
   have H161_ : Holds w148_ (sl 83 4 v142_ (List.length (N' ++ [(⟨x52_.ver, x52_.created_Main, x52_.created_Sub, (Value.slice a133_ (List.length x52_.l) cp134_), x52_.l⟩ : GN)])) ((N' ++ [(⟨x52_.ver, x52_.created_Main, x52_.created_Sub, (Value.slice a133_ (List.length x52_.l) cp134_), x52_.l⟩ : GN)]).flatMap GN.cells) :: cl b29_ 61 [(Value.int .i64 m), (Value.int .i64 n), v142_] :: cl b7_ 61 [(Value.int .i64 0), (Value.int .i64 0), (Value.slice none 0 0)] :: cl b2_ 34 [(Value.int .i64 m), (Value.int .i64 n), v] :: ro R153_ :: F) := (Holds.pkF H160_ [4, 4, 4, 4, 0] 3 :)
   exact ⟨⟨R153_, k + 1, v142_, (N' ++ [(⟨x52_.ver, x52_.created_Main, x52_.created_Sub, (Value.slice a133_ (List.length x52_.l) cp134_), x52_.l⟩ : GN)])⟩, ⟨_, congrArg (fun e => mkA 43 e []) (ch (ch (ch (ch rfl rfl) rfl) rfl) (congrArg (Value.int .i64) ((by first | rfl | omega | (simp; done) | (simp; omega)) : (k : Int) + 1 = ((k + 1 : Nat) : Int)))), H161_, S151_, (hz_R_R153_), (by first | assumption | omega | exact rfl), (map_m_snoc hm hx53_ rfl), (all_snoc (fun x hx => (hN x hx).mono hs154_) (show RS _ 2 _ _ _ from hr159_))⟩, by first | omega | (dsimp only; omega) | (simp; omega)⟩
  refine AllR.cons ?_ AllR.nil
  have H163_ := ((Holds.bring H123_ 6 rfl) :)
  refine A_op (ls' := #[true, false, true, true, true, true, true, true, true, true, true, true, true, true, true, true, true, true, true, true, true, true, false, false, false, false, false]) rfl (by kernel_rfl) (T_call (al := [x52_.revs]) (pre := []) rfl rfl cb34 (kRevsIn R1 x52_.revs x52_.l (RS.mono hg57_ hsR1) (by first | assumption | omega)) H163_ ?_)
  rintro v162_ p167_ w164_ ⟨_, rfl, rfl⟩ S166_ H165_
  have S168_ := Same.trans S125_ S166_
  obtain ⟨-, a169_, cp170_, rfl, hle171_⟩ := Holds.sl_len H165_ 1 rfl
  refine ⟨⟨Holds.rd H165_ 7 rfl, (Holds.ro_at H165_ 0 rfl)⟩, ?_⟩
  have hq172_ := And.intro (Holds.rd H165_ 7 rfl) ((Holds.ro_at H165_ 0 rfl))
  refine A_tk 22 (v := (Value.agg #[(Value.int .i64 x52_.ver), (Value.int .i64 x52_.created_Main), (Value.int .i64 x52_.created_Sub), (Value.slice a169_ (List.length x52_.l) cp170_)])) rfl (by kernel_rfl) (fun w hS => by kernel_rfl) hq172_ ?_
  refine A_ready (i := 1) (rs := [23]) (by kernel_rfl) ?_
  refine AllR.cons ?_ ?_
  ·skip
   refine A_op (ls' := #[true, true, true, true, true, true, true, true, true, true, true, true, true, true, true, true, true, true, true, true, true, true, true, false, false, false, false]) rfl (by kernel_rfl) (T_val (v := gv) (x_load1 rfl Try.underlying59 rfl ((Holds.rd H165_ 5 rfl) 2 gv rfl)) ?_)
   refine ⟨⟨Holds.rd H165_ 7 rfl, (Holds.ro_at H165_ 0 rfl)⟩, ?_⟩
   refine A_ready (i := 23) (rs := []) (by kernel_rfl) ?_
   refine AllR.cons ?_ AllR.nil
   refine A_op (ls' := #[true, true, true, true, true, true, true, true, true, true, true, true, true, true, true, true, true, true, true, true, true, true, true, true, false, false, false]) rfl (by kernel_rfl) (T_new (obj := .cells #[(Value.int .i64 x52_.ver), (Value.int .i64 x52_.created_Main), (Value.int .i64 x52_.created_Sub), (Value.slice a169_ (List.length x52_.l) cp170_)] 83) (f := fun b__ => .slice (some ⟨b__, 0, none⟩) 1 1) (A := fun b__ => cl b__ 83 [(Value.int .i64 x52_.ver), (Value.int .i64 x52_.created_Main), (Value.int .i64 x52_.created_Sub), (Value.slice a169_ (List.length x52_.l) cp170_)]) (by kernel_rfl) (fun l h => h.alloc _ _) H165_ ?_)
   intro b173_ w174_ S176_ H175_
   replace H175_ : Holds w174_ (cl b173_ 83 [(Value.int .i64 x52_.ver), (Value.int .i64 x52_.created_Main), (Value.int .i64 x52_.created_Sub), (Value.slice a169_ (List.length x52_.l) cp170_)] :: ro R1 :: sl 58 2 (Value.slice a169_ (List.length x52_.l) cp170_) (List.length x52_.l) (x52_.l.flatMap RV.cells) :: cl b116_ 58 [(Value.int .i64 x52_.created_Main), (Value.int .i64 x52_.created_Sub)] :: cl b111_ 31 [(Value.int .i64 x52_.created_Main), (Value.int .i64 x52_.created_Sub)] :: sl 83 4 gv (List.length N') (N'.flatMap GN.cells) :: cl b29_ 61 [(Value.int .i64 m), (Value.int .i64 n), gv] :: cl b7_ 61 [(Value.int .i64 0), (Value.int .i64 0), (Value.slice none 0 0)] :: cl b2_ 34 [(Value.int .i64 m), (Value.int .i64 n), v] :: F) := H175_
   have S177_ := Same.trans S168_ S176_
   refine ⟨⟨Holds.rd H175_ 8 rfl, (Holds.ro_at H175_ 1 rfl)⟩, ?_⟩
   refine A_ready (i := 24) (rs := []) (by kernel_rfl) ?_
   refine AllR.cons ?_ AllR.nil
   refine A_op (ls' := #[true, true, true, true, true, true, true, true, true, true, true, true, true, true, true, true, true, true, true, true, true, true, true, true, true, false, false]) rfl (by kernel_rfl) (T_append rfl rfl Try.underlying59 z83 rfl (by decide) H175_ 5 rfl (Holds.cl_src H175_ 0 rfl Try.underlying59 (by simp [Value.oneCell']) rfl) (by have hz_ := congrArg List.length hm; rw [List.length_map, List.length_map, List.length_take] at hz_; omega) ?_)
   intro v178_ w179_ S181_ H180_
   have S182_ := Same.trans S177_ S181_
   refine ⟨⟨Holds.rd H180_ 8 rfl, (Holds.ro_at H180_ 1 rfl)⟩, ?_⟩
   have hq183_ := And.intro (Holds.rd H180_ 8 rfl) ((Holds.ro_at H180_ 1 rfl))
   refine A_tk 25 (v := (Value.pointer (some ⟨b29_, 2, none⟩))) rfl (by kernel_rfl) (fun w hS => by kernel_rfl) hq183_ ?_
   refine A_ready (i := 26) (rs := []) (by kernel_rfl) ?_
   refine AllR.cons ?_ AllR.nil
   refine A_op0 (ls' := #[true, true, true, true, true, true, true, true, true, true, true, true, true, true, true, true, true, true, true, true, true, true, true, true, true, true, true]) rfl (by kernel_rfl) (T_store1 (v := v178_) rfl rfl z59 (Holds.sl_one H180_ 5 rfl) H180_ 6 rfl (Nat.le_of_ble_eq_true (by rfl)) ?_)
   intro w184_ S186_ H185_
   have S187_ := Same.trans S182_ S186_
   refine ⟨⟨Holds.rd H185_ 8 rfl, (Holds.ro_at H185_ 1 rfl)⟩, ?_⟩
   refine A_done (by kernel_rfl) ?_
   refine (X_blkN (X_then (hK49_ _ _ ?_)))
   clear hK49_
   refine C_reg ?_
   refine S_list (T_val (v := (Value.int .i64 (k : Int))) (x_move rfl) ?_)
   refine S_list (T_val (v := (Value.int .i64 ((k : Int) + 1))) (x_bin rfl rfl (ib_add (IntWalk.i64_in _ (by omega)))) ?_)
   refine S_list (T_val (v := (Value.int .i64 ((k : Int) + 1))) (x_assign rfl) ?_)
   refine wpList_nil ?_
   refine (X_then ?_)
   have H188_ := ((Holds.bring (Holds.bring H185_ 2 rfl) 2 rfl) :)
   replace H188_ : Holds w184_ (ro R1 :: sl 58 2 (Value.slice a169_ (List.length x52_.l) cp170_) (List.length x52_.l) (x52_.l.flatMap RV.cells) :: cl b173_ 83 [(Value.int .i64 x52_.ver), (Value.int .i64 x52_.created_Main), (Value.int .i64 x52_.created_Sub), (Value.slice a169_ (List.length x52_.l) cp170_)] :: cl b116_ 58 [(Value.int .i64 x52_.created_Main), (Value.int .i64 x52_.created_Sub)] :: cl b111_ 31 [(Value.int .i64 x52_.created_Main), (Value.int .i64 x52_.created_Sub)] :: sl 83 4 v178_ ((List.length N') + 1) ((N'.flatMap GN.cells) ++ [(Value.int .i64 x52_.ver), (Value.int .i64 x52_.created_Main), (Value.int .i64 x52_.created_Sub), (Value.slice a169_ (List.length x52_.l) cp170_)]) :: cl b29_ 61 [(Value.int .i64 m), (Value.int .i64 n), v178_] :: cl b7_ 61 [(Value.int .i64 0), (Value.int .i64 0), (Value.slice none 0 0)] :: cl b2_ 34 [(Value.int .i64 m), (Value.int .i64 n), v] :: F) := H188_
   obtain ⟨R189_, hs190_, ⟨R191_, ha192_, hs193_⟩, H194_⟩ := Holds.gift H188_
   have hz_R_R189_ := Sub.trans' hsR1 hs190_
   have hr195_ : RS R189_ 2 (Value.slice a169_ (List.length x52_.l) cp170_) (List.length x52_.l) (x52_.l.flatMap RV.cells) := (sl_RS ha192_ (Sub.rfl' _)).mono hs193_
   have H196_ := Holds.resl H194_ 4 rfl (by simp [GN.cells] : (N'.flatMap GN.cells) ++ [(Value.int .i64 x52_.ver), (Value.int .i64 x52_.created_Main), (Value.int .i64 x52_.created_Sub), (Value.slice a169_ (List.length x52_.l) cp170_)] = (N' ++ [(⟨x52_.ver, x52_.created_Main, x52_.created_Sub, (Value.slice a169_ (List.length x52_.l) cp170_), x52_.l⟩ : GN)]).flatMap GN.cells) (by simp : (List.length N') + 1 = (List.length (N' ++ [(⟨x52_.ver, x52_.created_Main, x52_.created_Sub, (Value.slice a169_ (List.length x52_.l) cp170_), x52_.l⟩ : GN)])))
   have H197_ : Holds w184_ (sl 83 4 v178_ (List.length (N' ++ [(⟨x52_.ver, x52_.created_Main, x52_.created_Sub, (Value.slice a169_ (List.length x52_.l) cp170_), x52_.l⟩ : GN)])) ((N' ++ [(⟨x52_.ver, x52_.created_Main, x52_.created_Sub, (Value.slice a169_ (List.length x52_.l) cp170_), x52_.l⟩ : GN)]).flatMap GN.cells) :: cl b29_ 61 [(Value.int .i64 m), (Value.int .i64 n), v178_] :: cl b7_ 61 [(Value.int .i64 0), (Value.int .i64 0), (Value.slice none 0 0)] :: cl b2_ 34 [(Value.int .i64 m), (Value.int .i64 n), v] :: ro R189_ :: F) := (Holds.pkF H196_ [4, 4, 4, 4, 0] 3 :)
   exact ⟨⟨R189_, k + 1, v178_, (N' ++ [(⟨x52_.ver, x52_.created_Main, x52_.created_Sub, (Value.slice a169_ (List.length x52_.l) cp170_), x52_.l⟩ : GN)])⟩, ⟨_, congrArg (fun e => mkA 43 e []) (ch (ch (ch (ch rfl rfl) rfl) rfl) (congrArg (Value.int .i64) ((by first | rfl | omega | (simp; done) | (simp; omega)) : (k : Int) + 1 = ((k + 1 : Nat) : Int)))), H197_, S187_, (hz_R_R189_), (by first | assumption | omega | exact rfl), (map_m_snoc hm hx53_ rfl), (all_snoc (fun x hx => (hN x hx).mono hs190_) (show RS _ 2 _ _ _ from hr195_))⟩, by first | omega | (dsimp only; omega) | (simp; omega)⟩
  refine AllR.cons ?_ AllR.nil
  refine A_op (ls' := #[true, false, true, true, true, true, true, true, true, true, true, true, true, true, true, true, true, true, true, true, true, true, true, true, false, false, false]) rfl (by kernel_rfl) (T_new (obj := .cells #[(Value.int .i64 x52_.ver), (Value.int .i64 x52_.created_Main), (Value.int .i64 x52_.created_Sub), (Value.slice a169_ (List.length x52_.l) cp170_)] 83) (f := fun b__ => .slice (some ⟨b__, 0, none⟩) 1 1) (A := fun b__ => cl b__ 83 [(Value.int .i64 x52_.ver), (Value.int .i64 x52_.created_Main), (Value.int .i64 x52_.created_Sub), (Value.slice a169_ (List.length x52_.l) cp170_)]) (by kernel_rfl) (fun l h => h.alloc _ _) H165_ ?_)
  intro b198_ w199_ S201_ H200_
  have S202_ := Same.trans S168_ S201_
  refine ⟨⟨Holds.rd H200_ 8 rfl, (Holds.ro_at H200_ 1 rfl)⟩, ?_⟩
  refine A_ready (i := 1) (rs := []) (by kernel_rfl) ?_
  refine AllR.cons ?_ AllR.nil
  refine A_op (ls' := #[true, true, true, true, true, true, true, true, true, true, true, true, true, true, true, true, true, true, true, true, true, true, true, true, false, false, false]) rfl (by kernel_rfl) (T_val (v := gv) (x_load1 rfl Try.underlying59 rfl ((Holds.rd H200_ 6 rfl) 2 gv rfl)) ?_)
  refine ⟨⟨Holds.rd H200_ 8 rfl, (Holds.ro_at H200_ 1 rfl)⟩, ?_⟩
  refine A_ready (i := 24) (rs := []) (by kernel_rfl) ?_
  refine AllR.cons ?_ AllR.nil
  refine A_op (ls' := #[true, true, true, true, true, true, true, true, true, true, true, true, true, true, true, true, true, true, true, true, true, true, true, true, true, false, false]) rfl (by kernel_rfl) (T_append rfl rfl Try.underlying59 z83 rfl (by decide) H200_ 5 rfl (Holds.cl_src H200_ 0 rfl Try.underlying59 (by simp [Value.oneCell']) rfl) (by have hz_ := congrArg List.length hm; rw [List.length_map, List.length_map, List.length_take] at hz_; omega) ?_)
  intro v203_ w204_ S206_ H205_
  have S207_ := Same.trans S202_ S206_
  refine ⟨⟨Holds.rd H205_ 8 rfl, (Holds.ro_at H205_ 1 rfl)⟩, ?_⟩
  have hq208_ := And.intro (Holds.rd H205_ 8 rfl) ((Holds.ro_at H205_ 1 rfl))
  refine A_tk 25 (v := (Value.pointer (some ⟨b29_, 2, none⟩))) rfl (by kernel_rfl) (fun w hS => by kernel_rfl) hq208_ ?_
  refine A_ready (i := 26) (rs := []) (by kernel_rfl) ?_
  refine AllR.cons ?_ AllR.nil
  refine A_op0 (ls' := #[true, true, true, true, true, true, true, true, true, true, true, true, true, true, true, true, true, true, true, true, true, true, true, true, true, true, true]) rfl (by kernel_rfl) (T_store1 (v := v203_) rfl rfl z59 (Holds.sl_one H205_ 5 rfl) H205_ 6 rfl (Nat.le_of_ble_eq_true (by rfl)) ?_)
  intro w209_ S211_ H210_
  replace H210_ : Holds w209_ (cl b198_ 83 [(Value.int .i64 x52_.ver), (Value.int .i64 x52_.created_Main), (Value.int .i64 x52_.created_Sub), (Value.slice a169_ (List.length x52_.l) cp170_)] :: ro R1 :: sl 58 2 (Value.slice a169_ (List.length x52_.l) cp170_) (List.length x52_.l) (x52_.l.flatMap RV.cells) :: cl b116_ 58 [(Value.int .i64 x52_.created_Main), (Value.int .i64 x52_.created_Sub)] :: cl b111_ 31 [(Value.int .i64 x52_.created_Main), (Value.int .i64 x52_.created_Sub)] :: sl 83 4 v203_ ((List.length N') + 1) ((N'.flatMap GN.cells) ++ [(Value.int .i64 x52_.ver), (Value.int .i64 x52_.created_Main), (Value.int .i64 x52_.created_Sub), (Value.slice a169_ (List.length x52_.l) cp170_)]) :: cl b29_ 61 [(Value.int .i64 m), (Value.int .i64 n), v203_] :: cl b7_ 61 [(Value.int .i64 0), (Value.int .i64 0), (Value.slice none 0 0)] :: cl b2_ 34 [(Value.int .i64 m), (Value.int .i64 n), v] :: F) := H210_
  have S212_ := Same.trans S207_ S211_
  refine ⟨⟨Holds.rd H210_ 8 rfl, (Holds.ro_at H210_ 1 rfl)⟩, ?_⟩
  refine A_done (by kernel_rfl) ?_
  refine (X_blkN (X_then (hK49_ _ _ ?_)))
  clear hK49_
  refine C_reg ?_
  refine S_list (T_val (v := (Value.int .i64 (k : Int))) (x_move rfl) ?_)
  refine S_list (T_val (v := (Value.int .i64 ((k : Int) + 1))) (x_bin rfl rfl (ib_add (IntWalk.i64_in _ (by omega)))) ?_)
  refine S_list (T_val (v := (Value.int .i64 ((k : Int) + 1))) (x_assign rfl) ?_)
  refine wpList_nil ?_
  refine (X_then ?_)
  have H213_ := ((Holds.bring (Holds.bring H210_ 2 rfl) 2 rfl) :)
  obtain ⟨R214_, hs215_, ⟨R216_, ha217_, hs218_⟩, H219_⟩ := Holds.gift H213_
  have hz_R_R214_ := Sub.trans' hsR1 hs215_
  have hr220_ : RS R214_ 2 (Value.slice a169_ (List.length x52_.l) cp170_) (List.length x52_.l) (x52_.l.flatMap RV.cells) := (sl_RS ha217_ (Sub.rfl' _)).mono hs218_
  have H221_ := Holds.resl H219_ 4 rfl (by simp [GN.cells] : (N'.flatMap GN.cells) ++ [(Value.int .i64 x52_.ver), (Value.int .i64 x52_.created_Main), (Value.int .i64 x52_.created_Sub), (Value.slice a169_ (List.length x52_.l) cp170_)] = (N' ++ [(⟨x52_.ver, x52_.created_Main, x52_.created_Sub, (Value.slice a169_ (List.length x52_.l) cp170_), x52_.l⟩ : GN)]).flatMap GN.cells) (by simp : (List.length N') + 1 = (List.length (N' ++ [(⟨x52_.ver, x52_.created_Main, x52_.created_Sub, (Value.slice a169_ (List.length x52_.l) cp170_), x52_.l⟩ : GN)])))
  have H222_ : Holds w209_ (sl 83 4 v203_ (List.length (N' ++ [(⟨x52_.ver, x52_.created_Main, x52_.created_Sub, (Value.slice a169_ (List.length x52_.l) cp170_), x52_.l⟩ : GN)])) ((N' ++ [(⟨x52_.ver, x52_.created_Main, x52_.created_Sub, (Value.slice a169_ (List.length x52_.l) cp170_), x52_.l⟩ : GN)]).flatMap GN.cells) :: cl b29_ 61 [(Value.int .i64 m), (Value.int .i64 n), v203_] :: cl b7_ 61 [(Value.int .i64 0), (Value.int .i64 0), (Value.slice none 0 0)] :: cl b2_ 34 [(Value.int .i64 m), (Value.int .i64 n), v] :: ro R214_ :: F) := (Holds.pkF H221_ [4, 4, 4, 4, 0] 3 :)
  exact ⟨⟨R214_, k + 1, v203_, (N' ++ [(⟨x52_.ver, x52_.created_Main, x52_.created_Sub, (Value.slice a169_ (List.length x52_.l) cp170_), x52_.l⟩ : GN)])⟩, ⟨_, congrArg (fun e => mkA 43 e []) (ch (ch (ch (ch rfl rfl) rfl) rfl) (congrArg (Value.int .i64) ((by first | rfl | omega | (simp; done) | (simp; omega)) : (k : Int) + 1 = ((k + 1 : Nat) : Int)))), H222_, S212_, (hz_R_R214_), (by first | assumption | omega | exact rfl), (map_m_snoc hm hx53_ rfl), (all_snoc (fun x hx => (hN x hx).mono hs215_) (show RS _ 2 _ _ _ from hr220_))⟩, by first | omega | (dsimp only; omega) | (simp; omega)⟩
 ·have c48_fp : ¬ ((k : Int) < ((List.length N) : Int)) := of_decide_eq_false c48_f
  refine C_exit (X_thenX (X_thenX (X_blkHit ?_)))
  refine (X_then (hK38_ _ _ ?_))
  clear hK38_
  refine C_seq (fun K223_ hK223_ => ?_)
  refine C_reg ?_
  refine S_list (T_val (v := (Value.agg #[(Value.int .i64 m), (Value.int .i64 n), gv])) (x_loadN (vs := [(Value.int .i64 m), (Value.int .i64 n), gv]) rfl Try.underlying61 rfl z61 rfl (Rd.cells (Holds.rd H44_ 1 rfl) 0 rfl)) ?_)
  refine S_list0 (T_storeN (vs := [(Value.int .i64 m), (Value.int .i64 n), gv]) rfl rfl z61 rfl (List.forall_mem_cons.2 ⟨rfl, (List.forall_mem_cons.2 ⟨rfl, (List.forall_mem_cons.2 ⟨(Holds.sl_one H44_ 0 rfl), (fun _ h__ => by cases h__)⟩)⟩)⟩) H44_ 2 rfl (Nat.le_of_ble_eq_true (by rfl)) ?_)
  intro w224_ S226_ H225_
  have S227_ := Same.trans S45_ S226_
  refine wpList_nil ?_
  refine (X_then (hK223_ _ _ ?_))
  clear hK223_
  refine C_ret ?_
  refine R_any (v := (Value.agg #[(Value.int .i64 m), (Value.int .i64 n), gv])) (run_results1 rfl ⟨_, rfl, load_resN Try.underlying61 rfl z61 rfl (vs := [(Value.int .i64 m), (Value.int .i64 n), gv]) (Holds.cl_cells H225_ 2 rfl 0 rfl)⟩) ?_
  have H228_ := ((Holds.bring H225_ 4 rfl) :)
  obtain ⟨R229_, hs230_, ⟨R231_, ha232_, hs233_⟩, H234_⟩ := Holds.gift H228_
  replace H234_ : Holds w224_ (ro R229_ :: cl b29_ 61 [(Value.int .i64 m), (Value.int .i64 n), gv] :: cl b7_ 61 [(Value.int .i64 m), (Value.int .i64 n), gv] :: cl b2_ 34 [(Value.int .i64 m), (Value.int .i64 n), v] :: F) := H234_
  have hz_R_R229_ := Sub.trans' hsR1 hs230_
  have hr235_ : RS R229_ 4 gv (List.length N') (N'.flatMap GN.cells) := (sl_RS ha232_ (Sub.rfl' _)).mono hs233_
  rw [List.take_of_length_le (by omega)] at hm
  have H236_ : Holds w224_ (ro R229_ :: F) := (Holds.pkF H234_ [0] 3 :)
  exact ⟨R229_, _, _, rfl, hz_R_R229_, ⟨gv, N', rfl, rfl, (hm), (hr235_), (fun x hx => (hN x hx).mono hs230_)⟩, S227_, H236_⟩
end Go.Proofs.Ytiblemgccgbhoaa
