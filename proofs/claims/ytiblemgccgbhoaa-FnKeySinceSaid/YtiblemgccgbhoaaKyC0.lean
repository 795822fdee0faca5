/- A put, and an end, behind some changes. -/
import Derived.Test.YtiblemgccgbhoaaKyB0
set_option linter.unusedVariables false
set_option linter.unusedSimpArgs false
namespace Go.Proofs.Ytiblemgccgbhoaa
open Go Go.RowKit Gw

theorem ones_VR (L : List VR) : ∀ u ∈ L.flatMap VR.cells, u.oneCell' = true := by
  intro u hu
  obtain ⟨x, hx, h⟩ := List.mem_flatMap.1 hu
  simp only [VR.cells, List.mem_cons, List.not_mem_nil, or_false] at h
  rcases h with rfl | rfl | rfl | rfl | rfl | rfl <;> rfl
theorem ones_RV (L : List RV) : ∀ u ∈ L.flatMap RV.cells, u.oneCell' = true := by
  intro u hu
  obtain ⟨x, hx, h⟩ := List.mem_flatMap.1 hu
  simp only [RV.cells, List.mem_cons, List.not_mem_nil, or_false] at h
  rcases h with rfl | rfl <;> rfl

set_option maxHeartbeats 400000 in
theorem kWritten (R : HP) (v : Value) (L : List VR) (m s : Int) (hL : RS R 6 v (List.length L) (L.flatMap VR.cells)) (hl : L.length ≤ 10000) (hv : ∀ x ∈ L, 0 ≤ x.ver ∧ x.ver ≤ 10000) :
    Tri Try.prog 27 #[v, (Value.agg #[(Value.int .i64 m), (Value.int .i64 s)])] R [] (fun v__ post__ => ∃ (v' : Value), v__ = v' ∧ post__ = [sl 66 6 v' (List.length (L ++ [vPut L m s])) ((L ++ [vPut L m s]).flatMap VR.cells)]) := by
 refine Tri.into (n := 34) (al := [v, (Value.agg #[(Value.int .i64 m), (Value.int .i64 s)])]) Try.func27 rfl Try.ntmps27 rfl rfl fun w F H => ?_
 refine C_seq (fun K1_ hK1_ => ?_)
 refine C_reg ?_
 refine S_list (T_box (v := (Value.agg #[(Value.int .i64 m), (Value.int .i64 s)])) rfl H ?_)
 intro b2_ w3_ S5_ H4_
 have S6_ := Same.trans (Same.refl w) S5_
 refine S_list (T_val (v := (Value.slice none 0 0)) (x_assign rfl) ?_)
 refine wpList_nil ?_
 refine (X_then (hK1_ _ _ ?_))
 clear hK1_
 refine C_seq (fun K7_ hK7_ => ?_)
 refine C_reg ?_
 refine S_list (T_val (v := (Value.agg #[(Value.int .i64 m), (Value.int .i64 s)])) (x_loadN (vs := [(Value.int .i64 m), (Value.int .i64 s)]) rfl Try.underlying31 rfl z31 rfl (Rd.cells (Holds.rd H4_ 0 rfl) 0 rfl)) ?_)
 refine S_list (T_val (v := (Value.agg #[(Value.int .i64 m), (Value.int .i64 s)])) (x_loadN (vs := [(Value.int .i64 m), (Value.int .i64 s)]) rfl Try.underlying31 rfl z31 rfl (Rd.cells (Holds.rd H4_ 0 rfl) 0 rfl)) ?_)
 refine S_list (T_val (v := (Value.agg #[(Value.int .i64 m), (Value.int .i64 s), (Value.int .i64 m), (Value.int .i64 s), (Value.int .i64 1), (Value.bool false)])) (by kernel_rfl) ?_)
 refine S_list (T_alloc z66 H4_ ?_)
 intro b8_ w9_ S11_ H10_
 replace H10_ : Holds w9_ (cl b8_ 66 [(Value.int .i64 0), (Value.int .i64 0), (Value.int .i64 0), (Value.int .i64 0), (Value.int .i64 0), (Value.bool false)] :: cl b2_ 31 [(Value.int .i64 m), (Value.int .i64 s)] :: ro R :: F) := H10_
 have S12_ := Same.trans S6_ S11_
 refine S_list0 (T_storeN (vs := [(Value.int .i64 m), (Value.int .i64 s), (Value.int .i64 m), (Value.int .i64 s), (Value.int .i64 1), (Value.bool false)]) rfl rfl z66 rfl (by simp [Value.oneCell']) H10_ 0 rfl (Nat.le_of_ble_eq_true (by rfl)) ?_)
 intro w13_ S15_ H14_
 have S16_ := Same.trans S12_ S15_
 refine wpList_nil ?_
 refine (X_then (hK7_ _ _ ?_))
 clear hK7_
 refine C_seq (fun K17_ hK17_ => ?_)
 refine C_seq (fun K18_ hK18_ => ?_)
 refine C_reg ?_
 refine S_list (T_val (v := v) (x_move rfl) ?_)
 have H20_ := ((Holds.bring H14_ 2 rfl) :)
 refine S_list (T_call (al := [v]) (pre := []) rfl rfl cb16 (kLives R v L (RS.set_ hL (by first | rfl | (simp_all [VR.cells, vPut, vEnd, VR.rv, RV.cells]; done) | (simp [VR.cells, vPut, vEnd, VR.rv, RV.cells]; done) | (simp; omega) | omega) (by first | rfl | (simp_all [VR.cells, vPut, vEnd, VR.rv, RV.cells]; done) | (simp [VR.cells, vPut, vEnd, VR.rv, RV.cells]; done) | (simp; omega) | omega)) (by first | assumption | omega)) H20_ ?_)
 rintro v19_ p24_ w21_ ⟨rfl, rfl⟩ S23_ H22_
 replace H22_ : Holds w21_ (ro R :: cl b8_ 66 [(Value.int .i64 m), (Value.int .i64 s), (Value.int .i64 m), (Value.int .i64 s), (Value.int .i64 1), (Value.bool false)] :: cl b2_ 31 [(Value.int .i64 m), (Value.int .i64 s)] :: F) := H22_
 have S25_ := Same.trans S16_ S23_
 refine wpList_nil ?_
 refine (X_then (hK18_ _ _ ?_))
 clear hK18_
 refine C_cond (b := !(vLast L).gone) rfl (fun c26_t => ?_) (fun c26_f => ?_)
 ·skip
  have h0_ := vLast_pos c26_t
  refine A_start (S := fun w => Sub R (hp w)) (N := 19) foll rfl rfl ?_
  have H27_ := Holds.drew_ H22_
  have hq28_ := ((Holds.ro_at H27_ 0 rfl))
  refine A_tk 0 (v := v) rfl (by kernel_rfl) (fun w hS => x_move rfl) hq28_ ?_
  refine A_tk 1 (v := v) rfl (by kernel_rfl) (fun w hS => x_move rfl) hq28_ ?_
  refine A_tk 2 (v := (Value.int .i64 ((List.length L) : Int))) rfl (by kernel_rfl) (fun w hS => x_lenRS rfl hL Try.underlying23) hq28_ ?_
  refine A_tk 3 (v := (Value.int .i64 (((List.length L) : Int) - 1))) rfl (by kernel_rfl) (fun w hS => x_bin rfl rfl (ib_sub (IntWalk.i64_in _ (by omega)))) hq28_ ?_
  obtain ⟨x29_, hx30_, hm31_⟩ := elem_at L ((((List.length L) : Int) - 1).toNat) (by omega)
  have hp32_ := hv x29_ hm31_
  have hvl_ := vLast_at hx30_ (by omega)
  refine A_tk 4 (v := (Value.pointer (some ⟨(sb v), so v + (((((List.length L) : Int) - 1).toNat) * 6 + 0), none⟩))) rfl (by kernel_rfl) (fun w hS => x_idxRS (v := v) rfl hL rfl Try.underlying23 z66 (by omega) (by omega) (by omega : _ = (((List.length L) : Int) - 1).toNat) rfl) hq28_ ?_
  refine A_tk 5 (v := (Value.pointer (some ⟨(sb v), so v + (((((List.length L) : Int) - 1).toNat) * 6 + 2), none⟩))) rfl (by kernel_rfl) (fun w hS => by kernel_rfl) hq28_ ?_
  refine A_tk 6 (v := (Value.agg #[(Value.int .i64 x29_.created_Main), (Value.int .i64 x29_.created_Sub)])) rfl (by kernel_rfl) (fun w hS => x_loadN (vs := [(Value.int .i64 x29_.created_Main), (Value.int .i64 x29_.created_Sub)]) rfl Try.underlying31 rfl z31 rfl (RC.cells (RS.rc hL) hS (((((List.length L) : Int) - 1).toNat) * 6 + 2) (fm_cells VR.len hx30_ (i := 2) rfl))) hq28_ ?_
  refine A_tk 7 (v := v) rfl (by kernel_rfl) (fun w hS => x_move rfl) hq28_ ?_
  refine A_tk 8 (v := v) rfl (by kernel_rfl) (fun w hS => x_move rfl) hq28_ ?_
  refine A_tk 9 (v := (Value.int .i64 ((List.length L) : Int))) rfl (by kernel_rfl) (fun w hS => x_lenRS rfl hL Try.underlying23) hq28_ ?_
  refine A_tk 10 (v := (Value.int .i64 (((List.length L) : Int) - 1))) rfl (by kernel_rfl) (fun w hS => x_bin rfl rfl (ib_sub (IntWalk.i64_in _ (by omega)))) hq28_ ?_
  refine A_tk 11 (v := (Value.pointer (some ⟨(sb v), so v + (((((List.length L) : Int) - 1).toNat) * 6 + 0), none⟩))) rfl (by kernel_rfl) (fun w hS => x_idxRS (v := v) rfl hL rfl Try.underlying23 z66 (by omega) (by omega) (by omega : _ = (((List.length L) : Int) - 1).toNat) rfl) hq28_ ?_
  refine A_tk 12 (v := (Value.pointer (some ⟨(sb v), so v + (((((List.length L) : Int) - 1).toNat) * 6 + 4), none⟩))) rfl (by kernel_rfl) (fun w hS => by kernel_rfl) hq28_ ?_
  refine A_tk 13 (v := (Value.int .i64 x29_.ver)) rfl (by kernel_rfl) (fun w hS => x_load1 rfl Try.underlying2 rfl (RC.cell (RS.rc hL) hS (j := ((((List.length L) : Int) - 1).toNat) * 6 + 4) (u := (Value.int .i64 x29_.ver)) (fm_cell VR.len hx30_ (i := 4) rfl))) hq28_ ?_
  refine A_tk 14 (v := (Value.int .i64 (x29_.ver + 1))) rfl (by kernel_rfl) (fun w hS => x_bin rfl rfl (ib_add (IntWalk.i64_in _ (by omega)))) hq28_ ?_
  refine A_tk 15 (v := (Value.pointer (some ⟨b8_, 2, none⟩))) rfl (by kernel_rfl) (fun w hS => by kernel_rfl) hq28_ ?_
  refine A_ready (i := 16) (rs := []) (by kernel_rfl) ?_
  refine AllR.cons ?_ AllR.nil
  refine A_op0 (ls' := #[true, true, true, true, true, true, true, true, true, true, true, true, true, true, true, true, true, false, false]) rfl (by kernel_rfl) (T_storeN (vs := [(Value.int .i64 x29_.created_Main), (Value.int .i64 x29_.created_Sub)]) rfl rfl z31 rfl (by simp [Value.oneCell']) H27_ 1 rfl (Nat.le_of_ble_eq_true (by rfl)) ?_)
  intro w33_ S35_ H34_
  have S36_ := Same.trans (Same.trans S25_ (Same.drew _)) S35_
  refine ⟨((Holds.ro_at H34_ 0 rfl)), ?_⟩
  have hq37_ := ((Holds.ro_at H34_ 0 rfl))
  refine A_tk 17 (v := (Value.pointer (some ⟨b8_, 4, none⟩))) rfl (by kernel_rfl) (fun w hS => by kernel_rfl) hq37_ ?_
  refine A_ready (i := 18) (rs := []) (by kernel_rfl) ?_
  refine AllR.cons ?_ AllR.nil
  refine A_op0 (ls' := #[true, true, true, true, true, true, true, true, true, true, true, true, true, true, true, true, true, true, true]) rfl (by kernel_rfl) (T_store1 (v := (Value.int .i64 (x29_.ver + 1))) rfl rfl z2 rfl H34_ 1 rfl (Nat.le_of_ble_eq_true (by rfl)) ?_)
  intro w38_ S40_ H39_
  have S41_ := Same.trans S36_ S40_
  refine ⟨((Holds.ro_at H39_ 0 rfl)), ?_⟩
  refine A_done (by kernel_rfl) ?_
  refine (X_then (hK17_ _ _ ?_))
  clear hK17_
  refine C_seq (fun K42_ hK42_ => ?_)
  refine A_start (S := fun w => Rd b8_ [(Value.int .i64 m), (Value.int .i64 s), (Value.int .i64 x29_.created_Main), (Value.int .i64 x29_.created_Sub), (Value.int .i64 (x29_.ver + 1)), (Value.bool false)] w ∧ Sub R (hp w)) (N := 7) foll rfl rfl ?_
  have H43_ := Holds.drew_ H39_
  have hq44_ := And.intro (Holds.rd H43_ 1 rfl) ((Holds.ro_at H43_ 0 rfl))
  refine A_tk 1 (v := v) rfl (by kernel_rfl) (fun w hS => x_move rfl) hq44_ ?_
  refine A_tk 3 (v := (Value.agg #[(Value.int .i64 m), (Value.int .i64 s), (Value.int .i64 x29_.created_Main), (Value.int .i64 x29_.created_Sub), (Value.int .i64 (x29_.ver + 1)), (Value.bool false)])) rfl (by kernel_rfl) (fun w hS => x_loadN (vs := [(Value.int .i64 m), (Value.int .i64 s), (Value.int .i64 x29_.created_Main), (Value.int .i64 x29_.created_Sub), (Value.int .i64 (x29_.ver + 1)), (Value.bool false)]) rfl Try.underlying66 rfl z66 rfl (Rd.cells hS.1 0 rfl)) hq44_ ?_
  refine A_ready (i := 0) (rs := [4]) (by kernel_rfl) ?_
  refine AllR.cons ?_ ?_
  ·skip
   refine A_op (ls' := #[true, true, false, true, false, false, false]) rfl (by kernel_rfl) (T_new (obj := .cells #[] 66) (f := fun b__ => .slice (some ⟨b__, 0, none⟩) 0 0) (A := fun b__ => cl b__ 66 []) (by kernel_rfl) (fun l h => h.alloc _ _) H43_ ?_)
   intro b45_ w46_ S48_ H47_
   replace H47_ : Holds w46_ (cl b45_ 66 [] :: ro R :: cl b8_ 66 [(Value.int .i64 m), (Value.int .i64 s), (Value.int .i64 x29_.created_Main), (Value.int .i64 x29_.created_Sub), (Value.int .i64 (x29_.ver + 1)), (Value.bool false)] :: cl b2_ 31 [(Value.int .i64 m), (Value.int .i64 s)] :: F) := H47_
   have S49_ := Same.trans (Same.trans S41_ (Same.drew _)) S48_
   refine ⟨⟨Holds.rd H47_ 2 rfl, (Holds.ro_at H47_ 1 rfl)⟩, ?_⟩
   refine A_ready (i := 2) (rs := [4]) (by kernel_rfl) ?_
   refine AllR.cons ?_ ?_
   ·skip
    have H50_ : Holds w46_ (cl b45_ 66 ([] ++ [] ++ []) :: ro R :: cl b8_ 66 [(Value.int .i64 m), (Value.int .i64 s), (Value.int .i64 x29_.created_Main), (Value.int .i64 x29_.created_Sub), (Value.int .i64 (x29_.ver + 1)), (Value.bool false)] :: cl b2_ 31 [(Value.int .i64 m), (Value.int .i64 s)] :: F) := cast1 (P := fun (c__ : List Value) => Holds w46_ (cl b45_ 66 c__ :: ro R :: cl b8_ 66 [(Value.int .i64 m), (Value.int .i64 s), (Value.int .i64 x29_.created_Main), (Value.int .i64 x29_.created_Sub), (Value.int .i64 (x29_.ver + 1)), (Value.bool false)] :: cl b2_ 31 [(Value.int .i64 m), (Value.int .i64 s)] :: F)) (by kernel_rfl : [] = [] ++ [] ++ []) H47_
    have H51_ : Holds w46_ (sl 66 6 (Value.slice (some ⟨b45_, 0, none⟩) 0 0) 0 [] :: ro R :: cl b8_ 66 [(Value.int .i64 m), (Value.int .i64 s), (Value.int .i64 x29_.created_Main), (Value.int .i64 x29_.created_Sub), (Value.int .i64 (x29_.ver + 1)), (Value.bool false)] :: cl b2_ 31 [(Value.int .i64 m), (Value.int .i64 s)] :: F) := Holds.to_sl H50_ 0 [] [] (xs := []) (m := 0) (cap := 0) (sz := 6) rfl (by kernel_rfl) (by kernel_rfl) (by omega)
    refine A_op (ls' := #[true, true, true, true, false, false, false]) rfl (by kernel_rfl) (T_append rfl rfl Try.underlying23 z66 rfl (by decide) H51_ 0 rfl (RS.src hL (Holds.ro_at H51_ 1 rfl) Try.underlying23 (ones_VR _)) (by first | omega | (simp only [List.length_append, List.length_cons, List.length_nil]; omega)) ?_)
    intro v52_ w53_ S55_ H54_
    have S56_ := Same.trans S49_ S55_
    refine ⟨⟨Holds.rd H54_ 2 rfl, (Holds.ro_at H54_ 1 rfl)⟩, ?_⟩
    refine A_ready (i := 4) (rs := []) (by kernel_rfl) ?_
    refine AllR.cons ?_ AllR.nil
    refine A_op (ls' := #[true, true, true, true, true, false, false]) rfl (by kernel_rfl) (T_new (obj := .cells #[(Value.int .i64 m), (Value.int .i64 s), (Value.int .i64 x29_.created_Main), (Value.int .i64 x29_.created_Sub), (Value.int .i64 (x29_.ver + 1)), (Value.bool false)] 66) (f := fun b__ => .slice (some ⟨b__, 0, none⟩) 1 1) (A := fun b__ => cl b__ 66 [(Value.int .i64 m), (Value.int .i64 s), (Value.int .i64 x29_.created_Main), (Value.int .i64 x29_.created_Sub), (Value.int .i64 (x29_.ver + 1)), (Value.bool false)]) (by kernel_rfl) (fun l h => h.alloc _ _) H54_ ?_)
    intro b57_ w58_ S60_ H59_
    have S61_ := Same.trans S56_ S60_
    refine ⟨⟨Holds.rd H59_ 3 rfl, (Holds.ro_at H59_ 2 rfl)⟩, ?_⟩
    refine A_ready (i := 5) (rs := []) (by kernel_rfl) ?_
    refine AllR.cons ?_ AllR.nil
    refine A_op (ls' := #[true, true, true, true, true, true, false]) rfl (by kernel_rfl) (T_append rfl rfl Try.underlying23 z66 rfl (by decide) H59_ 1 rfl (Holds.cl_src H59_ 0 rfl Try.underlying23 (by simp [Value.oneCell']) rfl) (by first | omega | (simp only [List.length_append, List.length_cons, List.length_nil]; omega)) ?_)
    intro v62_ w63_ S65_ H64_
    replace H64_ : Holds w63_ (cl b57_ 66 [(Value.int .i64 m), (Value.int .i64 s), (Value.int .i64 x29_.created_Main), (Value.int .i64 x29_.created_Sub), (Value.int .i64 (x29_.ver + 1)), (Value.bool false)] :: sl 66 6 v62_ (0 + (List.length L) + 1) (([] ++ (L.flatMap VR.cells)) ++ [(Value.int .i64 m), (Value.int .i64 s), (Value.int .i64 x29_.created_Main), (Value.int .i64 x29_.created_Sub), (Value.int .i64 (x29_.ver + 1)), (Value.bool false)]) :: ro R :: cl b8_ 66 [(Value.int .i64 m), (Value.int .i64 s), (Value.int .i64 x29_.created_Main), (Value.int .i64 x29_.created_Sub), (Value.int .i64 (x29_.ver + 1)), (Value.bool false)] :: cl b2_ 31 [(Value.int .i64 m), (Value.int .i64 s)] :: F) := H64_
    have S66_ := Same.trans S61_ S65_
    refine ⟨⟨Holds.rd H64_ 3 rfl, (Holds.ro_at H64_ 2 rfl)⟩, ?_⟩
    have hq67_ := And.intro (Holds.rd H64_ 3 rfl) ((Holds.ro_at H64_ 2 rfl))
    refine A_tk 6 (v := v62_) rfl (by kernel_rfl) (fun w hS => x_assign rfl) hq67_ ?_
    refine A_done (by kernel_rfl) ?_
    refine (X_then (hK42_ _ _ ?_))
    clear hK42_
    refine C_ret ?_
    refine R_any (v := v62_) (run_results1 rfl rfl) ?_
    have H68_ := Holds.resl H64_ 1 rfl ((by first | rfl | (simp_all [VR.cells, vPut, vEnd, VR.rv, RV.cells]; done) | (simp [VR.cells, vPut, vEnd, VR.rv, RV.cells]; done) | (simp; omega) | omega) : ([] ++ (L.flatMap VR.cells)) ++ [(Value.int .i64 m), (Value.int .i64 s), (Value.int .i64 x29_.created_Main), (Value.int .i64 x29_.created_Sub), (Value.int .i64 (x29_.ver + 1)), (Value.bool false)] = (L ++ [vPut L m s]).flatMap VR.cells) ((by first | rfl | (simp_all [VR.cells, vPut, vEnd, VR.rv, RV.cells]; done) | (simp [VR.cells, vPut, vEnd, VR.rv, RV.cells]; done) | (simp; omega) | omega) : 0 + (List.length L) + 1 = (List.length (L ++ [vPut L m s])))
    have H69_ : Holds w63_ (ro R :: sl 66 6 v62_ (List.length (L ++ [vPut L m s])) ((L ++ [vPut L m s]).flatMap VR.cells) :: F) := (Holds.pkF H68_ [2, 1] 3 :)
    exact ⟨_, _, rfl, ⟨v62_, rfl, rfl⟩, S66_, H69_⟩
   refine AllR.cons ?_ AllR.nil
   refine A_op (ls' := #[true, true, false, true, true, false, false]) rfl (by kernel_rfl) (T_new (obj := .cells #[(Value.int .i64 m), (Value.int .i64 s), (Value.int .i64 x29_.created_Main), (Value.int .i64 x29_.created_Sub), (Value.int .i64 (x29_.ver + 1)), (Value.bool false)] 66) (f := fun b__ => .slice (some ⟨b__, 0, none⟩) 1 1) (A := fun b__ => cl b__ 66 [(Value.int .i64 m), (Value.int .i64 s), (Value.int .i64 x29_.created_Main), (Value.int .i64 x29_.created_Sub), (Value.int .i64 (x29_.ver + 1)), (Value.bool false)]) (by kernel_rfl) (fun l h => h.alloc _ _) H47_ ?_)
   intro b70_ w71_ S73_ H72_
   have S74_ := Same.trans S49_ S73_
   refine ⟨⟨Holds.rd H72_ 3 rfl, (Holds.ro_at H72_ 2 rfl)⟩, ?_⟩
   refine A_ready (i := 2) (rs := []) (by kernel_rfl) ?_
   refine AllR.cons ?_ AllR.nil
   have H75_ : Holds w71_ (cl b70_ 66 [(Value.int .i64 m), (Value.int .i64 s), (Value.int .i64 x29_.created_Main), (Value.int .i64 x29_.created_Sub), (Value.int .i64 (x29_.ver + 1)), (Value.bool false)] :: cl b45_ 66 ([] ++ [] ++ []) :: ro R :: cl b8_ 66 [(Value.int .i64 m), (Value.int .i64 s), (Value.int .i64 x29_.created_Main), (Value.int .i64 x29_.created_Sub), (Value.int .i64 (x29_.ver + 1)), (Value.bool false)] :: cl b2_ 31 [(Value.int .i64 m), (Value.int .i64 s)] :: F) := cast1 (P := fun (c__ : List Value) => Holds w71_ (cl b70_ 66 [(Value.int .i64 m), (Value.int .i64 s), (Value.int .i64 x29_.created_Main), (Value.int .i64 x29_.created_Sub), (Value.int .i64 (x29_.ver + 1)), (Value.bool false)] :: cl b45_ 66 c__ :: ro R :: cl b8_ 66 [(Value.int .i64 m), (Value.int .i64 s), (Value.int .i64 x29_.created_Main), (Value.int .i64 x29_.created_Sub), (Value.int .i64 (x29_.ver + 1)), (Value.bool false)] :: cl b2_ 31 [(Value.int .i64 m), (Value.int .i64 s)] :: F)) (by kernel_rfl : [] = [] ++ [] ++ []) H72_
   have H76_ : Holds w71_ (cl b70_ 66 [(Value.int .i64 m), (Value.int .i64 s), (Value.int .i64 x29_.created_Main), (Value.int .i64 x29_.created_Sub), (Value.int .i64 (x29_.ver + 1)), (Value.bool false)] :: sl 66 6 (Value.slice (some ⟨b45_, 0, none⟩) 0 0) 0 [] :: ro R :: cl b8_ 66 [(Value.int .i64 m), (Value.int .i64 s), (Value.int .i64 x29_.created_Main), (Value.int .i64 x29_.created_Sub), (Value.int .i64 (x29_.ver + 1)), (Value.bool false)] :: cl b2_ 31 [(Value.int .i64 m), (Value.int .i64 s)] :: F) := Holds.to_sl H75_ 1 [] [] (xs := []) (m := 0) (cap := 0) (sz := 6) rfl (by kernel_rfl) (by kernel_rfl) (by omega)
   refine A_op (ls' := #[true, true, true, true, true, false, false]) rfl (by kernel_rfl) (T_append rfl rfl Try.underlying23 z66 rfl (by decide) H76_ 1 rfl (RS.src hL (Holds.ro_at H76_ 2 rfl) Try.underlying23 (ones_VR _)) (by first | omega | (simp only [List.length_append, List.length_cons, List.length_nil]; omega)) ?_)
   intro v77_ w78_ S80_ H79_
   have S81_ := Same.trans S74_ S80_
   refine ⟨⟨Holds.rd H79_ 3 rfl, (Holds.ro_at H79_ 2 rfl)⟩, ?_⟩
   refine A_ready (i := 5) (rs := []) (by kernel_rfl) ?_
   refine AllR.cons ?_ AllR.nil
   refine A_op (ls' := #[true, true, true, true, true, true, false]) rfl (by kernel_rfl) (T_append rfl rfl Try.underlying23 z66 rfl (by decide) H79_ 1 rfl (Holds.cl_src H79_ 0 rfl Try.underlying23 (by simp [Value.oneCell']) rfl) (by first | omega | (simp only [List.length_append, List.length_cons, List.length_nil]; omega)) ?_)
   intro v82_ w83_ S85_ H84_
   replace H84_ : Holds w83_ (cl b70_ 66 [(Value.int .i64 m), (Value.int .i64 s), (Value.int .i64 x29_.created_Main), (Value.int .i64 x29_.created_Sub), (Value.int .i64 (x29_.ver + 1)), (Value.bool false)] :: sl 66 6 v82_ (0 + (List.length L) + 1) (([] ++ (L.flatMap VR.cells)) ++ [(Value.int .i64 m), (Value.int .i64 s), (Value.int .i64 x29_.created_Main), (Value.int .i64 x29_.created_Sub), (Value.int .i64 (x29_.ver + 1)), (Value.bool false)]) :: ro R :: cl b8_ 66 [(Value.int .i64 m), (Value.int .i64 s), (Value.int .i64 x29_.created_Main), (Value.int .i64 x29_.created_Sub), (Value.int .i64 (x29_.ver + 1)), (Value.bool false)] :: cl b2_ 31 [(Value.int .i64 m), (Value.int .i64 s)] :: F) := H84_
   have S86_ := Same.trans S81_ S85_
   refine ⟨⟨Holds.rd H84_ 3 rfl, (Holds.ro_at H84_ 2 rfl)⟩, ?_⟩
   have hq87_ := And.intro (Holds.rd H84_ 3 rfl) ((Holds.ro_at H84_ 2 rfl))
   refine A_tk 6 (v := v82_) rfl (by kernel_rfl) (fun w hS => x_assign rfl) hq87_ ?_
   refine A_done (by kernel_rfl) ?_
   refine (X_then (hK42_ _ _ ?_))
   clear hK42_
   refine C_ret ?_
   refine R_any (v := v82_) (run_results1 rfl rfl) ?_
   have H88_ := Holds.resl H84_ 1 rfl ((by first | rfl | (simp_all [VR.cells, vPut, vEnd, VR.rv, RV.cells]; done) | (simp [VR.cells, vPut, vEnd, VR.rv, RV.cells]; done) | (simp; omega) | omega) : ([] ++ (L.flatMap VR.cells)) ++ [(Value.int .i64 m), (Value.int .i64 s), (Value.int .i64 x29_.created_Main), (Value.int .i64 x29_.created_Sub), (Value.int .i64 (x29_.ver + 1)), (Value.bool false)] = (L ++ [vPut L m s]).flatMap VR.cells) ((by first | rfl | (simp_all [VR.cells, vPut, vEnd, VR.rv, RV.cells]; done) | (simp [VR.cells, vPut, vEnd, VR.rv, RV.cells]; done) | (simp; omega) | omega) : 0 + (List.length L) + 1 = (List.length (L ++ [vPut L m s])))
   have H89_ : Holds w83_ (ro R :: sl 66 6 v82_ (List.length (L ++ [vPut L m s])) ((L ++ [vPut L m s]).flatMap VR.cells) :: F) := (Holds.pkF H88_ [2, 1] 3 :)
   exact ⟨_, _, rfl, ⟨v82_, rfl, rfl⟩, S86_, H89_⟩
  refine AllR.cons ?_ AllR.nil
  refine A_op (ls' := #[false, true, false, true, true, false, false]) rfl (by kernel_rfl) (T_new (obj := .cells #[(Value.int .i64 m), (Value.int .i64 s), (Value.int .i64 x29_.created_Main), (Value.int .i64 x29_.created_Sub), (Value.int .i64 (x29_.ver + 1)), (Value.bool false)] 66) (f := fun b__ => .slice (some ⟨b__, 0, none⟩) 1 1) (A := fun b__ => cl b__ 66 [(Value.int .i64 m), (Value.int .i64 s), (Value.int .i64 x29_.created_Main), (Value.int .i64 x29_.created_Sub), (Value.int .i64 (x29_.ver + 1)), (Value.bool false)]) (by kernel_rfl) (fun l h => h.alloc _ _) H43_ ?_)
  intro b90_ w91_ S93_ H92_
  have S94_ := Same.trans (Same.trans S41_ (Same.drew _)) S93_
  refine ⟨⟨Holds.rd H92_ 2 rfl, (Holds.ro_at H92_ 1 rfl)⟩, ?_⟩
  refine A_ready (i := 0) (rs := []) (by kernel_rfl) ?_
  refine AllR.cons ?_ AllR.nil
  refine A_op (ls' := #[true, true, false, true, true, false, false]) rfl (by kernel_rfl) (T_new (obj := .cells #[] 66) (f := fun b__ => .slice (some ⟨b__, 0, none⟩) 0 0) (A := fun b__ => cl b__ 66 []) (by kernel_rfl) (fun l h => h.alloc _ _) H92_ ?_)
  intro b95_ w96_ S98_ H97_
  have S99_ := Same.trans S94_ S98_
  refine ⟨⟨Holds.rd H97_ 3 rfl, (Holds.ro_at H97_ 2 rfl)⟩, ?_⟩
  refine A_ready (i := 2) (rs := []) (by kernel_rfl) ?_
  refine AllR.cons ?_ AllR.nil
  have H100_ : Holds w96_ (cl b95_ 66 ([] ++ [] ++ []) :: cl b90_ 66 [(Value.int .i64 m), (Value.int .i64 s), (Value.int .i64 x29_.created_Main), (Value.int .i64 x29_.created_Sub), (Value.int .i64 (x29_.ver + 1)), (Value.bool false)] :: ro R :: cl b8_ 66 [(Value.int .i64 m), (Value.int .i64 s), (Value.int .i64 x29_.created_Main), (Value.int .i64 x29_.created_Sub), (Value.int .i64 (x29_.ver + 1)), (Value.bool false)] :: cl b2_ 31 [(Value.int .i64 m), (Value.int .i64 s)] :: F) := cast1 (P := fun (c__ : List Value) => Holds w96_ (cl b95_ 66 c__ :: cl b90_ 66 [(Value.int .i64 m), (Value.int .i64 s), (Value.int .i64 x29_.created_Main), (Value.int .i64 x29_.created_Sub), (Value.int .i64 (x29_.ver + 1)), (Value.bool false)] :: ro R :: cl b8_ 66 [(Value.int .i64 m), (Value.int .i64 s), (Value.int .i64 x29_.created_Main), (Value.int .i64 x29_.created_Sub), (Value.int .i64 (x29_.ver + 1)), (Value.bool false)] :: cl b2_ 31 [(Value.int .i64 m), (Value.int .i64 s)] :: F)) (by kernel_rfl : [] = [] ++ [] ++ []) H97_
  have H101_ : Holds w96_ (sl 66 6 (Value.slice (some ⟨b95_, 0, none⟩) 0 0) 0 [] :: cl b90_ 66 [(Value.int .i64 m), (Value.int .i64 s), (Value.int .i64 x29_.created_Main), (Value.int .i64 x29_.created_Sub), (Value.int .i64 (x29_.ver + 1)), (Value.bool false)] :: ro R :: cl b8_ 66 [(Value.int .i64 m), (Value.int .i64 s), (Value.int .i64 x29_.created_Main), (Value.int .i64 x29_.created_Sub), (Value.int .i64 (x29_.ver + 1)), (Value.bool false)] :: cl b2_ 31 [(Value.int .i64 m), (Value.int .i64 s)] :: F) := Holds.to_sl H100_ 0 [] [] (xs := []) (m := 0) (cap := 0) (sz := 6) rfl (by kernel_rfl) (by kernel_rfl) (by omega)
  refine A_op (ls' := #[true, true, true, true, true, false, false]) rfl (by kernel_rfl) (T_append rfl rfl Try.underlying23 z66 rfl (by decide) H101_ 0 rfl (RS.src hL (Holds.ro_at H101_ 2 rfl) Try.underlying23 (ones_VR _)) (by first | omega | (simp only [List.length_append, List.length_cons, List.length_nil]; omega)) ?_)
  intro v102_ w103_ S105_ H104_
  replace H104_ : Holds w103_ (sl 66 6 v102_ (0 + (List.length L)) ([] ++ (L.flatMap VR.cells)) :: cl b90_ 66 [(Value.int .i64 m), (Value.int .i64 s), (Value.int .i64 x29_.created_Main), (Value.int .i64 x29_.created_Sub), (Value.int .i64 (x29_.ver + 1)), (Value.bool false)] :: ro R :: cl b8_ 66 [(Value.int .i64 m), (Value.int .i64 s), (Value.int .i64 x29_.created_Main), (Value.int .i64 x29_.created_Sub), (Value.int .i64 (x29_.ver + 1)), (Value.bool false)] :: cl b2_ 31 [(Value.int .i64 m), (Value.int .i64 s)] :: F) := H104_
  have S106_ := Same.trans S99_ S105_
  refine ⟨⟨Holds.rd H104_ 3 rfl, (Holds.ro_at H104_ 2 rfl)⟩, ?_⟩
  refine A_ready (i := 5) (rs := []) (by kernel_rfl) ?_
  refine AllR.cons ?_ AllR.nil
  refine A_op (ls' := #[true, true, true, true, true, true, false]) rfl (by kernel_rfl) (T_append rfl rfl Try.underlying23 z66 rfl (by decide) H104_ 0 rfl (Holds.cl_src H104_ 1 rfl Try.underlying23 (by simp [Value.oneCell']) rfl) (by first | omega | (simp only [List.length_append, List.length_cons, List.length_nil]; omega)) ?_)
  intro v107_ w108_ S110_ H109_
  have S111_ := Same.trans S106_ S110_
  refine ⟨⟨Holds.rd H109_ 3 rfl, (Holds.ro_at H109_ 2 rfl)⟩, ?_⟩
  have hq112_ := And.intro (Holds.rd H109_ 3 rfl) ((Holds.ro_at H109_ 2 rfl))
  refine A_tk 6 (v := v107_) rfl (by kernel_rfl) (fun w hS => x_assign rfl) hq112_ ?_
  refine A_done (by kernel_rfl) ?_
  refine (X_then (hK42_ _ _ ?_))
  clear hK42_
  refine C_ret ?_
  refine R_any (v := v107_) (run_results1 rfl rfl) ?_
  have H113_ := Holds.resl H109_ 0 rfl ((by first | rfl | (simp_all [VR.cells, vPut, vEnd, VR.rv, RV.cells]; done) | (simp [VR.cells, vPut, vEnd, VR.rv, RV.cells]; done) | (simp; omega) | omega) : ([] ++ (L.flatMap VR.cells)) ++ [(Value.int .i64 m), (Value.int .i64 s), (Value.int .i64 x29_.created_Main), (Value.int .i64 x29_.created_Sub), (Value.int .i64 (x29_.ver + 1)), (Value.bool false)] = (L ++ [vPut L m s]).flatMap VR.cells) ((by first | rfl | (simp_all [VR.cells, vPut, vEnd, VR.rv, RV.cells]; done) | (simp [VR.cells, vPut, vEnd, VR.rv, RV.cells]; done) | (simp; omega) | omega) : 0 + (List.length L) + 1 = (List.length (L ++ [vPut L m s])))
  have H114_ : Holds w108_ (ro R :: sl 66 6 v107_ (List.length (L ++ [vPut L m s])) ((L ++ [vPut L m s]).flatMap VR.cells) :: F) := (Holds.pkF H113_ [2, 0] 3 :)
  exact ⟨_, _, rfl, ⟨v107_, rfl, rfl⟩, S111_, H114_⟩
 ·skip
  refine C_skip (X_then (hK17_ _ _ ?_))
  clear hK17_
  refine C_seq (fun K115_ hK115_ => ?_)
  refine A_start (S := fun w => Rd b8_ [(Value.int .i64 m), (Value.int .i64 s), (Value.int .i64 m), (Value.int .i64 s), (Value.int .i64 1), (Value.bool false)] w ∧ Sub R (hp w)) (N := 7) foll rfl rfl ?_
  have H116_ := Holds.drew_ H22_
  have hq117_ := And.intro (Holds.rd H116_ 1 rfl) ((Holds.ro_at H116_ 0 rfl))
  refine A_tk 1 (v := v) rfl (by kernel_rfl) (fun w hS => x_move rfl) hq117_ ?_
  refine A_tk 3 (v := (Value.agg #[(Value.int .i64 m), (Value.int .i64 s), (Value.int .i64 m), (Value.int .i64 s), (Value.int .i64 1), (Value.bool false)])) rfl (by kernel_rfl) (fun w hS => x_loadN (vs := [(Value.int .i64 m), (Value.int .i64 s), (Value.int .i64 m), (Value.int .i64 s), (Value.int .i64 1), (Value.bool false)]) rfl Try.underlying66 rfl z66 rfl (Rd.cells hS.1 0 rfl)) hq117_ ?_
  refine A_ready (i := 0) (rs := [4]) (by kernel_rfl) ?_
  refine AllR.cons ?_ ?_
  ·skip
   refine A_op (ls' := #[true, true, false, true, false, false, false]) rfl (by kernel_rfl) (T_new (obj := .cells #[] 66) (f := fun b__ => .slice (some ⟨b__, 0, none⟩) 0 0) (A := fun b__ => cl b__ 66 []) (by kernel_rfl) (fun l h => h.alloc _ _) H116_ ?_)
   intro b118_ w119_ S121_ H120_
   have S122_ := Same.trans (Same.trans S25_ (Same.drew _)) S121_
   refine ⟨⟨Holds.rd H120_ 2 rfl, (Holds.ro_at H120_ 1 rfl)⟩, ?_⟩
   refine A_ready (i := 2) (rs := [4]) (by kernel_rfl) ?_
   refine AllR.cons ?_ ?_
   ·skip
    have H123_ : Holds w119_ (cl b118_ 66 ([] ++ [] ++ []) :: ro R :: cl b8_ 66 [(Value.int .i64 m), (Value.int .i64 s), (Value.int .i64 m), (Value.int .i64 s), (Value.int .i64 1), (Value.bool false)] :: cl b2_ 31 [(Value.int .i64 m), (Value.int .i64 s)] :: F) := cast1 (P := fun (c__ : List Value) => Holds w119_ (cl b118_ 66 c__ :: ro R :: cl b8_ 66 [(Value.int .i64 m), (Value.int .i64 s), (Value.int .i64 m), (Value.int .i64 s), (Value.int .i64 1), (Value.bool false)] :: cl b2_ 31 [(Value.int .i64 m), (Value.int .i64 s)] :: F)) (by kernel_rfl : [] = [] ++ [] ++ []) H120_
    have H124_ : Holds w119_ (sl 66 6 (Value.slice (some ⟨b118_, 0, none⟩) 0 0) 0 [] :: ro R :: cl b8_ 66 [(Value.int .i64 m), (Value.int .i64 s), (Value.int .i64 m), (Value.int .i64 s), (Value.int .i64 1), (Value.bool false)] :: cl b2_ 31 [(Value.int .i64 m), (Value.int .i64 s)] :: F) := Holds.to_sl H123_ 0 [] [] (xs := []) (m := 0) (cap := 0) (sz := 6) rfl (by kernel_rfl) (by kernel_rfl) (by omega)
    refine A_op (ls' := #[true, true, true, true, false, false, false]) rfl (by kernel_rfl) (T_append rfl rfl Try.underlying23 z66 rfl (by decide) H124_ 0 rfl (RS.src hL (Holds.ro_at H124_ 1 rfl) Try.underlying23 (ones_VR _)) (by first | omega | (simp only [List.length_append, List.length_cons, List.length_nil]; omega)) ?_)
    intro v125_ w126_ S128_ H127_
    have S129_ := Same.trans S122_ S128_
    refine ⟨⟨Holds.rd H127_ 2 rfl, (Holds.ro_at H127_ 1 rfl)⟩, ?_⟩
    refine A_ready (i := 4) (rs := []) (by kernel_rfl) ?_
    refine AllR.cons ?_ AllR.nil
    refine A_op (ls' := #[true, true, true, true, true, false, false]) rfl (by kernel_rfl) (T_new (obj := .cells #[(Value.int .i64 m), (Value.int .i64 s), (Value.int .i64 m), (Value.int .i64 s), (Value.int .i64 1), (Value.bool false)] 66) (f := fun b__ => .slice (some ⟨b__, 0, none⟩) 1 1) (A := fun b__ => cl b__ 66 [(Value.int .i64 m), (Value.int .i64 s), (Value.int .i64 m), (Value.int .i64 s), (Value.int .i64 1), (Value.bool false)]) (by kernel_rfl) (fun l h => h.alloc _ _) H127_ ?_)
    intro b130_ w131_ S133_ H132_
    replace H132_ : Holds w131_ (cl b130_ 66 [(Value.int .i64 m), (Value.int .i64 s), (Value.int .i64 m), (Value.int .i64 s), (Value.int .i64 1), (Value.bool false)] :: sl 66 6 v125_ (0 + (List.length L)) ([] ++ (L.flatMap VR.cells)) :: ro R :: cl b8_ 66 [(Value.int .i64 m), (Value.int .i64 s), (Value.int .i64 m), (Value.int .i64 s), (Value.int .i64 1), (Value.bool false)] :: cl b2_ 31 [(Value.int .i64 m), (Value.int .i64 s)] :: F) := H132_
    have S134_ := Same.trans S129_ S133_
    refine ⟨⟨Holds.rd H132_ 3 rfl, (Holds.ro_at H132_ 2 rfl)⟩, ?_⟩
    refine A_ready (i := 5) (rs := []) (by kernel_rfl) ?_
    refine AllR.cons ?_ AllR.nil
    refine A_op (ls' := #[true, true, true, true, true, true, false]) rfl (by kernel_rfl) (T_append rfl rfl Try.underlying23 z66 rfl (by decide) H132_ 1 rfl (Holds.cl_src H132_ 0 rfl Try.underlying23 (by simp [Value.oneCell']) rfl) (by first | omega | (simp only [List.length_append, List.length_cons, List.length_nil]; omega)) ?_)
    intro v135_ w136_ S138_ H137_
    have S139_ := Same.trans S134_ S138_
    refine ⟨⟨Holds.rd H137_ 3 rfl, (Holds.ro_at H137_ 2 rfl)⟩, ?_⟩
    have hq140_ := And.intro (Holds.rd H137_ 3 rfl) ((Holds.ro_at H137_ 2 rfl))
    refine A_tk 6 (v := v135_) rfl (by kernel_rfl) (fun w hS => x_assign rfl) hq140_ ?_
    refine A_done (by kernel_rfl) ?_
    refine (X_then (hK115_ _ _ ?_))
    clear hK115_
    refine C_ret ?_
    refine R_any (v := v135_) (run_results1 rfl rfl) ?_
    have H141_ := Holds.resl H137_ 1 rfl ((by first | rfl | (simp_all [VR.cells, vPut, vEnd, VR.rv, RV.cells]; done) | (simp [VR.cells, vPut, vEnd, VR.rv, RV.cells]; done) | (simp; omega) | omega) : ([] ++ (L.flatMap VR.cells)) ++ [(Value.int .i64 m), (Value.int .i64 s), (Value.int .i64 m), (Value.int .i64 s), (Value.int .i64 1), (Value.bool false)] = (L ++ [vPut L m s]).flatMap VR.cells) ((by first | rfl | (simp_all [VR.cells, vPut, vEnd, VR.rv, RV.cells]; done) | (simp [VR.cells, vPut, vEnd, VR.rv, RV.cells]; done) | (simp; omega) | omega) : 0 + (List.length L) + 1 = (List.length (L ++ [vPut L m s])))
    have H142_ : Holds w136_ (ro R :: sl 66 6 v135_ (List.length (L ++ [vPut L m s])) ((L ++ [vPut L m s]).flatMap VR.cells) :: F) := (Holds.pkF H141_ [2, 1] 3 :)
    exact ⟨_, _, rfl, ⟨v135_, rfl, rfl⟩, S139_, H142_⟩
   refine AllR.cons ?_ AllR.nil
   refine A_op (ls' := #[true, true, false, true, true, false, false]) rfl (by kernel_rfl) (T_new (obj := .cells #[(Value.int .i64 m), (Value.int .i64 s), (Value.int .i64 m), (Value.int .i64 s), (Value.int .i64 1), (Value.bool false)] 66) (f := fun b__ => .slice (some ⟨b__, 0, none⟩) 1 1) (A := fun b__ => cl b__ 66 [(Value.int .i64 m), (Value.int .i64 s), (Value.int .i64 m), (Value.int .i64 s), (Value.int .i64 1), (Value.bool false)]) (by kernel_rfl) (fun l h => h.alloc _ _) H120_ ?_)
   intro b143_ w144_ S146_ H145_
   have S147_ := Same.trans S122_ S146_
   refine ⟨⟨Holds.rd H145_ 3 rfl, (Holds.ro_at H145_ 2 rfl)⟩, ?_⟩
   refine A_ready (i := 2) (rs := []) (by kernel_rfl) ?_
   refine AllR.cons ?_ AllR.nil
   have H148_ : Holds w144_ (cl b143_ 66 [(Value.int .i64 m), (Value.int .i64 s), (Value.int .i64 m), (Value.int .i64 s), (Value.int .i64 1), (Value.bool false)] :: cl b118_ 66 ([] ++ [] ++ []) :: ro R :: cl b8_ 66 [(Value.int .i64 m), (Value.int .i64 s), (Value.int .i64 m), (Value.int .i64 s), (Value.int .i64 1), (Value.bool false)] :: cl b2_ 31 [(Value.int .i64 m), (Value.int .i64 s)] :: F) := cast1 (P := fun (c__ : List Value) => Holds w144_ (cl b143_ 66 [(Value.int .i64 m), (Value.int .i64 s), (Value.int .i64 m), (Value.int .i64 s), (Value.int .i64 1), (Value.bool false)] :: cl b118_ 66 c__ :: ro R :: cl b8_ 66 [(Value.int .i64 m), (Value.int .i64 s), (Value.int .i64 m), (Value.int .i64 s), (Value.int .i64 1), (Value.bool false)] :: cl b2_ 31 [(Value.int .i64 m), (Value.int .i64 s)] :: F)) (by kernel_rfl : [] = [] ++ [] ++ []) H145_
   have H149_ : Holds w144_ (cl b143_ 66 [(Value.int .i64 m), (Value.int .i64 s), (Value.int .i64 m), (Value.int .i64 s), (Value.int .i64 1), (Value.bool false)] :: sl 66 6 (Value.slice (some ⟨b118_, 0, none⟩) 0 0) 0 [] :: ro R :: cl b8_ 66 [(Value.int .i64 m), (Value.int .i64 s), (Value.int .i64 m), (Value.int .i64 s), (Value.int .i64 1), (Value.bool false)] :: cl b2_ 31 [(Value.int .i64 m), (Value.int .i64 s)] :: F) := Holds.to_sl H148_ 1 [] [] (xs := []) (m := 0) (cap := 0) (sz := 6) rfl (by kernel_rfl) (by kernel_rfl) (by omega)
   refine A_op (ls' := #[true, true, true, true, true, false, false]) rfl (by kernel_rfl) (T_append rfl rfl Try.underlying23 z66 rfl (by decide) H149_ 1 rfl (RS.src hL (Holds.ro_at H149_ 2 rfl) Try.underlying23 (ones_VR _)) (by first | omega | (simp only [List.length_append, List.length_cons, List.length_nil]; omega)) ?_)
   intro v150_ w151_ S153_ H152_
   have S154_ := Same.trans S147_ S153_
   refine ⟨⟨Holds.rd H152_ 3 rfl, (Holds.ro_at H152_ 2 rfl)⟩, ?_⟩
   refine A_ready (i := 5) (rs := []) (by kernel_rfl) ?_
   refine AllR.cons ?_ AllR.nil
   refine A_op (ls' := #[true, true, true, true, true, true, false]) rfl (by kernel_rfl) (T_append rfl rfl Try.underlying23 z66 rfl (by decide) H152_ 1 rfl (Holds.cl_src H152_ 0 rfl Try.underlying23 (by simp [Value.oneCell']) rfl) (by first | omega | (simp only [List.length_append, List.length_cons, List.length_nil]; omega)) ?_)
   intro v155_ w156_ S158_ H157_
   replace H157_ : Holds w156_ (cl b143_ 66 [(Value.int .i64 m), (Value.int .i64 s), (Value.int .i64 m), (Value.int .i64 s), (Value.int .i64 1), (Value.bool false)] :: sl 66 6 v155_ (0 + (List.length L) + 1) (([] ++ (L.flatMap VR.cells)) ++ [(Value.int .i64 m), (Value.int .i64 s), (Value.int .i64 m), (Value.int .i64 s), (Value.int .i64 1), (Value.bool false)]) :: ro R :: cl b8_ 66 [(Value.int .i64 m), (Value.int .i64 s), (Value.int .i64 m), (Value.int .i64 s), (Value.int .i64 1), (Value.bool false)] :: cl b2_ 31 [(Value.int .i64 m), (Value.int .i64 s)] :: F) := H157_
   have S159_ := Same.trans S154_ S158_
   refine ⟨⟨Holds.rd H157_ 3 rfl, (Holds.ro_at H157_ 2 rfl)⟩, ?_⟩
   have hq160_ := And.intro (Holds.rd H157_ 3 rfl) ((Holds.ro_at H157_ 2 rfl))
   refine A_tk 6 (v := v155_) rfl (by kernel_rfl) (fun w hS => x_assign rfl) hq160_ ?_
   refine A_done (by kernel_rfl) ?_
   refine (X_then (hK115_ _ _ ?_))
   clear hK115_
   refine C_ret ?_
   refine R_any (v := v155_) (run_results1 rfl rfl) ?_
   have H161_ := Holds.resl H157_ 1 rfl ((by first | rfl | (simp_all [VR.cells, vPut, vEnd, VR.rv, RV.cells]; done) | (simp [VR.cells, vPut, vEnd, VR.rv, RV.cells]; done) | (simp; omega) | omega) : ([] ++ (L.flatMap VR.cells)) ++ [(Value.int .i64 m), (Value.int .i64 s), (Value.int .i64 m), (Value.int .i64 s), (Value.int .i64 1), (Value.bool false)] = (L ++ [vPut L m s]).flatMap VR.cells) ((by first | rfl | (simp_all [VR.cells, vPut, vEnd, VR.rv, RV.cells]; done) | (simp [VR.cells, vPut, vEnd, VR.rv, RV.cells]; done) | (simp; omega) | omega) : 0 + (List.length L) + 1 = (List.length (L ++ [vPut L m s])))
   have H162_ : Holds w156_ (ro R :: sl 66 6 v155_ (List.length (L ++ [vPut L m s])) ((L ++ [vPut L m s]).flatMap VR.cells) :: F) := (Holds.pkF H161_ [2, 1] 3 :)
   exact ⟨_, _, rfl, ⟨v155_, rfl, rfl⟩, S159_, H162_⟩
  refine AllR.cons ?_ AllR.nil
  refine A_op (ls' := #[false, true, false, true, true, false, false]) rfl (by kernel_rfl) (T_new (obj := .cells #[(Value.int .i64 m), (Value.int .i64 s), (Value.int .i64 m), (Value.int .i64 s), (Value.int .i64 1), (Value.bool false)] 66) (f := fun b__ => .slice (some ⟨b__, 0, none⟩) 1 1) (A := fun b__ => cl b__ 66 [(Value.int .i64 m), (Value.int .i64 s), (Value.int .i64 m), (Value.int .i64 s), (Value.int .i64 1), (Value.bool false)]) (by kernel_rfl) (fun l h => h.alloc _ _) H116_ ?_)
  intro b163_ w164_ S166_ H165_
  have S167_ := Same.trans (Same.trans S25_ (Same.drew _)) S166_
  refine ⟨⟨Holds.rd H165_ 2 rfl, (Holds.ro_at H165_ 1 rfl)⟩, ?_⟩
  refine A_ready (i := 0) (rs := []) (by kernel_rfl) ?_
  refine AllR.cons ?_ AllR.nil
  refine A_op (ls' := #[true, true, false, true, true, false, false]) rfl (by kernel_rfl) (T_new (obj := .cells #[] 66) (f := fun b__ => .slice (some ⟨b__, 0, none⟩) 0 0) (A := fun b__ => cl b__ 66 []) (by kernel_rfl) (fun l h => h.alloc _ _) H165_ ?_)
  intro b168_ w169_ S171_ H170_
  have S172_ := Same.trans S167_ S171_
  refine ⟨⟨Holds.rd H170_ 3 rfl, (Holds.ro_at H170_ 2 rfl)⟩, ?_⟩
  refine A_ready (i := 2) (rs := []) (by kernel_rfl) ?_
  refine AllR.cons ?_ AllR.nil
  have H173_ : Holds w169_ (cl b168_ 66 ([] ++ [] ++ []) :: cl b163_ 66 [(Value.int .i64 m), (Value.int .i64 s), (Value.int .i64 m), (Value.int .i64 s), (Value.int .i64 1), (Value.bool false)] :: ro R :: cl b8_ 66 [(Value.int .i64 m), (Value.int .i64 s), (Value.int .i64 m), (Value.int .i64 s), (Value.int .i64 1), (Value.bool false)] :: cl b2_ 31 [(Value.int .i64 m), (Value.int .i64 s)] :: F) := cast1 (P := fun (c__ : List Value) => Holds w169_ (cl b168_ 66 c__ :: cl b163_ 66 [(Value.int .i64 m), (Value.int .i64 s), (Value.int .i64 m), (Value.int .i64 s), (Value.int .i64 1), (Value.bool false)] :: ro R :: cl b8_ 66 [(Value.int .i64 m), (Value.int .i64 s), (Value.int .i64 m), (Value.int .i64 s), (Value.int .i64 1), (Value.bool false)] :: cl b2_ 31 [(Value.int .i64 m), (Value.int .i64 s)] :: F)) (by kernel_rfl : [] = [] ++ [] ++ []) H170_
  have H174_ : Holds w169_ (sl 66 6 (Value.slice (some ⟨b168_, 0, none⟩) 0 0) 0 [] :: cl b163_ 66 [(Value.int .i64 m), (Value.int .i64 s), (Value.int .i64 m), (Value.int .i64 s), (Value.int .i64 1), (Value.bool false)] :: ro R :: cl b8_ 66 [(Value.int .i64 m), (Value.int .i64 s), (Value.int .i64 m), (Value.int .i64 s), (Value.int .i64 1), (Value.bool false)] :: cl b2_ 31 [(Value.int .i64 m), (Value.int .i64 s)] :: F) := Holds.to_sl H173_ 0 [] [] (xs := []) (m := 0) (cap := 0) (sz := 6) rfl (by kernel_rfl) (by kernel_rfl) (by omega)
  refine A_op (ls' := #[true, true, true, true, true, false, false]) rfl (by kernel_rfl) (T_append rfl rfl Try.underlying23 z66 rfl (by decide) H174_ 0 rfl (RS.src hL (Holds.ro_at H174_ 2 rfl) Try.underlying23 (ones_VR _)) (by first | omega | (simp only [List.length_append, List.length_cons, List.length_nil]; omega)) ?_)
  intro v175_ w176_ S178_ H177_
  replace H177_ : Holds w176_ (sl 66 6 v175_ (0 + (List.length L)) ([] ++ (L.flatMap VR.cells)) :: cl b163_ 66 [(Value.int .i64 m), (Value.int .i64 s), (Value.int .i64 m), (Value.int .i64 s), (Value.int .i64 1), (Value.bool false)] :: ro R :: cl b8_ 66 [(Value.int .i64 m), (Value.int .i64 s), (Value.int .i64 m), (Value.int .i64 s), (Value.int .i64 1), (Value.bool false)] :: cl b2_ 31 [(Value.int .i64 m), (Value.int .i64 s)] :: F) := H177_
  have S179_ := Same.trans S172_ S178_
  refine ⟨⟨Holds.rd H177_ 3 rfl, (Holds.ro_at H177_ 2 rfl)⟩, ?_⟩
  refine A_ready (i := 5) (rs := []) (by kernel_rfl) ?_
  refine AllR.cons ?_ AllR.nil
  refine A_op (ls' := #[true, true, true, true, true, true, false]) rfl (by kernel_rfl) (T_append rfl rfl Try.underlying23 z66 rfl (by decide) H177_ 0 rfl (Holds.cl_src H177_ 1 rfl Try.underlying23 (by simp [Value.oneCell']) rfl) (by first | omega | (simp only [List.length_append, List.length_cons, List.length_nil]; omega)) ?_)
  intro v180_ w181_ S183_ H182_
  have S184_ := Same.trans S179_ S183_
  refine ⟨⟨Holds.rd H182_ 3 rfl, (Holds.ro_at H182_ 2 rfl)⟩, ?_⟩
  have hq185_ := And.intro (Holds.rd H182_ 3 rfl) ((Holds.ro_at H182_ 2 rfl))
  refine A_tk 6 (v := v180_) rfl (by kernel_rfl) (fun w hS => x_assign rfl) hq185_ ?_
  refine A_done (by kernel_rfl) ?_
  refine (X_then (hK115_ _ _ ?_))
  clear hK115_
  refine C_ret ?_
  refine R_any (v := v180_) (run_results1 rfl rfl) ?_
  have H186_ := Holds.resl H182_ 0 rfl ((by first | rfl | (simp_all [VR.cells, vPut, vEnd, VR.rv, RV.cells]; done) | (simp [VR.cells, vPut, vEnd, VR.rv, RV.cells]; done) | (simp; omega) | omega) : ([] ++ (L.flatMap VR.cells)) ++ [(Value.int .i64 m), (Value.int .i64 s), (Value.int .i64 m), (Value.int .i64 s), (Value.int .i64 1), (Value.bool false)] = (L ++ [vPut L m s]).flatMap VR.cells) ((by first | rfl | (simp_all [VR.cells, vPut, vEnd, VR.rv, RV.cells]; done) | (simp [VR.cells, vPut, vEnd, VR.rv, RV.cells]; done) | (simp; omega) | omega) : 0 + (List.length L) + 1 = (List.length (L ++ [vPut L m s])))
  have H187_ : Holds w181_ (ro R :: sl 66 6 v180_ (List.length (L ++ [vPut L m s])) ((L ++ [vPut L m s]).flatMap VR.cells) :: F) := (Holds.pkF H186_ [2, 0] 3 :)
  exact ⟨_, _, rfl, ⟨v180_, rfl, rfl⟩, S184_, H187_⟩

set_option maxHeartbeats 400000 in
theorem kEnded (R : HP) (v : Value) (L : List VR) (m s : Int) (hL : RS R 6 v (List.length L) (L.flatMap VR.cells)) (hl : L.length ≤ 10000) (hv : ∀ x ∈ L, 0 ≤ x.ver ∧ x.ver ≤ 10000) (h0 : 0 < L.length) :
    Tri Try.prog 28 #[v, (Value.agg #[(Value.int .i64 m), (Value.int .i64 s)])] R [] (fun v__ post__ => ∃ (v' : Value), v__ = v' ∧ post__ = [sl 66 6 v' (List.length (L ++ [vEnd L m s])) ((L ++ [vEnd L m s]).flatMap VR.cells)]) := by
 refine Tri.into (n := 24) (al := [v, (Value.agg #[(Value.int .i64 m), (Value.int .i64 s)])]) Try.func28 rfl Try.ntmps28 rfl rfl fun w F H => ?_
 refine C_seq (fun K1_ hK1_ => ?_)
 refine C_reg ?_
 refine S_list (T_box (v := (Value.agg #[(Value.int .i64 m), (Value.int .i64 s)])) rfl H ?_)
 intro b2_ w3_ S5_ H4_
 have S6_ := Same.trans (Same.refl w) S5_
 refine S_list (T_val (v := (Value.slice none 0 0)) (x_assign rfl) ?_)
 refine wpList_nil ?_
 refine (X_then (hK1_ _ _ ?_))
 clear hK1_
 refine C_seq (fun K7_ hK7_ => ?_)
 refine C_reg ?_
 refine S_list (T_val (v := v) (x_move rfl) ?_)
 refine S_list (T_val (v := v) (x_move rfl) ?_)
 refine S_list (T_val (v := (Value.int .i64 ((List.length L) : Int))) (x_lenRS rfl hL Try.underlying23) ?_)
 refine S_list (T_val (v := (Value.int .i64 (((List.length L) : Int) - 1))) (x_bin rfl rfl (ib_sub (IntWalk.i64_in _ (by omega)))) ?_)
 obtain ⟨x8_, hx9_, hm10_⟩ := elem_at L ((((List.length L) : Int) - 1).toNat) (by omega)
 have hp11_ := hv x8_ hm10_
 have hvl_ := vLast_at hx9_ (by omega)
 refine S_list (T_val (v := (Value.pointer (some ⟨(sb v), so v + (((((List.length L) : Int) - 1).toNat) * 6 + 0), none⟩))) (x_idxRS (v := v) rfl hL rfl Try.underlying23 z66 (by omega) (by omega) (by omega : _ = (((List.length L) : Int) - 1).toNat) rfl) ?_)
 refine S_list (T_val (v := (Value.agg #[(Value.int .i64 x8_.rev_Main), (Value.int .i64 x8_.rev_Sub), (Value.int .i64 x8_.created_Main), (Value.int .i64 x8_.created_Sub), (Value.int .i64 x8_.ver), (Value.bool x8_.gone)])) (x_loadN (vs := [(Value.int .i64 x8_.rev_Main), (Value.int .i64 x8_.rev_Sub), (Value.int .i64 x8_.created_Main), (Value.int .i64 x8_.created_Sub), (Value.int .i64 x8_.ver), (Value.bool x8_.gone)]) rfl Try.underlying66 rfl z66 rfl (RC.cells (RS.rc hL) (Holds.ro_at H4_ 1 rfl) (((((List.length L) : Int) - 1).toNat) * 6 + 0) (fm_cells VR.len hx9_ (i := 0) rfl))) ?_)
 refine S_list (T_alloc z66 H4_ ?_)
 intro b12_ w13_ S15_ H14_
 replace H14_ : Holds w13_ (cl b12_ 66 [(Value.int .i64 0), (Value.int .i64 0), (Value.int .i64 0), (Value.int .i64 0), (Value.int .i64 0), (Value.bool false)] :: cl b2_ 31 [(Value.int .i64 m), (Value.int .i64 s)] :: ro R :: F) := H14_
 have S16_ := Same.trans S6_ S15_
 refine S_list0 (T_storeN (vs := [(Value.int .i64 x8_.rev_Main), (Value.int .i64 x8_.rev_Sub), (Value.int .i64 x8_.created_Main), (Value.int .i64 x8_.created_Sub), (Value.int .i64 x8_.ver), (Value.bool x8_.gone)]) rfl rfl z66 rfl (by simp [Value.oneCell']) H14_ 0 rfl (Nat.le_of_ble_eq_true (by rfl)) ?_)
 intro w17_ S19_ H18_
 have S20_ := Same.trans S16_ S19_
 refine wpList_nil ?_
 refine (X_then (hK7_ _ _ ?_))
 clear hK7_
 refine C_seq (fun K21_ hK21_ => ?_)
 refine A_start (S := fun w => Rd b12_ [(Value.int .i64 x8_.rev_Main), (Value.int .i64 x8_.rev_Sub), (Value.int .i64 x8_.created_Main), (Value.int .i64 x8_.created_Sub), (Value.int .i64 x8_.ver), (Value.bool x8_.gone)] w ∧ Rd b2_ [(Value.int .i64 m), (Value.int .i64 s)] w ∧ Sub R (hp w)) (N := 13) foll rfl rfl ?_
 have H22_ := Holds.drew_ H18_
 have hq23_ := And.intro (Holds.rd H22_ 0 rfl) (And.intro (Holds.rd H22_ 1 rfl) ((Holds.ro_at H22_ 2 rfl)))
 refine A_tk 1 (v := v) rfl (by kernel_rfl) (fun w hS => x_move rfl) hq23_ ?_
 refine A_tk 3 (v := (Value.agg #[(Value.int .i64 m), (Value.int .i64 s)])) rfl (by kernel_rfl) (fun w hS => x_loadN (vs := [(Value.int .i64 m), (Value.int .i64 s)]) rfl Try.underlying31 rfl z31 rfl (Rd.cells hS.2.1 0 rfl)) hq23_ ?_
 refine A_tk 4 (v := (Value.pointer (some ⟨b12_, 2, none⟩))) rfl (by kernel_rfl) (fun w hS => by kernel_rfl) hq23_ ?_
 refine A_tk 5 (v := (Value.agg #[(Value.int .i64 x8_.created_Main), (Value.int .i64 x8_.created_Sub)])) rfl (by kernel_rfl) (fun w hS => x_loadN (vs := [(Value.int .i64 x8_.created_Main), (Value.int .i64 x8_.created_Sub)]) rfl Try.underlying31 rfl z31 rfl (Rd.cells hS.1 2 rfl)) hq23_ ?_
 refine A_tk 6 (v := (Value.pointer (some ⟨b12_, 4, none⟩))) rfl (by kernel_rfl) (fun w hS => by kernel_rfl) hq23_ ?_
 refine A_tk 7 (v := (Value.int .i64 x8_.ver)) rfl (by kernel_rfl) (fun w hS => x_load1 rfl Try.underlying2 rfl (hS.1 4 (Value.int .i64 x8_.ver) rfl)) hq23_ ?_
 refine A_tk 8 (v := (Value.int .i64 (x8_.ver + 1))) rfl (by kernel_rfl) (fun w hS => x_bin rfl rfl (ib_add (IntWalk.i64_in _ (by omega)))) hq23_ ?_
 refine A_tk 9 (v := (Value.agg #[(Value.int .i64 m), (Value.int .i64 s), (Value.int .i64 x8_.created_Main), (Value.int .i64 x8_.created_Sub), (Value.int .i64 (x8_.ver + 1)), (Value.bool true)])) rfl (by kernel_rfl) (fun w hS => by kernel_rfl) hq23_ ?_
 refine A_ready (i := 0) (rs := [10]) (by kernel_rfl) ?_
 refine AllR.cons ?_ ?_
 ·skip
  refine A_op (ls' := #[true, true, false, true, true, true, true, true, true, true, false, false, false]) rfl (by kernel_rfl) (T_new (obj := .cells #[] 66) (f := fun b__ => .slice (some ⟨b__, 0, none⟩) 0 0) (A := fun b__ => cl b__ 66 []) (by kernel_rfl) (fun l h => h.alloc _ _) H22_ ?_)
  intro b24_ w25_ S27_ H26_
  have S28_ := Same.trans (Same.trans S20_ (Same.drew _)) S27_
  refine ⟨⟨Holds.rd H26_ 1 rfl, Holds.rd H26_ 2 rfl, (Holds.ro_at H26_ 3 rfl)⟩, ?_⟩
  refine A_ready (i := 2) (rs := [10]) (by kernel_rfl) ?_
  refine AllR.cons ?_ ?_
  ·skip
   have H29_ : Holds w25_ (cl b24_ 66 ([] ++ [] ++ []) :: cl b12_ 66 [(Value.int .i64 x8_.rev_Main), (Value.int .i64 x8_.rev_Sub), (Value.int .i64 x8_.created_Main), (Value.int .i64 x8_.created_Sub), (Value.int .i64 x8_.ver), (Value.bool x8_.gone)] :: cl b2_ 31 [(Value.int .i64 m), (Value.int .i64 s)] :: ro R :: F) := cast1 (P := fun (c__ : List Value) => Holds w25_ (cl b24_ 66 c__ :: cl b12_ 66 [(Value.int .i64 x8_.rev_Main), (Value.int .i64 x8_.rev_Sub), (Value.int .i64 x8_.created_Main), (Value.int .i64 x8_.created_Sub), (Value.int .i64 x8_.ver), (Value.bool x8_.gone)] :: cl b2_ 31 [(Value.int .i64 m), (Value.int .i64 s)] :: ro R :: F)) (by kernel_rfl : [] = [] ++ [] ++ []) H26_
   have H30_ : Holds w25_ (sl 66 6 (Value.slice (some ⟨b24_, 0, none⟩) 0 0) 0 [] :: cl b12_ 66 [(Value.int .i64 x8_.rev_Main), (Value.int .i64 x8_.rev_Sub), (Value.int .i64 x8_.created_Main), (Value.int .i64 x8_.created_Sub), (Value.int .i64 x8_.ver), (Value.bool x8_.gone)] :: cl b2_ 31 [(Value.int .i64 m), (Value.int .i64 s)] :: ro R :: F) := Holds.to_sl H29_ 0 [] [] (xs := []) (m := 0) (cap := 0) (sz := 6) rfl (by kernel_rfl) (by kernel_rfl) (by omega)
   refine A_op (ls' := #[true, true, true, true, true, true, true, true, true, true, false, false, false]) rfl (by kernel_rfl) (T_append rfl rfl Try.underlying23 z66 rfl (by decide) H30_ 0 rfl (RS.src hL (Holds.ro_at H30_ 3 rfl) Try.underlying23 (ones_VR _)) (by first | omega | (simp only [List.length_append, List.length_cons, List.length_nil]; omega)) ?_)
   intro v31_ w32_ S34_ H33_
   replace H33_ : Holds w32_ (sl 66 6 v31_ (0 + (List.length L)) ([] ++ (L.flatMap VR.cells)) :: cl b12_ 66 [(Value.int .i64 x8_.rev_Main), (Value.int .i64 x8_.rev_Sub), (Value.int .i64 x8_.created_Main), (Value.int .i64 x8_.created_Sub), (Value.int .i64 x8_.ver), (Value.bool x8_.gone)] :: cl b2_ 31 [(Value.int .i64 m), (Value.int .i64 s)] :: ro R :: F) := H33_
   have S35_ := Same.trans S28_ S34_
   refine ⟨⟨Holds.rd H33_ 1 rfl, Holds.rd H33_ 2 rfl, (Holds.ro_at H33_ 3 rfl)⟩, ?_⟩
   refine A_ready (i := 10) (rs := []) (by kernel_rfl) ?_
   refine AllR.cons ?_ AllR.nil
   refine A_op (ls' := #[true, true, true, true, true, true, true, true, true, true, true, false, false]) rfl (by kernel_rfl) (T_new (obj := .cells #[(Value.int .i64 m), (Value.int .i64 s), (Value.int .i64 x8_.created_Main), (Value.int .i64 x8_.created_Sub), (Value.int .i64 (x8_.ver + 1)), (Value.bool true)] 66) (f := fun b__ => .slice (some ⟨b__, 0, none⟩) 1 1) (A := fun b__ => cl b__ 66 [(Value.int .i64 m), (Value.int .i64 s), (Value.int .i64 x8_.created_Main), (Value.int .i64 x8_.created_Sub), (Value.int .i64 (x8_.ver + 1)), (Value.bool true)]) (by kernel_rfl) (fun l h => h.alloc _ _) H33_ ?_)
   intro b36_ w37_ S39_ H38_
   have S40_ := Same.trans S35_ S39_
   refine ⟨⟨Holds.rd H38_ 2 rfl, Holds.rd H38_ 3 rfl, (Holds.ro_at H38_ 4 rfl)⟩, ?_⟩
   refine A_ready (i := 11) (rs := []) (by kernel_rfl) ?_
   refine AllR.cons ?_ AllR.nil
   refine A_op (ls' := #[true, true, true, true, true, true, true, true, true, true, true, true, false]) rfl (by kernel_rfl) (T_append rfl rfl Try.underlying23 z66 rfl (by decide) H38_ 1 rfl (Holds.cl_src H38_ 0 rfl Try.underlying23 (by simp [Value.oneCell']) rfl) (by first | omega | (simp only [List.length_append, List.length_cons, List.length_nil]; omega)) ?_)
   intro v41_ w42_ S44_ H43_
   have S45_ := Same.trans S40_ S44_
   refine ⟨⟨Holds.rd H43_ 2 rfl, Holds.rd H43_ 3 rfl, (Holds.ro_at H43_ 4 rfl)⟩, ?_⟩
   have hq46_ := And.intro (Holds.rd H43_ 2 rfl) (And.intro (Holds.rd H43_ 3 rfl) ((Holds.ro_at H43_ 4 rfl)))
   refine A_tk 12 (v := v41_) rfl (by kernel_rfl) (fun w hS => x_assign rfl) hq46_ ?_
   refine A_done (by kernel_rfl) ?_
   refine (X_then (hK21_ _ _ ?_))
   clear hK21_
   refine C_ret ?_
   refine R_any (v := v41_) (run_results1 rfl rfl) ?_
   have H47_ := Holds.resl H43_ 1 rfl ((by first | rfl | (simp_all [VR.cells, vPut, vEnd, VR.rv, RV.cells]; done) | (simp [VR.cells, vPut, vEnd, VR.rv, RV.cells]; done) | (simp; omega) | omega) : ([] ++ (L.flatMap VR.cells)) ++ [(Value.int .i64 m), (Value.int .i64 s), (Value.int .i64 x8_.created_Main), (Value.int .i64 x8_.created_Sub), (Value.int .i64 (x8_.ver + 1)), (Value.bool true)] = (L ++ [vEnd L m s]).flatMap VR.cells) ((by first | rfl | (simp_all [VR.cells, vPut, vEnd, VR.rv, RV.cells]; done) | (simp [VR.cells, vPut, vEnd, VR.rv, RV.cells]; done) | (simp; omega) | omega) : 0 + (List.length L) + 1 = (List.length (L ++ [vEnd L m s])))
   have H48_ : Holds w42_ (ro R :: sl 66 6 v41_ (List.length (L ++ [vEnd L m s])) ((L ++ [vEnd L m s]).flatMap VR.cells) :: F) := (Holds.pkF H47_ [4, 1] 3 :)
   exact ⟨_, _, rfl, ⟨v41_, rfl, rfl⟩, S45_, H48_⟩
  refine AllR.cons ?_ AllR.nil
  refine A_op (ls' := #[true, true, false, true, true, true, true, true, true, true, true, false, false]) rfl (by kernel_rfl) (T_new (obj := .cells #[(Value.int .i64 m), (Value.int .i64 s), (Value.int .i64 x8_.created_Main), (Value.int .i64 x8_.created_Sub), (Value.int .i64 (x8_.ver + 1)), (Value.bool true)] 66) (f := fun b__ => .slice (some ⟨b__, 0, none⟩) 1 1) (A := fun b__ => cl b__ 66 [(Value.int .i64 m), (Value.int .i64 s), (Value.int .i64 x8_.created_Main), (Value.int .i64 x8_.created_Sub), (Value.int .i64 (x8_.ver + 1)), (Value.bool true)]) (by kernel_rfl) (fun l h => h.alloc _ _) H26_ ?_)
  intro b49_ w50_ S52_ H51_
  have S53_ := Same.trans S28_ S52_
  refine ⟨⟨Holds.rd H51_ 2 rfl, Holds.rd H51_ 3 rfl, (Holds.ro_at H51_ 4 rfl)⟩, ?_⟩
  refine A_ready (i := 2) (rs := []) (by kernel_rfl) ?_
  refine AllR.cons ?_ AllR.nil
  have H54_ : Holds w50_ (cl b49_ 66 [(Value.int .i64 m), (Value.int .i64 s), (Value.int .i64 x8_.created_Main), (Value.int .i64 x8_.created_Sub), (Value.int .i64 (x8_.ver + 1)), (Value.bool true)] :: cl b24_ 66 ([] ++ [] ++ []) :: cl b12_ 66 [(Value.int .i64 x8_.rev_Main), (Value.int .i64 x8_.rev_Sub), (Value.int .i64 x8_.created_Main), (Value.int .i64 x8_.created_Sub), (Value.int .i64 x8_.ver), (Value.bool x8_.gone)] :: cl b2_ 31 [(Value.int .i64 m), (Value.int .i64 s)] :: ro R :: F) := cast1 (P := fun (c__ : List Value) => Holds w50_ (cl b49_ 66 [(Value.int .i64 m), (Value.int .i64 s), (Value.int .i64 x8_.created_Main), (Value.int .i64 x8_.created_Sub), (Value.int .i64 (x8_.ver + 1)), (Value.bool true)] :: cl b24_ 66 c__ :: cl b12_ 66 [(Value.int .i64 x8_.rev_Main), (Value.int .i64 x8_.rev_Sub), (Value.int .i64 x8_.created_Main), (Value.int .i64 x8_.created_Sub), (Value.int .i64 x8_.ver), (Value.bool x8_.gone)] :: cl b2_ 31 [(Value.int .i64 m), (Value.int .i64 s)] :: ro R :: F)) (by kernel_rfl : [] = [] ++ [] ++ []) H51_
  have H55_ : Holds w50_ (cl b49_ 66 [(Value.int .i64 m), (Value.int .i64 s), (Value.int .i64 x8_.created_Main), (Value.int .i64 x8_.created_Sub), (Value.int .i64 (x8_.ver + 1)), (Value.bool true)] :: sl 66 6 (Value.slice (some ⟨b24_, 0, none⟩) 0 0) 0 [] :: cl b12_ 66 [(Value.int .i64 x8_.rev_Main), (Value.int .i64 x8_.rev_Sub), (Value.int .i64 x8_.created_Main), (Value.int .i64 x8_.created_Sub), (Value.int .i64 x8_.ver), (Value.bool x8_.gone)] :: cl b2_ 31 [(Value.int .i64 m), (Value.int .i64 s)] :: ro R :: F) := Holds.to_sl H54_ 1 [] [] (xs := []) (m := 0) (cap := 0) (sz := 6) rfl (by kernel_rfl) (by kernel_rfl) (by omega)
  refine A_op (ls' := #[true, true, true, true, true, true, true, true, true, true, true, false, false]) rfl (by kernel_rfl) (T_append rfl rfl Try.underlying23 z66 rfl (by decide) H55_ 1 rfl (RS.src hL (Holds.ro_at H55_ 4 rfl) Try.underlying23 (ones_VR _)) (by first | omega | (simp only [List.length_append, List.length_cons, List.length_nil]; omega)) ?_)
  intro v56_ w57_ S59_ H58_
  have S60_ := Same.trans S53_ S59_
  refine ⟨⟨Holds.rd H58_ 2 rfl, Holds.rd H58_ 3 rfl, (Holds.ro_at H58_ 4 rfl)⟩, ?_⟩
  refine A_ready (i := 11) (rs := []) (by kernel_rfl) ?_
  refine AllR.cons ?_ AllR.nil
  refine A_op (ls' := #[true, true, true, true, true, true, true, true, true, true, true, true, false]) rfl (by kernel_rfl) (T_append rfl rfl Try.underlying23 z66 rfl (by decide) H58_ 1 rfl (Holds.cl_src H58_ 0 rfl Try.underlying23 (by simp [Value.oneCell']) rfl) (by first | omega | (simp only [List.length_append, List.length_cons, List.length_nil]; omega)) ?_)
  intro v61_ w62_ S64_ H63_
  replace H63_ : Holds w62_ (cl b49_ 66 [(Value.int .i64 m), (Value.int .i64 s), (Value.int .i64 x8_.created_Main), (Value.int .i64 x8_.created_Sub), (Value.int .i64 (x8_.ver + 1)), (Value.bool true)] :: sl 66 6 v61_ (0 + (List.length L) + 1) (([] ++ (L.flatMap VR.cells)) ++ [(Value.int .i64 m), (Value.int .i64 s), (Value.int .i64 x8_.created_Main), (Value.int .i64 x8_.created_Sub), (Value.int .i64 (x8_.ver + 1)), (Value.bool true)]) :: cl b12_ 66 [(Value.int .i64 x8_.rev_Main), (Value.int .i64 x8_.rev_Sub), (Value.int .i64 x8_.created_Main), (Value.int .i64 x8_.created_Sub), (Value.int .i64 x8_.ver), (Value.bool x8_.gone)] :: cl b2_ 31 [(Value.int .i64 m), (Value.int .i64 s)] :: ro R :: F) := H63_
  have S65_ := Same.trans S60_ S64_
  refine ⟨⟨Holds.rd H63_ 2 rfl, Holds.rd H63_ 3 rfl, (Holds.ro_at H63_ 4 rfl)⟩, ?_⟩
  have hq66_ := And.intro (Holds.rd H63_ 2 rfl) (And.intro (Holds.rd H63_ 3 rfl) ((Holds.ro_at H63_ 4 rfl)))
  refine A_tk 12 (v := v61_) rfl (by kernel_rfl) (fun w hS => x_assign rfl) hq66_ ?_
  refine A_done (by kernel_rfl) ?_
  refine (X_then (hK21_ _ _ ?_))
  clear hK21_
  refine C_ret ?_
  refine R_any (v := v61_) (run_results1 rfl rfl) ?_
  have H67_ := Holds.resl H63_ 1 rfl ((by first | rfl | (simp_all [VR.cells, vPut, vEnd, VR.rv, RV.cells]; done) | (simp [VR.cells, vPut, vEnd, VR.rv, RV.cells]; done) | (simp; omega) | omega) : ([] ++ (L.flatMap VR.cells)) ++ [(Value.int .i64 m), (Value.int .i64 s), (Value.int .i64 x8_.created_Main), (Value.int .i64 x8_.created_Sub), (Value.int .i64 (x8_.ver + 1)), (Value.bool true)] = (L ++ [vEnd L m s]).flatMap VR.cells) ((by first | rfl | (simp_all [VR.cells, vPut, vEnd, VR.rv, RV.cells]; done) | (simp [VR.cells, vPut, vEnd, VR.rv, RV.cells]; done) | (simp; omega) | omega) : 0 + (List.length L) + 1 = (List.length (L ++ [vEnd L m s])))
  have H68_ : Holds w62_ (ro R :: sl 66 6 v61_ (List.length (L ++ [vEnd L m s])) ((L ++ [vEnd L m s]).flatMap VR.cells) :: F) := (Holds.pkF H67_ [4, 1] 3 :)
  exact ⟨_, _, rfl, ⟨v61_, rfl, rfl⟩, S65_, H68_⟩
 refine AllR.cons ?_ AllR.nil
 refine A_op (ls' := #[false, true, false, true, true, true, true, true, true, true, true, false, false]) rfl (by kernel_rfl) (T_new (obj := .cells #[(Value.int .i64 m), (Value.int .i64 s), (Value.int .i64 x8_.created_Main), (Value.int .i64 x8_.created_Sub), (Value.int .i64 (x8_.ver + 1)), (Value.bool true)] 66) (f := fun b__ => .slice (some ⟨b__, 0, none⟩) 1 1) (A := fun b__ => cl b__ 66 [(Value.int .i64 m), (Value.int .i64 s), (Value.int .i64 x8_.created_Main), (Value.int .i64 x8_.created_Sub), (Value.int .i64 (x8_.ver + 1)), (Value.bool true)]) (by kernel_rfl) (fun l h => h.alloc _ _) H22_ ?_)
 intro b69_ w70_ S72_ H71_
 have S73_ := Same.trans (Same.trans S20_ (Same.drew _)) S72_
 refine ⟨⟨Holds.rd H71_ 1 rfl, Holds.rd H71_ 2 rfl, (Holds.ro_at H71_ 3 rfl)⟩, ?_⟩
 refine A_ready (i := 0) (rs := []) (by kernel_rfl) ?_
 refine AllR.cons ?_ AllR.nil
 refine A_op (ls' := #[true, true, false, true, true, true, true, true, true, true, true, false, false]) rfl (by kernel_rfl) (T_new (obj := .cells #[] 66) (f := fun b__ => .slice (some ⟨b__, 0, none⟩) 0 0) (A := fun b__ => cl b__ 66 []) (by kernel_rfl) (fun l h => h.alloc _ _) H71_ ?_)
 intro b74_ w75_ S77_ H76_
 have S78_ := Same.trans S73_ S77_
 refine ⟨⟨Holds.rd H76_ 2 rfl, Holds.rd H76_ 3 rfl, (Holds.ro_at H76_ 4 rfl)⟩, ?_⟩
 refine A_ready (i := 2) (rs := []) (by kernel_rfl) ?_
 refine AllR.cons ?_ AllR.nil
 have H79_ : Holds w75_ (cl b74_ 66 ([] ++ [] ++ []) :: cl b69_ 66 [(Value.int .i64 m), (Value.int .i64 s), (Value.int .i64 x8_.created_Main), (Value.int .i64 x8_.created_Sub), (Value.int .i64 (x8_.ver + 1)), (Value.bool true)] :: cl b12_ 66 [(Value.int .i64 x8_.rev_Main), (Value.int .i64 x8_.rev_Sub), (Value.int .i64 x8_.created_Main), (Value.int .i64 x8_.created_Sub), (Value.int .i64 x8_.ver), (Value.bool x8_.gone)] :: cl b2_ 31 [(Value.int .i64 m), (Value.int .i64 s)] :: ro R :: F) := cast1 (P := fun (c__ : List Value) => Holds w75_ (cl b74_ 66 c__ :: cl b69_ 66 [(Value.int .i64 m), (Value.int .i64 s), (Value.int .i64 x8_.created_Main), (Value.int .i64 x8_.created_Sub), (Value.int .i64 (x8_.ver + 1)), (Value.bool true)] :: cl b12_ 66 [(Value.int .i64 x8_.rev_Main), (Value.int .i64 x8_.rev_Sub), (Value.int .i64 x8_.created_Main), (Value.int .i64 x8_.created_Sub), (Value.int .i64 x8_.ver), (Value.bool x8_.gone)] :: cl b2_ 31 [(Value.int .i64 m), (Value.int .i64 s)] :: ro R :: F)) (by kernel_rfl : [] = [] ++ [] ++ []) H76_
 have H80_ : Holds w75_ (sl 66 6 (Value.slice (some ⟨b74_, 0, none⟩) 0 0) 0 [] :: cl b69_ 66 [(Value.int .i64 m), (Value.int .i64 s), (Value.int .i64 x8_.created_Main), (Value.int .i64 x8_.created_Sub), (Value.int .i64 (x8_.ver + 1)), (Value.bool true)] :: cl b12_ 66 [(Value.int .i64 x8_.rev_Main), (Value.int .i64 x8_.rev_Sub), (Value.int .i64 x8_.created_Main), (Value.int .i64 x8_.created_Sub), (Value.int .i64 x8_.ver), (Value.bool x8_.gone)] :: cl b2_ 31 [(Value.int .i64 m), (Value.int .i64 s)] :: ro R :: F) := Holds.to_sl H79_ 0 [] [] (xs := []) (m := 0) (cap := 0) (sz := 6) rfl (by kernel_rfl) (by kernel_rfl) (by omega)
 refine A_op (ls' := #[true, true, true, true, true, true, true, true, true, true, true, false, false]) rfl (by kernel_rfl) (T_append rfl rfl Try.underlying23 z66 rfl (by decide) H80_ 0 rfl (RS.src hL (Holds.ro_at H80_ 4 rfl) Try.underlying23 (ones_VR _)) (by first | omega | (simp only [List.length_append, List.length_cons, List.length_nil]; omega)) ?_)
 intro v81_ w82_ S84_ H83_
 replace H83_ : Holds w82_ (sl 66 6 v81_ (0 + (List.length L)) ([] ++ (L.flatMap VR.cells)) :: cl b69_ 66 [(Value.int .i64 m), (Value.int .i64 s), (Value.int .i64 x8_.created_Main), (Value.int .i64 x8_.created_Sub), (Value.int .i64 (x8_.ver + 1)), (Value.bool true)] :: cl b12_ 66 [(Value.int .i64 x8_.rev_Main), (Value.int .i64 x8_.rev_Sub), (Value.int .i64 x8_.created_Main), (Value.int .i64 x8_.created_Sub), (Value.int .i64 x8_.ver), (Value.bool x8_.gone)] :: cl b2_ 31 [(Value.int .i64 m), (Value.int .i64 s)] :: ro R :: F) := H83_
 have S85_ := Same.trans S78_ S84_
 refine ⟨⟨Holds.rd H83_ 2 rfl, Holds.rd H83_ 3 rfl, (Holds.ro_at H83_ 4 rfl)⟩, ?_⟩
 refine A_ready (i := 11) (rs := []) (by kernel_rfl) ?_
 refine AllR.cons ?_ AllR.nil
 refine A_op (ls' := #[true, true, true, true, true, true, true, true, true, true, true, true, false]) rfl (by kernel_rfl) (T_append rfl rfl Try.underlying23 z66 rfl (by decide) H83_ 0 rfl (Holds.cl_src H83_ 1 rfl Try.underlying23 (by simp [Value.oneCell']) rfl) (by first | omega | (simp only [List.length_append, List.length_cons, List.length_nil]; omega)) ?_)
 intro v86_ w87_ S89_ H88_
 have S90_ := Same.trans S85_ S89_
 refine ⟨⟨Holds.rd H88_ 2 rfl, Holds.rd H88_ 3 rfl, (Holds.ro_at H88_ 4 rfl)⟩, ?_⟩
 have hq91_ := And.intro (Holds.rd H88_ 2 rfl) (And.intro (Holds.rd H88_ 3 rfl) ((Holds.ro_at H88_ 4 rfl)))
 refine A_tk 12 (v := v86_) rfl (by kernel_rfl) (fun w hS => x_assign rfl) hq91_ ?_
 refine A_done (by kernel_rfl) ?_
 refine (X_then (hK21_ _ _ ?_))
 clear hK21_
 refine C_ret ?_
 refine R_any (v := v86_) (run_results1 rfl rfl) ?_
 have H92_ := Holds.resl H88_ 0 rfl ((by first | rfl | (simp_all [VR.cells, vPut, vEnd, VR.rv, RV.cells]; done) | (simp [VR.cells, vPut, vEnd, VR.rv, RV.cells]; done) | (simp; omega) | omega) : ([] ++ (L.flatMap VR.cells)) ++ [(Value.int .i64 m), (Value.int .i64 s), (Value.int .i64 x8_.created_Main), (Value.int .i64 x8_.created_Sub), (Value.int .i64 (x8_.ver + 1)), (Value.bool true)] = (L ++ [vEnd L m s]).flatMap VR.cells) ((by first | rfl | (simp_all [VR.cells, vPut, vEnd, VR.rv, RV.cells]; done) | (simp [VR.cells, vPut, vEnd, VR.rv, RV.cells]; done) | (simp; omega) | omega) : 0 + (List.length L) + 1 = (List.length (L ++ [vEnd L m s])))
 have H93_ : Holds w87_ (ro R :: sl 66 6 v86_ (List.length (L ++ [vEnd L m s])) ((L ++ [vEnd L m s]).flatMap VR.cells) :: F) := (Holds.pkF H92_ [4, 0] 3 :)
 exact ⟨_, _, rfl, ⟨v86_, rfl, rfl⟩, S90_, H93_⟩
end Go.Proofs.Ytiblemgccgbhoaa
