/- Two dumps compared as keys' indices. -/
import Derived.Test.YtiblemgccgbhoaaKzA0
set_option linter.unusedVariables false
set_option linter.unusedSimpArgs false
namespace Go.Proofs.Ytiblemgccgbhoaa
open Go Go.RowKit Gw

set_option maxHeartbeats 4000000 in
theorem kSameKey (R : HP) (v1 v2 : Value) (N1 N2 : List GN) (ma na mb nb : Int) (h1 : RS R 4 v1 (List.length N1) (N1.flatMap GN.cells)) (h2 : RS R 4 v2 (List.length N2) (N2.flatMap GN.cells)) (hg1 : ∀ x ∈ N1, GOk R x) (hg2 : ∀ x ∈ N2, GOk R x) (hb1 : N1.length ≤ 100000) (hb2 : ∀ x ∈ N1, x.l.length ≤ 100000) (hb3 : N2.length ≤ 100000) (hb4 : ∀ x ∈ N2, x.l.length ≤ 100000) :
    Tri Try.prog 13 #[(Value.agg #[(Value.int .i64 ma), (Value.int .i64 na), v1]), (Value.agg #[(Value.int .i64 mb), (Value.int .i64 nb), v2])] R [] (fun v__ post__ => (v__ = (Value.bool true) ∧ post__ = [] ∧ ((ma = mb ∧ na = nb) ∧ N1.map GN.k = N2.map GN.k)) ∨ (v__ = (Value.bool false) ∧ post__ = [] ∧ (¬ ((ma = mb ∧ na = nb) ∧ N1.map GN.k = N2.map GN.k)))) := by
 refine Tri.into (n := 16) (al := [(Value.agg #[(Value.int .i64 ma), (Value.int .i64 na), v1]), (Value.agg #[(Value.int .i64 mb), (Value.int .i64 nb), v2])]) Try.func13 rfl Try.ntmps13 rfl rfl fun w F H => ?_
 replace H : Holds w (ro R :: F) := H
 refine C_seq (fun K1_ hK1_ => ?_)
 refine C_reg ?_
 refine S_list (T_box (v := (Value.agg #[(Value.int .i64 ma), (Value.int .i64 na), v1])) rfl H ?_)
 intro b2_ w3_ S5_ H4_
 have S6_ := Same.trans (Same.refl w) S5_
 refine S_list (T_box (v := (Value.agg #[(Value.int .i64 mb), (Value.int .i64 nb), v2])) rfl H4_ ?_)
 intro b7_ w8_ S10_ H9_
 have S11_ := Same.trans S6_ S10_
 refine S_list (T_val (v := (Value.bool false)) (x_assign rfl) ?_)
 refine wpList_nil ?_
 refine (X_then (hK1_ _ _ ?_))
 clear hK1_
 refine C_seq (fun K12_ hK12_ => ?_)
 refine A_start (S := fun w => Rd b7_ [(Value.int .i64 mb), (Value.int .i64 nb), v2] w ∧ Rd b2_ [(Value.int .i64 ma), (Value.int .i64 na), v1] w ∧ Sub R (hp w)) (N := 12) foll rfl rfl ?_
 have H13_ := Holds.drew_ H9_
 refine A_cut #[true, true, true, true, true, true, true, true, true, false, false, false] 3 (fun a__ w1__ => ∃ b15_ : Nat, ∃ R25_ : HP, ∃ v27_ : Value, ∃ N28_ : List GN, ∃ R51_ : HP, ∃ kb53_ : Nat, ∃ gv54_ : Value, ∃ lv55_ : Value, ∃ N056_ : List GN, ∃ T57_ : List GN, ∃ ll58_ : List RV, ∃ b73_ : Nat, ∃ R83_ : HP, ∃ v85_ : Value, ∃ N86_ : List GN, ∃ h : Env, a__ = mkA 16 (upd (upd (upd (upd h 4 (Value.bool false)) 9 (Value.agg #[(Value.pointer (some ⟨kb53_, 0, none⟩))])) 11 (Value.slice (some ⟨b73_, 0, none⟩) 1 1)) 13 (Value.agg #[(Value.int .i64 mb), (Value.int .i64 nb), v85_])) [] ∧ Holds w1__ (ro R83_ :: cl b73_ 5 [(Value.int .u8 107)] :: cl kb53_ 104 [(Value.slice (some ⟨b15_, 0, none⟩) 1 1), (Value.int .i64 ma), (Value.int .i64 na), gv54_] :: sl 106 4 gv54_ (List.length (N056_ ++ T57_)) ((N056_ ++ T57_).flatMap GN.cells) :: sl 58 2 lv55_ (List.length ll58_) (ll58_.flatMap RV.cells) :: cl b15_ 5 [(Value.int .u8 107)] :: cl b7_ 34 [(Value.int .i64 mb), (Value.int .i64 nb), v2] :: cl b2_ 34 [(Value.int .i64 ma), (Value.int .i64 na), v1] :: F) ∧ Same w w1__ ∧ (Sub R R25_) ∧ (N28_.map GN.m = N1.map GN.m) ∧ (RS R25_ 4 v27_ (List.length N28_) (N28_.flatMap GN.cells)) ∧ (∀ x ∈ N28_, GOk R25_ x) ∧ (List.length N28_ = List.length N1) ∧ (∀ x ∈ N28_, x.l.length ≤ 100000) ∧ (N28_.map GN.k = N1.map GN.k) ∧ (Sub R R51_) ∧ (Sub R25_ R51_) ∧ ((N056_ ++ T57_).map GN.m = N28_.map GN.m) ∧ (∀ x ∈ N056_, GOk R51_ x) ∧ (Tlk T57_ lv55_ ll58_) ∧ (T57_ = [] → N056_ = []) ∧ (List.length (N056_ ++ T57_) = List.length N28_) ∧ (∀ x ∈ (N056_ ++ T57_), x.l.length ≤ 100000) ∧ ((N056_ ++ T57_).map GN.k = N1.map GN.k) ∧ (Sub R R83_) ∧ (Sub R25_ R83_) ∧ (Sub R51_ R83_) ∧ (N86_.map GN.m = N2.map GN.m) ∧ (RS R83_ 4 v85_ (List.length N86_) (N86_.flatMap GN.cells)) ∧ (∀ x ∈ N86_, GOk R83_ x) ∧ (List.length N86_ = List.length N2) ∧ (∀ x ∈ N86_, x.l.length ≤ 100000) ∧ (N86_.map GN.k = N2.map GN.k)) ?_ ?_
 ·rintro _ w472_ ⟨b15_, R25_, v27_, N28_, R51_, kb53_, gv54_, lv55_, N056_, T57_, ll58_, b73_, R83_, v85_, N86_, h, rfl, H473_, S474_, hs24_, he29_, he30_, he31_, hdl1, hda1, hdk1, hz_R_R51_, hs50_, he59_, he60_, he61_, he62_, hzl1, hza1, hzk1, hz_R_R83_, hz_R25__R83_, hs82_, he87_, he88_, he89_, hdl2, hda2, hdk2⟩
  refine A_ready (i := 9) (rs := []) (by kernel_rfl) ?_
  refine AllR.cons ?_ AllR.nil
  refine A_op (ls' := #[true, true, true, true, true, true, true, true, true, true, false, false]) rfl (by kernel_rfl) (T_callW (al := [(Value.slice (some ⟨b73_, 0, none⟩) 1 1), (Value.agg #[(Value.int .i64 mb), (Value.int .i64 nb), v85_])]) rfl rfl cb19 (Calls.into (n := 9) (al := [(Value.slice (some ⟨b73_, 0, none⟩) 1 1), (Value.agg #[(Value.int .i64 mb), (Value.int .i64 nb), v85_])]) Try.func19 rfl Try.ntmps19 rfl rfl ?_))
  refine C_seq (fun K475_ hK475_ => ?_)
  refine C_reg ?_
  refine S_list (T_box (v := (Value.agg #[(Value.int .i64 mb), (Value.int .i64 nb), v85_])) rfl H473_ ?_)
  intro b476_ w477_ S479_ H478_
  have S480_ := Same.trans S474_ S479_
  refine S_list (T_alloc z55 H478_ ?_)
  intro b481_ w482_ S484_ H483_
  replace H483_ : Holds w482_ (cl b481_ 55 [(Value.pointer none)] :: cl b476_ 61 [(Value.int .i64 mb), (Value.int .i64 nb), v85_] :: ro R83_ :: cl b73_ 5 [(Value.int .u8 107)] :: cl kb53_ 104 [(Value.slice (some ⟨b15_, 0, none⟩) 1 1), (Value.int .i64 ma), (Value.int .i64 na), gv54_] :: sl 106 4 gv54_ (List.length (N056_ ++ T57_)) ((N056_ ++ T57_).flatMap GN.cells) :: sl 58 2 lv55_ (List.length ll58_) (ll58_.flatMap RV.cells) :: cl b15_ 5 [(Value.int .u8 107)] :: cl b7_ 34 [(Value.int .i64 mb), (Value.int .i64 nb), v2] :: cl b2_ 34 [(Value.int .i64 ma), (Value.int .i64 na), v1] :: F) := H483_
  have S485_ := Same.trans S480_ S484_
  refine wpList_nil ?_
  refine (X_then (hK475_ _ _ ?_))
  clear hK475_
  refine C_seq (fun K486_ hK486_ => ?_)
  refine C_reg ?_
  refine S_list (T_val (v := (Value.slice (some ⟨b73_, 0, none⟩) 1 1)) (x_move rfl) ?_)
  refine S_list (T_val (v := (Value.agg #[(Value.int .i64 mb), (Value.int .i64 nb), v85_])) (x_loadN (vs := [(Value.int .i64 mb), (Value.int .i64 nb), v85_]) rfl Try.underlying61 rfl z61 rfl (Rd.cells (Holds.rd H483_ 1 rfl) 0 rfl)) ?_)
  have H500_ := ((Holds.bring H483_ 2 rfl) :)
  refine S_list (T_callG (al := [(Value.slice (some ⟨b73_, 0, none⟩) 1 1), (Value.agg #[(Value.int .i64 mb), (Value.int .i64 nb), v85_])]) (pre := []) rfl rfl cb32 (kZzIn R83_ (some ⟨b73_, 0, none⟩) 1 1 mb nb v85_ N86_ he88_ (he89_) (by omega) (hda2)) H500_ ?_)
  rintro R488_ v489_ p504_ w501_ hs487_ ⟨kb490_, gv491_, lv492_, N0493_, T494_, ll495_, rfl, rfl, he496_, he497_, he498_, he499_⟩ S503_ H502_
  have S505_ := Same.trans S485_ S503_
  have hz_R_R488_ := Sub.trans' hz_R_R83_ hs487_
  have hz_R25__R488_ := Sub.trans' hz_R25__R83_ hs487_
  have hz_R51__R488_ := Sub.trans' hs82_ hs487_
  have hzl2 := map_m_len he496_
  have hza2 := map_m_all he496_ hda2
  have hzk2 := (map_m_k he496_).trans hdk2
  refine S_list (T_val (v := (Value.agg #[(Value.pointer (some ⟨kb490_, 0, none⟩))])) (by kernel_rfl) ?_)
  refine S_list0 (T_storeN (vs := [(Value.pointer (some ⟨kb490_, 0, none⟩))]) rfl rfl z55 rfl (by simp [Value.oneCell']) H502_ 4 rfl (Nat.le_of_ble_eq_true (by rfl)) ?_)
  intro w506_ S508_ H507_
  replace H507_ : Holds w506_ (ro R488_ :: cl kb490_ 104 [(Value.slice (some ⟨b73_, 0, none⟩) 1 1), (Value.int .i64 mb), (Value.int .i64 nb), gv491_] :: sl 106 4 gv491_ (List.length (N0493_ ++ T494_)) ((N0493_ ++ T494_).flatMap GN.cells) :: sl 58 2 lv492_ (List.length ll495_) (ll495_.flatMap RV.cells) :: cl b481_ 55 [(Value.pointer (some ⟨kb490_, 0, none⟩))] :: cl b476_ 61 [(Value.int .i64 mb), (Value.int .i64 nb), v85_] :: cl b73_ 5 [(Value.int .u8 107)] :: cl kb53_ 104 [(Value.slice (some ⟨b15_, 0, none⟩) 1 1), (Value.int .i64 ma), (Value.int .i64 na), gv54_] :: sl 106 4 gv54_ (List.length (N056_ ++ T57_)) ((N056_ ++ T57_).flatMap GN.cells) :: sl 58 2 lv55_ (List.length ll58_) (ll58_.flatMap RV.cells) :: cl b15_ 5 [(Value.int .u8 107)] :: cl b7_ 34 [(Value.int .i64 mb), (Value.int .i64 nb), v2] :: cl b2_ 34 [(Value.int .i64 ma), (Value.int .i64 na), v1] :: F) := H507_
  have S509_ := Same.trans S505_ S508_
  refine wpList_nil ?_
  refine (X_then (hK486_ _ _ ?_))
  clear hK486_
  refine C_ret ?_
  refine R_any (v := (Value.agg #[(Value.pointer (some ⟨kb490_, 0, none⟩))])) (run_results1 rfl ⟨_, rfl, load_resN Try.underlying55 rfl z55 rfl (vs := [(Value.pointer (some ⟨kb490_, 0, none⟩))]) (Holds.cl_cells H507_ 4 rfl 0 rfl)⟩) ⟨_, rfl, ?_⟩
  refine ⟨⟨Holds.rd H507_ 11 rfl, Holds.rd H507_ 12 rfl, (Sub.trans' hz_R_R488_ (Holds.ro_at H507_ 0 rfl))⟩, ?_⟩
  refine A_ready (i := 10) (rs := []) (by kernel_rfl) ?_
  refine AllR.cons ?_ AllR.nil
  refine A_op (ls' := #[true, true, true, true, true, true, true, true, true, true, true, false]) rfl (by kernel_rfl) (T_callW (al := [(Value.agg #[(Value.pointer (some ⟨kb53_, 0, none⟩))]), (Value.agg #[(Value.pointer (some ⟨kb490_, 0, none⟩))])]) rfl rfl cb25 (Calls.into (n := 10) (al := [(Value.agg #[(Value.pointer (some ⟨kb53_, 0, none⟩))]), (Value.agg #[(Value.pointer (some ⟨kb490_, 0, none⟩))])]) Try.func25 rfl Try.ntmps25 rfl rfl ?_))
  refine C_seq (fun K510_ hK510_ => ?_)
  refine C_reg ?_
  refine S_list (T_box (v := (Value.agg #[(Value.pointer (some ⟨kb53_, 0, none⟩))])) rfl H507_ ?_)
  intro b511_ w512_ S514_ H513_
  have S515_ := Same.trans S509_ S514_
  refine S_list (T_box (v := (Value.agg #[(Value.pointer (some ⟨kb490_, 0, none⟩))])) rfl H513_ ?_)
  intro b516_ w517_ S519_ H518_
  have S520_ := Same.trans S515_ S519_
  refine S_list (T_val (v := (Value.bool false)) (x_assign rfl) ?_)
  refine wpList_nil ?_
  refine (X_then (hK510_ _ _ ?_))
  clear hK510_
  refine C_seq (fun K521_ hK521_ => ?_)
  refine C_reg ?_
  refine S_list (T_val (v := (Value.pointer (some ⟨b511_, 0, none⟩))) (by kernel_rfl) ?_)
  refine S_list (T_val (v := (Value.pointer (some ⟨kb53_, 0, none⟩))) (x_load1 rfl Try.underlying53 rfl ((Holds.rd H518_ 1 rfl) 0 (Value.pointer (some ⟨kb53_, 0, none⟩)) rfl)) ?_)
  refine S_list (T_val (v := (Value.pointer (some ⟨b516_, 0, none⟩))) (by kernel_rfl) ?_)
  refine S_list (T_val (v := (Value.pointer (some ⟨kb490_, 0, none⟩))) (x_load1 rfl Try.underlying53 rfl ((Holds.rd H518_ 0 rfl) 0 (Value.pointer (some ⟨kb490_, 0, none⟩)) rfl)) ?_)
  have H522_ := ((Holds.bring (Holds.bring H518_ 11 rfl) 3 rfl) :)
  replace H522_ : Holds w517_ (ro R488_ :: sl 58 2 lv55_ (List.length ll58_) (ll58_.flatMap RV.cells) :: cl b516_ 55 [(Value.pointer (some ⟨kb490_, 0, none⟩))] :: cl b511_ 55 [(Value.pointer (some ⟨kb53_, 0, none⟩))] :: cl kb490_ 104 [(Value.slice (some ⟨b73_, 0, none⟩) 1 1), (Value.int .i64 mb), (Value.int .i64 nb), gv491_] :: sl 106 4 gv491_ (List.length (N0493_ ++ T494_)) ((N0493_ ++ T494_).flatMap GN.cells) :: sl 58 2 lv492_ (List.length ll495_) (ll495_.flatMap RV.cells) :: cl b481_ 55 [(Value.pointer (some ⟨kb490_, 0, none⟩))] :: cl b476_ 61 [(Value.int .i64 mb), (Value.int .i64 nb), v85_] :: cl b73_ 5 [(Value.int .u8 107)] :: cl kb53_ 104 [(Value.slice (some ⟨b15_, 0, none⟩) 1 1), (Value.int .i64 ma), (Value.int .i64 na), gv54_] :: sl 106 4 gv54_ (List.length (N056_ ++ T57_)) ((N056_ ++ T57_).flatMap GN.cells) :: cl b15_ 5 [(Value.int .u8 107)] :: cl b7_ 34 [(Value.int .i64 mb), (Value.int .i64 nb), v2] :: cl b2_ 34 [(Value.int .i64 ma), (Value.int .i64 na), v1] :: F) := H522_
  obtain ⟨R523_, hs524_, ⟨R525_, ha526_, hs527_⟩, H528_⟩ := Holds.gift H522_
  have hz_R_R523_ := Sub.trans' hz_R_R488_ hs524_
  have hz_R25__R523_ := Sub.trans' hz_R25__R488_ hs524_
  have hz_R51__R523_ := Sub.trans' hz_R51__R488_ hs524_
  have hz_R83__R523_ := Sub.trans' hs487_ hs524_
  have hr529_ : RS R523_ 2 lv55_ (List.length ll58_) (ll58_.flatMap RV.cells) := (sl_RS ha526_ (Sub.rfl' _)).mono hs527_
  have H530_ := ((Holds.bring (Holds.bring H528_ 5 rfl) 1 rfl) :)
  obtain ⟨R531_, hs532_, ⟨R533_, ha534_, hs535_⟩, H536_⟩ := Holds.gift H530_
  replace H536_ : Holds w517_ (ro R531_ :: cl b516_ 55 [(Value.pointer (some ⟨kb490_, 0, none⟩))] :: cl b511_ 55 [(Value.pointer (some ⟨kb53_, 0, none⟩))] :: cl kb490_ 104 [(Value.slice (some ⟨b73_, 0, none⟩) 1 1), (Value.int .i64 mb), (Value.int .i64 nb), gv491_] :: sl 106 4 gv491_ (List.length (N0493_ ++ T494_)) ((N0493_ ++ T494_).flatMap GN.cells) :: cl b481_ 55 [(Value.pointer (some ⟨kb490_, 0, none⟩))] :: cl b476_ 61 [(Value.int .i64 mb), (Value.int .i64 nb), v85_] :: cl b73_ 5 [(Value.int .u8 107)] :: cl kb53_ 104 [(Value.slice (some ⟨b15_, 0, none⟩) 1 1), (Value.int .i64 ma), (Value.int .i64 na), gv54_] :: sl 106 4 gv54_ (List.length (N056_ ++ T57_)) ((N056_ ++ T57_).flatMap GN.cells) :: cl b15_ 5 [(Value.int .u8 107)] :: cl b7_ 34 [(Value.int .i64 mb), (Value.int .i64 nb), v2] :: cl b2_ 34 [(Value.int .i64 ma), (Value.int .i64 na), v1] :: F) := H536_
  have hz_R_R531_ := Sub.trans' hz_R_R523_ hs532_
  have hz_R25__R531_ := Sub.trans' hz_R25__R523_ hs532_
  have hz_R51__R531_ := Sub.trans' hz_R51__R523_ hs532_
  have hz_R83__R531_ := Sub.trans' hz_R83__R523_ hs532_
  have hz_R488__R531_ := Sub.trans' hs524_ hs532_
  have hr537_ : RS R531_ 2 lv492_ (List.length ll495_) (ll495_.flatMap RV.cells) := (sl_RS ha534_ (Sub.rfl' _)).mono hs535_
  have H538_ := ((Holds.bring (Holds.bring H536_ 10 rfl) 1 rfl) :)
  obtain ⟨R539_, hs540_, ⟨R541_, ha542_, hs543_⟩, H544_⟩ := Holds.gift H538_
  have hz_R_R539_ := Sub.trans' hz_R_R531_ hs540_
  have hz_R25__R539_ := Sub.trans' hz_R25__R531_ hs540_
  have hz_R51__R539_ := Sub.trans' hz_R51__R531_ hs540_
  have hz_R83__R539_ := Sub.trans' hz_R83__R531_ hs540_
  have hz_R488__R539_ := Sub.trans' hz_R488__R531_ hs540_
  have hz_R523__R539_ := Sub.trans' hs532_ hs540_
  have hr545_ : RS R539_ 1 (Value.slice (some ⟨b15_, 0, none⟩) 1 1) 1 [(Value.int .u8 107)] := (RS.set_ (cl_RSn (sz := 1) ha542_ (Sub.rfl' _) (by rfl) (by omega)) rfl rfl).mono hs543_
  have H546_ := ((Holds.bring (Holds.bring H544_ 7 rfl) 1 rfl) :)
  replace H546_ : Holds w517_ (ro R539_ :: cl b73_ 5 [(Value.int .u8 107)] :: cl b516_ 55 [(Value.pointer (some ⟨kb490_, 0, none⟩))] :: cl b511_ 55 [(Value.pointer (some ⟨kb53_, 0, none⟩))] :: cl kb490_ 104 [(Value.slice (some ⟨b73_, 0, none⟩) 1 1), (Value.int .i64 mb), (Value.int .i64 nb), gv491_] :: sl 106 4 gv491_ (List.length (N0493_ ++ T494_)) ((N0493_ ++ T494_).flatMap GN.cells) :: cl b481_ 55 [(Value.pointer (some ⟨kb490_, 0, none⟩))] :: cl b476_ 61 [(Value.int .i64 mb), (Value.int .i64 nb), v85_] :: cl kb53_ 104 [(Value.slice (some ⟨b15_, 0, none⟩) 1 1), (Value.int .i64 ma), (Value.int .i64 na), gv54_] :: sl 106 4 gv54_ (List.length (N056_ ++ T57_)) ((N056_ ++ T57_).flatMap GN.cells) :: cl b7_ 34 [(Value.int .i64 mb), (Value.int .i64 nb), v2] :: cl b2_ 34 [(Value.int .i64 ma), (Value.int .i64 na), v1] :: F) := H546_
  obtain ⟨R547_, hs548_, ⟨R549_, ha550_, hs551_⟩, H552_⟩ := Holds.gift H546_
  have hz_R_R547_ := Sub.trans' hz_R_R539_ hs548_
  have hz_R25__R547_ := Sub.trans' hz_R25__R539_ hs548_
  have hz_R51__R547_ := Sub.trans' hz_R51__R539_ hs548_
  have hz_R83__R547_ := Sub.trans' hz_R83__R539_ hs548_
  have hz_R488__R547_ := Sub.trans' hz_R488__R539_ hs548_
  have hz_R523__R547_ := Sub.trans' hz_R523__R539_ hs548_
  have hz_R531__R547_ := Sub.trans' hs540_ hs548_
  have hr553_ : RS R547_ 1 (Value.slice (some ⟨b73_, 0, none⟩) 1 1) 1 [(Value.int .u8 107)] := (RS.set_ (cl_RSn (sz := 1) ha550_ (Sub.rfl' _) (by rfl) (by omega)) rfl rfl).mono hs551_
  have H554_ := ((Holds.bring (Holds.bring H552_ 8 rfl) 1 rfl) :)
  obtain ⟨R555_, hs556_, ⟨R557_, ha558_, hs559_⟩, H560_⟩ := Holds.gift H554_
  replace H560_ : Holds w517_ (ro R555_ :: cl b516_ 55 [(Value.pointer (some ⟨kb490_, 0, none⟩))] :: cl b511_ 55 [(Value.pointer (some ⟨kb53_, 0, none⟩))] :: cl kb490_ 104 [(Value.slice (some ⟨b73_, 0, none⟩) 1 1), (Value.int .i64 mb), (Value.int .i64 nb), gv491_] :: sl 106 4 gv491_ (List.length (N0493_ ++ T494_)) ((N0493_ ++ T494_).flatMap GN.cells) :: cl b481_ 55 [(Value.pointer (some ⟨kb490_, 0, none⟩))] :: cl b476_ 61 [(Value.int .i64 mb), (Value.int .i64 nb), v85_] :: cl kb53_ 104 [(Value.slice (some ⟨b15_, 0, none⟩) 1 1), (Value.int .i64 ma), (Value.int .i64 na), gv54_] :: cl b7_ 34 [(Value.int .i64 mb), (Value.int .i64 nb), v2] :: cl b2_ 34 [(Value.int .i64 ma), (Value.int .i64 na), v1] :: F) := H560_
  have hz_R_R555_ := Sub.trans' hz_R_R547_ hs556_
  have hz_R25__R555_ := Sub.trans' hz_R25__R547_ hs556_
  have hz_R51__R555_ := Sub.trans' hz_R51__R547_ hs556_
  have hz_R83__R555_ := Sub.trans' hz_R83__R547_ hs556_
  have hz_R488__R555_ := Sub.trans' hz_R488__R547_ hs556_
  have hz_R523__R555_ := Sub.trans' hz_R523__R547_ hs556_
  have hz_R531__R555_ := Sub.trans' hz_R531__R547_ hs556_
  have hz_R539__R555_ := Sub.trans' hs548_ hs556_
  have hr561_ : RS R555_ 4 gv54_ (List.length (N056_ ++ T57_)) ((N056_ ++ T57_).flatMap GN.cells) := (sl_RS ha558_ (Sub.rfl' _)).mono hs559_
  have H562_ := ((Holds.bring (Holds.bring H560_ 4 rfl) 1 rfl) :)
  obtain ⟨R563_, hs564_, ⟨R565_, ha566_, hs567_⟩, H568_⟩ := Holds.gift H562_
  have hz_R_R563_ := Sub.trans' hz_R_R555_ hs564_
  have hz_R25__R563_ := Sub.trans' hz_R25__R555_ hs564_
  have hz_R51__R563_ := Sub.trans' hz_R51__R555_ hs564_
  have hz_R83__R563_ := Sub.trans' hz_R83__R555_ hs564_
  have hz_R488__R563_ := Sub.trans' hz_R488__R555_ hs564_
  have hz_R523__R563_ := Sub.trans' hz_R523__R555_ hs564_
  have hz_R531__R563_ := Sub.trans' hz_R531__R555_ hs564_
  have hz_R539__R563_ := Sub.trans' hz_R539__R555_ hs564_
  have hz_R547__R563_ := Sub.trans' hs556_ hs564_
  have hr569_ : RS R563_ 4 gv491_ (List.length (N0493_ ++ T494_)) ((N0493_ ++ T494_).flatMap GN.cells) := (sl_RS ha566_ (Sub.rfl' _)).mono hs567_
  have H570_ := Holds.recl H568_ 6 rfl ((lcons (rfl : (Value.slice (some ⟨b15_, 0, none⟩) 1 1) = ((Value.slice (some ⟨b15_, 0, none⟩) 1 1))) rfl) : [(Value.slice (some ⟨b15_, 0, none⟩) 1 1), (Value.int .i64 ma), (Value.int .i64 na), gv54_] = [((Value.slice (some ⟨b15_, 0, none⟩) 1 1)), (Value.int .i64 ma), (Value.int .i64 na), gv54_])
  have H571_ := Holds.recl H570_ 3 rfl ((lcons (rfl : (Value.slice (some ⟨b73_, 0, none⟩) 1 1) = ((Value.slice (some ⟨b73_, 0, none⟩) 1 1))) rfl) : [(Value.slice (some ⟨b73_, 0, none⟩) 1 1), (Value.int .i64 mb), (Value.int .i64 nb), gv491_] = [((Value.slice (some ⟨b73_, 0, none⟩) 1 1)), (Value.int .i64 mb), (Value.int .i64 nb), gv491_])
  have H575_ := ((Holds.bring (Holds.bring (Holds.bring H571_ 3 rfl) 6 rfl) 2 rfl) :)
  replace H575_ : Holds w517_ (ro R563_ :: cl kb53_ 104 [((Value.slice (some ⟨b15_, 0, none⟩) 1 1)), (Value.int .i64 ma), (Value.int .i64 na), gv54_] :: cl kb490_ 104 [((Value.slice (some ⟨b73_, 0, none⟩) 1 1)), (Value.int .i64 mb), (Value.int .i64 nb), gv491_] :: cl b516_ 55 [(Value.pointer (some ⟨kb490_, 0, none⟩))] :: cl b511_ 55 [(Value.pointer (some ⟨kb53_, 0, none⟩))] :: cl b481_ 55 [(Value.pointer (some ⟨kb490_, 0, none⟩))] :: cl b476_ 61 [(Value.int .i64 mb), (Value.int .i64 nb), v85_] :: cl b7_ 34 [(Value.int .i64 mb), (Value.int .i64 nb), v2] :: cl b2_ 34 [(Value.int .i64 ma), (Value.int .i64 na), v1] :: F) := H575_
  refine S_list (T_call (al := [(Value.pointer (some ⟨kb53_, 0, none⟩)), (Value.pointer (some ⟨kb490_, 0, none⟩))]) (pre := [cl kb53_ 104 [((Value.slice (some ⟨b15_, 0, none⟩) 1 1)), (Value.int .i64 ma), (Value.int .i64 na), gv54_], cl kb490_ 104 [((Value.slice (some ⟨b73_, 0, none⟩) 1 1)), (Value.int .i64 mb), (Value.int .i64 nb), gv491_]]) rfl rfl cb51 (kKeyEqual R563_ kb53_ kb490_ (Value.slice (some ⟨b15_, 0, none⟩) 1 1) (Value.slice (some ⟨b73_, 0, none⟩) 1 1) [107] gv54_ gv491_ (N056_ ++ T57_) (N0493_ ++ T494_) ma na mb nb (RS.mono hr545_ hz_R539__R563_) (RS.mono hr553_ hz_R547__R563_) (RS.mono hr561_ hs564_) hr569_ (GOk_app he60_ hz_R51__R563_ he61_ (RS.mono hr529_ hz_R523__R563_)) (GOk_app he497_ hz_R488__R563_ he498_ (RS.mono hr537_ hz_R531__R563_)) (by omega) (hza1)) H575_ ?_)
  rintro v572_ p579_ w576_ hq580_ S578_ H577_
  rcases hq580_ with ⟨rfl, rfl, he573_⟩ | ⟨rfl, rfl, he574_⟩
  ·skip
   have S581_ := Same.trans S520_ S578_
   refine S_list (T_val (v := (Value.bool true)) (x_assign rfl) ?_)
   refine wpList_nil ?_
   refine (X_then (hK521_ _ _ ?_))
   clear hK521_
   refine C_ret ?_
   refine R_any (v := (Value.bool true)) (run_results1 rfl rfl) ⟨_, rfl, ?_⟩
   refine ⟨⟨Holds.rd H577_ 7 rfl, Holds.rd H577_ 8 rfl, (Sub.trans' hz_R_R563_ (Holds.ro_at H577_ 0 rfl))⟩, ?_⟩
   have hq583_ := And.intro (Holds.rd H577_ 7 rfl) (And.intro (Holds.rd H577_ 8 rfl) ((Sub.trans' hz_R_R563_ (Holds.ro_at H577_ 0 rfl))))
   refine A_tk 11 (v := (Value.bool true)) rfl (by kernel_rfl) (fun w hS => x_assign rfl) hq583_ ?_
   refine A_done (by kernel_rfl) ?_
   refine (X_then (hK12_ _ _ ?_))
   clear hK12_
   refine C_ret ?_
   refine R_any (v := (Value.bool true)) (run_results1 rfl rfl) ?_
   have H584_ : Holds w576_ (ro R :: cl kb53_ 104 [((Value.slice (some ⟨b15_, 0, none⟩) 1 1)), (Value.int .i64 ma), (Value.int .i64 na), gv54_] :: cl kb490_ 104 [((Value.slice (some ⟨b73_, 0, none⟩) 1 1)), (Value.int .i64 mb), (Value.int .i64 nb), gv491_] :: cl b516_ 55 [(Value.pointer (some ⟨kb490_, 0, none⟩))] :: cl b511_ 55 [(Value.pointer (some ⟨kb53_, 0, none⟩))] :: cl b481_ 55 [(Value.pointer (some ⟨kb490_, 0, none⟩))] :: cl b476_ 61 [(Value.int .i64 mb), (Value.int .i64 nb), v85_] :: cl b7_ 34 [(Value.int .i64 mb), (Value.int .i64 nb), v2] :: cl b2_ 34 [(Value.int .i64 ma), (Value.int .i64 na), v1] :: F) := Holds.ro_less H577_ hz_R_R563_
   have H585_ : Holds w576_ (ro R :: F) := (Holds.pkF H584_ [0] 8 :)
   exact ⟨_, _, rfl, (.inl ⟨rfl, rfl, (by rw [← hzk1, ← hzk2]; exact he573_)⟩), S581_, H585_⟩
  ·skip
   have S582_ := Same.trans S520_ S578_
   refine S_list (T_val (v := (Value.bool false)) (x_assign rfl) ?_)
   refine wpList_nil ?_
   refine (X_then (hK521_ _ _ ?_))
   clear hK521_
   refine C_ret ?_
   refine R_any (v := (Value.bool false)) (run_results1 rfl rfl) ⟨_, rfl, ?_⟩
   refine ⟨⟨Holds.rd H577_ 7 rfl, Holds.rd H577_ 8 rfl, (Sub.trans' hz_R_R563_ (Holds.ro_at H577_ 0 rfl))⟩, ?_⟩
   have hq586_ := And.intro (Holds.rd H577_ 7 rfl) (And.intro (Holds.rd H577_ 8 rfl) ((Sub.trans' hz_R_R563_ (Holds.ro_at H577_ 0 rfl))))
   refine A_tk 11 (v := (Value.bool false)) rfl (by kernel_rfl) (fun w hS => x_assign rfl) hq586_ ?_
   refine A_done (by kernel_rfl) ?_
   refine (X_then (hK12_ _ _ ?_))
   clear hK12_
   refine C_ret ?_
   refine R_any (v := (Value.bool false)) (run_results1 rfl rfl) ?_
   have H587_ : Holds w576_ (ro R :: cl kb53_ 104 [((Value.slice (some ⟨b15_, 0, none⟩) 1 1)), (Value.int .i64 ma), (Value.int .i64 na), gv54_] :: cl kb490_ 104 [((Value.slice (some ⟨b73_, 0, none⟩) 1 1)), (Value.int .i64 mb), (Value.int .i64 nb), gv491_] :: cl b516_ 55 [(Value.pointer (some ⟨kb490_, 0, none⟩))] :: cl b511_ 55 [(Value.pointer (some ⟨kb53_, 0, none⟩))] :: cl b481_ 55 [(Value.pointer (some ⟨kb490_, 0, none⟩))] :: cl b476_ 61 [(Value.int .i64 mb), (Value.int .i64 nb), v85_] :: cl b7_ 34 [(Value.int .i64 mb), (Value.int .i64 nb), v2] :: cl b2_ 34 [(Value.int .i64 ma), (Value.int .i64 na), v1] :: F) := Holds.ro_less H577_ hz_R_R563_
   have H588_ : Holds w576_ (ro R :: F) := (Holds.pkF H587_ [0] 8 :)
   exact ⟨_, _, rfl, (.inr ⟨rfl, rfl, (by rw [← hzk1, ← hzk2]; exact he574_)⟩), S582_, H588_⟩
 intro hJ455
 refine A_cut #[true, true, true, true, true, true, true, true, false, false, false, false] 4 (fun a__ w1__ => ∃ b15_ : Nat, ∃ R25_ : HP, ∃ v27_ : Value, ∃ N28_ : List GN, ∃ R51_ : HP, ∃ kb53_ : Nat, ∃ gv54_ : Value, ∃ lv55_ : Value, ∃ N056_ : List GN, ∃ T57_ : List GN, ∃ ll58_ : List RV, ∃ b73_ : Nat, ∃ h : Env, a__ = mkA 16 (upd (upd (upd (upd h 4 (Value.bool false)) 9 (Value.agg #[(Value.pointer (some ⟨kb53_, 0, none⟩))])) 11 (Value.slice (some ⟨b73_, 0, none⟩) 1 1)) 12 (Value.agg #[(Value.int .i64 mb), (Value.int .i64 nb), v2])) [] ∧ Holds w1__ (cl b73_ 5 [(Value.int .u8 107)] :: ro R51_ :: cl kb53_ 104 [(Value.slice (some ⟨b15_, 0, none⟩) 1 1), (Value.int .i64 ma), (Value.int .i64 na), gv54_] :: sl 106 4 gv54_ (List.length (N056_ ++ T57_)) ((N056_ ++ T57_).flatMap GN.cells) :: sl 58 2 lv55_ (List.length ll58_) (ll58_.flatMap RV.cells) :: cl b15_ 5 [(Value.int .u8 107)] :: cl b7_ 34 [(Value.int .i64 mb), (Value.int .i64 nb), v2] :: cl b2_ 34 [(Value.int .i64 ma), (Value.int .i64 na), v1] :: F) ∧ Same w w1__ ∧ (Sub R R25_) ∧ (N28_.map GN.m = N1.map GN.m) ∧ (RS R25_ 4 v27_ (List.length N28_) (N28_.flatMap GN.cells)) ∧ (∀ x ∈ N28_, GOk R25_ x) ∧ (List.length N28_ = List.length N1) ∧ (∀ x ∈ N28_, x.l.length ≤ 100000) ∧ (N28_.map GN.k = N1.map GN.k) ∧ (Sub R R51_) ∧ (Sub R25_ R51_) ∧ ((N056_ ++ T57_).map GN.m = N28_.map GN.m) ∧ (∀ x ∈ N056_, GOk R51_ x) ∧ (Tlk T57_ lv55_ ll58_) ∧ (T57_ = [] → N056_ = []) ∧ (List.length (N056_ ++ T57_) = List.length N28_) ∧ (∀ x ∈ (N056_ ++ T57_), x.l.length ≤ 100000) ∧ ((N056_ ++ T57_).map GN.k = N1.map GN.k)) ?_ ?_
 ·rintro _ w589_ ⟨b15_, R25_, v27_, N28_, R51_, kb53_, gv54_, lv55_, N056_, T57_, ll58_, b73_, h, rfl, H590_, S591_, hs24_, he29_, he30_, he31_, hdl1, hda1, hdk1, hz_R_R51_, hs50_, he59_, he60_, he61_, he62_, hzl1, hza1, hzk1⟩
  refine A_ready (i := 8) (rs := []) (by kernel_rfl) ?_
  refine AllR.cons ?_ AllR.nil
  have H600_ := ((Holds.bring H590_ 1 rfl) :)
  refine A_op (ls' := #[true, true, true, true, true, true, true, true, true, false, false, false]) rfl (by kernel_rfl) (T_callG (al := [(Value.agg #[(Value.int .i64 mb), (Value.int .i64 nb), v2])]) (pre := []) rfl rfl cb20 (kDumpIn R51_ mb nb v2 N2 (RS.mono h2 hz_R_R51_) (fun x hx => (hg2 x hx).mono hz_R_R51_) (by omega) (hb4)) H600_ ?_)
  rintro R593_ v594_ p604_ w601_ hs592_ ⟨v595_, N596_, rfl, rfl, he597_, he598_, he599_⟩ S603_ H602_
  have S605_ := Same.trans S591_ S603_
  have hz_R_R593_ := Sub.trans' hz_R_R51_ hs592_
  have hz_R25__R593_ := Sub.trans' hs50_ hs592_
  have hdl2 := map_m_len he597_
  have hda2 := map_m_all he597_ hb4
  have hdk2 := map_m_k he597_
  refine ⟨⟨Holds.rd H602_ 6 rfl, Holds.rd H602_ 7 rfl, (Sub.trans' hz_R_R593_ (Holds.ro_at H602_ 0 rfl))⟩, ?_⟩
  exact hJ455 _ _ ⟨b15_, R25_, v27_, N28_, R51_, kb53_, gv54_, lv55_, N056_, T57_, ll58_, b73_, R593_, v595_, N596_, _, congrArg (fun e => mkA 16 e []) (ch (ch (ch (ch rfl rfl) rfl) rfl) rfl), H602_, S605_, hs24_, he29_, he30_, he31_, hdl1, hda1, hdk1, hz_R_R51_, hs50_, he59_, he60_, he61_, he62_, hzl1, hza1, hzk1, hz_R_R593_, hz_R25__R593_, hs592_, he597_, he598_, he599_, hdl2, hda2, hdk2⟩
 intro hJ454
 refine A_cut #[true, true, true, true, true, true, false, true, true, false, false, false] 4 (fun a__ w1__ => ∃ b15_ : Nat, ∃ R25_ : HP, ∃ v27_ : Value, ∃ N28_ : List GN, ∃ R51_ : HP, ∃ kb53_ : Nat, ∃ gv54_ : Value, ∃ lv55_ : Value, ∃ N056_ : List GN, ∃ T57_ : List GN, ∃ ll58_ : List RV, ∃ b73_ : Nat, ∃ R132_ : HP, ∃ v134_ : Value, ∃ N135_ : List GN, ∃ h : Env, a__ = mkA 16 (upd (upd (upd (upd h 4 (Value.bool false)) 9 (Value.agg #[(Value.pointer (some ⟨kb53_, 0, none⟩))])) 10 (Value.slice (some ⟨b73_, 0, none⟩) 1 1)) 13 (Value.agg #[(Value.int .i64 mb), (Value.int .i64 nb), v134_])) [] ∧ Holds w1__ (ro R132_ :: clf b73_ 5 [(Value.int .u8 107)] :: cl kb53_ 104 [(Value.slice (some ⟨b15_, 0, none⟩) 1 1), (Value.int .i64 ma), (Value.int .i64 na), gv54_] :: sl 106 4 gv54_ (List.length (N056_ ++ T57_)) ((N056_ ++ T57_).flatMap GN.cells) :: sl 58 2 lv55_ (List.length ll58_) (ll58_.flatMap RV.cells) :: cl b15_ 5 [(Value.int .u8 107)] :: cl b7_ 34 [(Value.int .i64 mb), (Value.int .i64 nb), v2] :: cl b2_ 34 [(Value.int .i64 ma), (Value.int .i64 na), v1] :: F) ∧ Same w w1__ ∧ (Sub R R25_) ∧ (N28_.map GN.m = N1.map GN.m) ∧ (RS R25_ 4 v27_ (List.length N28_) (N28_.flatMap GN.cells)) ∧ (∀ x ∈ N28_, GOk R25_ x) ∧ (List.length N28_ = List.length N1) ∧ (∀ x ∈ N28_, x.l.length ≤ 100000) ∧ (N28_.map GN.k = N1.map GN.k) ∧ (Sub R R51_) ∧ (Sub R25_ R51_) ∧ ((N056_ ++ T57_).map GN.m = N28_.map GN.m) ∧ (∀ x ∈ N056_, GOk R51_ x) ∧ (Tlk T57_ lv55_ ll58_) ∧ (T57_ = [] → N056_ = []) ∧ (List.length (N056_ ++ T57_) = List.length N28_) ∧ (∀ x ∈ (N056_ ++ T57_), x.l.length ≤ 100000) ∧ ((N056_ ++ T57_).map GN.k = N1.map GN.k) ∧ (Sub R R132_) ∧ (Sub R25_ R132_) ∧ (Sub R51_ R132_) ∧ (N135_.map GN.m = N2.map GN.m) ∧ (RS R132_ 4 v134_ (List.length N135_) (N135_.flatMap GN.cells)) ∧ (∀ x ∈ N135_, GOk R132_ x) ∧ (List.length N135_ = List.length N2) ∧ (∀ x ∈ N135_, x.l.length ≤ 100000) ∧ (N135_.map GN.k = N2.map GN.k)) ?_ ?_
 ·rintro _ w606_ ⟨b15_, R25_, v27_, N28_, R51_, kb53_, gv54_, lv55_, N056_, T57_, ll58_, b73_, R132_, v134_, N135_, h, rfl, H607_, S608_, hs24_, he29_, he30_, he31_, hdl1, hda1, hdk1, hz_R_R51_, hs50_, he59_, he60_, he61_, he62_, hzl1, hza1, hzk1, hz_R_R132_, hz_R25__R132_, hs131_, he136_, he137_, he138_, hdl2, hda2, hdk2⟩
  refine A_ready (i := 6) (rs := []) (by kernel_rfl) ?_
  refine AllR.cons ?_ AllR.nil
  refine A_op (ls' := #[true, true, true, true, true, true, true, true, true, false, false, false]) rfl (by kernel_rfl) (T_convSame rfl Try.underlying57 Try.underlying5 H607_ 1 rfl ?_)
  intro w609_ S611_ H610_
  replace H610_ : Holds w609_ (ro R132_ :: cl b73_ 5 [(Value.int .u8 107)] :: cl kb53_ 104 [(Value.slice (some ⟨b15_, 0, none⟩) 1 1), (Value.int .i64 ma), (Value.int .i64 na), gv54_] :: sl 106 4 gv54_ (List.length (N056_ ++ T57_)) ((N056_ ++ T57_).flatMap GN.cells) :: sl 58 2 lv55_ (List.length ll58_) (ll58_.flatMap RV.cells) :: cl b15_ 5 [(Value.int .u8 107)] :: cl b7_ 34 [(Value.int .i64 mb), (Value.int .i64 nb), v2] :: cl b2_ 34 [(Value.int .i64 ma), (Value.int .i64 na), v1] :: F) := H610_
  have S612_ := Same.trans S608_ S611_
  refine ⟨⟨Holds.rd H610_ 6 rfl, Holds.rd H610_ 7 rfl, (Sub.trans' hz_R_R132_ (Holds.ro_at H610_ 0 rfl))⟩, ?_⟩
  exact hJ455 _ _ ⟨b15_, R25_, v27_, N28_, R51_, kb53_, gv54_, lv55_, N056_, T57_, ll58_, b73_, R132_, v134_, N135_, _, congrArg (fun e => mkA 16 e []) (ch (ch (ch (ch rfl rfl) rfl) rfl) rfl), H610_, S612_, hs24_, he29_, he30_, he31_, hdl1, hda1, hdk1, hz_R_R51_, hs50_, he59_, he60_, he61_, he62_, hzl1, hza1, hzk1, hz_R_R132_, hz_R25__R132_, hs131_, he136_, he137_, he138_, hdl2, hda2, hdk2⟩
 intro hJ456
 refine A_cut #[true, true, true, true, true, true, false, true, false, false, false, false] 5 (fun a__ w1__ => ∃ b15_ : Nat, ∃ R25_ : HP, ∃ v27_ : Value, ∃ N28_ : List GN, ∃ R51_ : HP, ∃ kb53_ : Nat, ∃ gv54_ : Value, ∃ lv55_ : Value, ∃ N056_ : List GN, ∃ T57_ : List GN, ∃ ll58_ : List RV, ∃ b73_ : Nat, ∃ h : Env, a__ = mkA 16 (upd (upd (upd (upd h 4 (Value.bool false)) 9 (Value.agg #[(Value.pointer (some ⟨kb53_, 0, none⟩))])) 10 (Value.slice (some ⟨b73_, 0, none⟩) 1 1)) 12 (Value.agg #[(Value.int .i64 mb), (Value.int .i64 nb), v2])) [] ∧ Holds w1__ (clf b73_ 5 [(Value.int .u8 107)] :: ro R51_ :: cl kb53_ 104 [(Value.slice (some ⟨b15_, 0, none⟩) 1 1), (Value.int .i64 ma), (Value.int .i64 na), gv54_] :: sl 106 4 gv54_ (List.length (N056_ ++ T57_)) ((N056_ ++ T57_).flatMap GN.cells) :: sl 58 2 lv55_ (List.length ll58_) (ll58_.flatMap RV.cells) :: cl b15_ 5 [(Value.int .u8 107)] :: cl b7_ 34 [(Value.int .i64 mb), (Value.int .i64 nb), v2] :: cl b2_ 34 [(Value.int .i64 ma), (Value.int .i64 na), v1] :: F) ∧ Same w w1__ ∧ (Sub R R25_) ∧ (N28_.map GN.m = N1.map GN.m) ∧ (RS R25_ 4 v27_ (List.length N28_) (N28_.flatMap GN.cells)) ∧ (∀ x ∈ N28_, GOk R25_ x) ∧ (List.length N28_ = List.length N1) ∧ (∀ x ∈ N28_, x.l.length ≤ 100000) ∧ (N28_.map GN.k = N1.map GN.k) ∧ (Sub R R51_) ∧ (Sub R25_ R51_) ∧ ((N056_ ++ T57_).map GN.m = N28_.map GN.m) ∧ (∀ x ∈ N056_, GOk R51_ x) ∧ (Tlk T57_ lv55_ ll58_) ∧ (T57_ = [] → N056_ = []) ∧ (List.length (N056_ ++ T57_) = List.length N28_) ∧ (∀ x ∈ (N056_ ++ T57_), x.l.length ≤ 100000) ∧ ((N056_ ++ T57_).map GN.k = N1.map GN.k)) ?_ ?_
 ·rintro _ w613_ ⟨b15_, R25_, v27_, N28_, R51_, kb53_, gv54_, lv55_, N056_, T57_, ll58_, b73_, h, rfl, H614_, S615_, hs24_, he29_, he30_, he31_, hdl1, hda1, hdk1, hz_R_R51_, hs50_, he59_, he60_, he61_, he62_, hzl1, hza1, hzk1⟩
  refine A_ready (i := 6) (rs := [8]) (by kernel_rfl) ?_
  refine AllR.cons ?_ ?_
  ·skip
   refine A_op (ls' := #[true, true, true, true, true, true, true, true, false, false, false, false]) rfl (by kernel_rfl) (T_convSame rfl Try.underlying57 Try.underlying5 H614_ 0 rfl ?_)
   intro w616_ S618_ H617_
   have S619_ := Same.trans S615_ S618_
   refine ⟨⟨Holds.rd H617_ 6 rfl, Holds.rd H617_ 7 rfl, (Sub.trans' hz_R_R51_ (Holds.ro_at H617_ 1 rfl))⟩, ?_⟩
   exact hJ454 _ _ ⟨b15_, R25_, v27_, N28_, R51_, kb53_, gv54_, lv55_, N056_, T57_, ll58_, b73_, _, congrArg (fun e => mkA 16 e []) (ch (ch (ch (ch rfl rfl) rfl) rfl) rfl), H617_, S619_, hs24_, he29_, he30_, he31_, hdl1, hda1, hdk1, hz_R_R51_, hs50_, he59_, he60_, he61_, he62_, hzl1, hza1, hzk1⟩
  refine AllR.cons ?_ AllR.nil
  have H628_ := ((Holds.bring H614_ 1 rfl) :)
  refine A_op (ls' := #[true, true, true, true, true, true, false, true, true, false, false, false]) rfl (by kernel_rfl) (T_callG (al := [(Value.agg #[(Value.int .i64 mb), (Value.int .i64 nb), v2])]) (pre := []) rfl rfl cb20 (kDumpIn R51_ mb nb v2 N2 (RS.mono h2 hz_R_R51_) (fun x hx => (hg2 x hx).mono hz_R_R51_) (by omega) (hb4)) H628_ ?_)
  rintro R621_ v622_ p632_ w629_ hs620_ ⟨v623_, N624_, rfl, rfl, he625_, he626_, he627_⟩ S631_ H630_
  replace H630_ : Holds w629_ (ro R621_ :: clf b73_ 5 [(Value.int .u8 107)] :: cl kb53_ 104 [(Value.slice (some ⟨b15_, 0, none⟩) 1 1), (Value.int .i64 ma), (Value.int .i64 na), gv54_] :: sl 106 4 gv54_ (List.length (N056_ ++ T57_)) ((N056_ ++ T57_).flatMap GN.cells) :: sl 58 2 lv55_ (List.length ll58_) (ll58_.flatMap RV.cells) :: cl b15_ 5 [(Value.int .u8 107)] :: cl b7_ 34 [(Value.int .i64 mb), (Value.int .i64 nb), v2] :: cl b2_ 34 [(Value.int .i64 ma), (Value.int .i64 na), v1] :: F) := H630_
  have S633_ := Same.trans S615_ S631_
  have hz_R_R621_ := Sub.trans' hz_R_R51_ hs620_
  have hz_R25__R621_ := Sub.trans' hs50_ hs620_
  have hdl2 := map_m_len he625_
  have hda2 := map_m_all he625_ hb4
  have hdk2 := map_m_k he625_
  refine ⟨⟨Holds.rd H630_ 6 rfl, Holds.rd H630_ 7 rfl, (Sub.trans' hz_R_R621_ (Holds.ro_at H630_ 0 rfl))⟩, ?_⟩
  exact hJ456 _ _ ⟨b15_, R25_, v27_, N28_, R51_, kb53_, gv54_, lv55_, N056_, T57_, ll58_, b73_, R621_, v623_, N624_, _, congrArg (fun e => mkA 16 e []) (ch (ch (ch (ch rfl rfl) rfl) rfl) rfl), H630_, S633_, hs24_, he29_, he30_, he31_, hdl1, hda1, hdk1, hz_R_R51_, hs50_, he59_, he60_, he61_, he62_, hzl1, hza1, hzk1, hz_R_R621_, hz_R25__R621_, hs620_, he625_, he626_, he627_, hdl2, hda2, hdk2⟩
 intro hJ453
 refine A_cut #[true, true, true, true, true, false, false, true, true, false, false, false] 5 (fun a__ w1__ => ∃ b15_ : Nat, ∃ R25_ : HP, ∃ v27_ : Value, ∃ N28_ : List GN, ∃ R51_ : HP, ∃ kb53_ : Nat, ∃ gv54_ : Value, ∃ lv55_ : Value, ∃ N056_ : List GN, ∃ T57_ : List GN, ∃ ll58_ : List RV, ∃ R150_ : HP, ∃ v152_ : Value, ∃ N153_ : List GN, ∃ h : Env, a__ = mkA 16 (upd (upd (upd h 4 (Value.bool false)) 9 (Value.agg #[(Value.pointer (some ⟨kb53_, 0, none⟩))])) 13 (Value.agg #[(Value.int .i64 mb), (Value.int .i64 nb), v152_])) [] ∧ Holds w1__ (ro R150_ :: cl kb53_ 104 [(Value.slice (some ⟨b15_, 0, none⟩) 1 1), (Value.int .i64 ma), (Value.int .i64 na), gv54_] :: sl 106 4 gv54_ (List.length (N056_ ++ T57_)) ((N056_ ++ T57_).flatMap GN.cells) :: sl 58 2 lv55_ (List.length ll58_) (ll58_.flatMap RV.cells) :: cl b15_ 5 [(Value.int .u8 107)] :: cl b7_ 34 [(Value.int .i64 mb), (Value.int .i64 nb), v2] :: cl b2_ 34 [(Value.int .i64 ma), (Value.int .i64 na), v1] :: F) ∧ Same w w1__ ∧ (Sub R R25_) ∧ (N28_.map GN.m = N1.map GN.m) ∧ (RS R25_ 4 v27_ (List.length N28_) (N28_.flatMap GN.cells)) ∧ (∀ x ∈ N28_, GOk R25_ x) ∧ (List.length N28_ = List.length N1) ∧ (∀ x ∈ N28_, x.l.length ≤ 100000) ∧ (N28_.map GN.k = N1.map GN.k) ∧ (Sub R R51_) ∧ (Sub R25_ R51_) ∧ ((N056_ ++ T57_).map GN.m = N28_.map GN.m) ∧ (∀ x ∈ N056_, GOk R51_ x) ∧ (Tlk T57_ lv55_ ll58_) ∧ (T57_ = [] → N056_ = []) ∧ (List.length (N056_ ++ T57_) = List.length N28_) ∧ (∀ x ∈ (N056_ ++ T57_), x.l.length ≤ 100000) ∧ ((N056_ ++ T57_).map GN.k = N1.map GN.k) ∧ (Sub R R150_) ∧ (Sub R25_ R150_) ∧ (Sub R51_ R150_) ∧ (N153_.map GN.m = N2.map GN.m) ∧ (RS R150_ 4 v152_ (List.length N153_) (N153_.flatMap GN.cells)) ∧ (∀ x ∈ N153_, GOk R150_ x) ∧ (List.length N153_ = List.length N2) ∧ (∀ x ∈ N153_, x.l.length ≤ 100000) ∧ (N153_.map GN.k = N2.map GN.k)) ?_ ?_
 ·rintro _ w634_ ⟨b15_, R25_, v27_, N28_, R51_, kb53_, gv54_, lv55_, N056_, T57_, ll58_, R150_, v152_, N153_, h, rfl, H635_, S636_, hs24_, he29_, he30_, he31_, hdl1, hda1, hdk1, hz_R_R51_, hs50_, he59_, he60_, he61_, he62_, hzl1, hza1, hzk1, hz_R_R150_, hz_R25__R150_, hs149_, he154_, he155_, he156_, hdl2, hda2, hdk2⟩
  refine A_ready (i := 5) (rs := []) (by kernel_rfl) ?_
  refine AllR.cons ?_ AllR.nil
  refine A_op (ls' := #[true, true, true, true, true, true, false, true, true, false, false, false]) rfl (by kernel_rfl) (T_new (obj := .cells #[(Value.int .u8 107)] 5) (f := fun b__ => .slice (some ⟨b__, 0, none⟩) 1 1) (A := fun b__ => clf b__ 5 [(Value.int .u8 107)]) (by kernel_rfl) (fun l h => h.allocOb _) H635_ ?_)
  intro b637_ w638_ S640_ H639_
  have S641_ := Same.trans S636_ S640_
  refine ⟨⟨Holds.rd H639_ 6 rfl, Holds.rd H639_ 7 rfl, (Sub.trans' hz_R_R150_ (Holds.ro_at H639_ 1 rfl))⟩, ?_⟩
  have H642_ : Holds w638_ (ro R150_ :: clf b637_ 5 [(Value.int .u8 107)] :: cl kb53_ 104 [(Value.slice (some ⟨b15_, 0, none⟩) 1 1), (Value.int .i64 ma), (Value.int .i64 na), gv54_] :: sl 106 4 gv54_ (List.length (N056_ ++ T57_)) ((N056_ ++ T57_).flatMap GN.cells) :: sl 58 2 lv55_ (List.length ll58_) (ll58_.flatMap RV.cells) :: cl b15_ 5 [(Value.int .u8 107)] :: cl b7_ 34 [(Value.int .i64 mb), (Value.int .i64 nb), v2] :: cl b2_ 34 [(Value.int .i64 ma), (Value.int .i64 na), v1] :: F) := (Holds.pkF H639_ [1, 0, 0, 0, 0, 0, 0, 0] 0 :)
  exact hJ456 _ _ ⟨b15_, R25_, v27_, N28_, R51_, kb53_, gv54_, lv55_, N056_, T57_, ll58_, b637_, R150_, v152_, N153_, _, congrArg (fun e => mkA 16 e []) (ch (ch (ch (ch rfl rfl) rfl) rfl) rfl), H642_, S641_, hs24_, he29_, he30_, he31_, hdl1, hda1, hdk1, hz_R_R51_, hs50_, he59_, he60_, he61_, he62_, hzl1, hza1, hzk1, hz_R_R150_, hz_R25__R150_, hs149_, he154_, he155_, he156_, hdl2, hda2, hdk2⟩
 intro hJ457
 refine A_cut #[true, true, true, true, false, true, true, true, false, false, false, false] 5 (fun a__ w1__ => ∃ b15_ : Nat, ∃ R25_ : HP, ∃ v27_ : Value, ∃ N28_ : List GN, ∃ b167_ : Nat, ∃ h : Env, a__ = mkA 16 (upd (upd (upd (upd (upd h 4 (Value.bool false)) 6 (Value.slice (some ⟨b15_, 0, none⟩) 1 1)) 8 (Value.agg #[(Value.int .i64 ma), (Value.int .i64 na), v27_])) 11 (Value.slice (some ⟨b167_, 0, none⟩) 1 1)) 12 (Value.agg #[(Value.int .i64 mb), (Value.int .i64 nb), v2])) [] ∧ Holds w1__ (cl b167_ 5 [(Value.int .u8 107)] :: ro R25_ :: cl b15_ 5 [(Value.int .u8 107)] :: cl b7_ 34 [(Value.int .i64 mb), (Value.int .i64 nb), v2] :: cl b2_ 34 [(Value.int .i64 ma), (Value.int .i64 na), v1] :: F) ∧ Same w w1__ ∧ (Sub R R25_) ∧ (N28_.map GN.m = N1.map GN.m) ∧ (RS R25_ 4 v27_ (List.length N28_) (N28_.flatMap GN.cells)) ∧ (∀ x ∈ N28_, GOk R25_ x) ∧ (List.length N28_ = List.length N1) ∧ (∀ x ∈ N28_, x.l.length ≤ 100000) ∧ (N28_.map GN.k = N1.map GN.k)) ?_ ?_
 ·rintro _ w643_ ⟨b15_, R25_, v27_, N28_, b167_, h, rfl, H644_, S645_, hs24_, he29_, he30_, he31_, hdl1, hda1, hdk1⟩
  refine A_ready (i := 4) (rs := []) (by kernel_rfl) ?_
  refine AllR.cons ?_ AllR.nil
  refine A_op (ls' := #[true, true, true, true, true, true, true, true, false, false, false, false]) rfl (by kernel_rfl) (T_callW (al := [(Value.slice (some ⟨b15_, 0, none⟩) 1 1), (Value.agg #[(Value.int .i64 ma), (Value.int .i64 na), v27_])]) rfl rfl cb19 (Calls.into (n := 9) (al := [(Value.slice (some ⟨b15_, 0, none⟩) 1 1), (Value.agg #[(Value.int .i64 ma), (Value.int .i64 na), v27_])]) Try.func19 rfl Try.ntmps19 rfl rfl ?_))
  refine C_seq (fun K646_ hK646_ => ?_)
  refine C_reg ?_
  refine S_list (T_box (v := (Value.agg #[(Value.int .i64 ma), (Value.int .i64 na), v27_])) rfl H644_ ?_)
  intro b647_ w648_ S650_ H649_
  have S651_ := Same.trans S645_ S650_
  refine S_list (T_alloc z55 H649_ ?_)
  intro b652_ w653_ S655_ H654_
  have S656_ := Same.trans S651_ S655_
  refine wpList_nil ?_
  refine (X_then (hK646_ _ _ ?_))
  clear hK646_
  refine C_seq (fun K657_ hK657_ => ?_)
  refine C_reg ?_
  refine S_list (T_val (v := (Value.slice (some ⟨b15_, 0, none⟩) 1 1)) (x_move rfl) ?_)
  refine S_list (T_val (v := (Value.agg #[(Value.int .i64 ma), (Value.int .i64 na), v27_])) (x_loadN (vs := [(Value.int .i64 ma), (Value.int .i64 na), v27_]) rfl Try.underlying61 rfl z61 rfl (Rd.cells (Holds.rd H654_ 1 rfl) 0 rfl)) ?_)
  have H671_ := ((Holds.bring H654_ 3 rfl) :)
  replace H671_ : Holds w653_ (ro R25_ :: cl b652_ 55 [(Value.pointer none)] :: cl b647_ 61 [(Value.int .i64 ma), (Value.int .i64 na), v27_] :: cl b167_ 5 [(Value.int .u8 107)] :: cl b15_ 5 [(Value.int .u8 107)] :: cl b7_ 34 [(Value.int .i64 mb), (Value.int .i64 nb), v2] :: cl b2_ 34 [(Value.int .i64 ma), (Value.int .i64 na), v1] :: F) := H671_
  refine S_list (T_callG (al := [(Value.slice (some ⟨b15_, 0, none⟩) 1 1), (Value.agg #[(Value.int .i64 ma), (Value.int .i64 na), v27_])]) (pre := []) rfl rfl cb32 (kZzIn R25_ (some ⟨b15_, 0, none⟩) 1 1 ma na v27_ N28_ he30_ (he31_) (by omega) (hda1)) H671_ ?_)
  rintro R659_ v660_ p675_ w672_ hs658_ ⟨kb661_, gv662_, lv663_, N0664_, T665_, ll666_, rfl, rfl, he667_, he668_, he669_, he670_⟩ S674_ H673_
  have S676_ := Same.trans S656_ S674_
  have hz_R_R659_ := Sub.trans' hs24_ hs658_
  have hzl1 := map_m_len he667_
  have hza1 := map_m_all he667_ hda1
  have hzk1 := (map_m_k he667_).trans hdk1
  refine S_list (T_val (v := (Value.agg #[(Value.pointer (some ⟨kb661_, 0, none⟩))])) (by kernel_rfl) ?_)
  refine S_list0 (T_storeN (vs := [(Value.pointer (some ⟨kb661_, 0, none⟩))]) rfl rfl z55 rfl (by simp [Value.oneCell']) H673_ 4 rfl (Nat.le_of_ble_eq_true (by rfl)) ?_)
  intro w677_ S679_ H678_
  have S680_ := Same.trans S676_ S679_
  refine wpList_nil ?_
  refine (X_then (hK657_ _ _ ?_))
  clear hK657_
  refine C_ret ?_
  refine R_any (v := (Value.agg #[(Value.pointer (some ⟨kb661_, 0, none⟩))])) (run_results1 rfl ⟨_, rfl, load_resN Try.underlying55 rfl z55 rfl (vs := [(Value.pointer (some ⟨kb661_, 0, none⟩))]) (Holds.cl_cells H678_ 4 rfl 0 rfl)⟩) ⟨_, rfl, ?_⟩
  refine ⟨⟨Holds.rd H678_ 8 rfl, Holds.rd H678_ 9 rfl, (Sub.trans' hz_R_R659_ (Holds.ro_at H678_ 0 rfl))⟩, ?_⟩
  have H681_ : Holds w677_ (cl b167_ 5 [(Value.int .u8 107)] :: ro R659_ :: cl kb661_ 104 [(Value.slice (some ⟨b15_, 0, none⟩) 1 1), (Value.int .i64 ma), (Value.int .i64 na), gv662_] :: sl 106 4 gv662_ (List.length (N0664_ ++ T665_)) ((N0664_ ++ T665_).flatMap GN.cells) :: sl 58 2 lv663_ (List.length ll666_) (ll666_.flatMap RV.cells) :: cl b15_ 5 [(Value.int .u8 107)] :: cl b7_ 34 [(Value.int .i64 mb), (Value.int .i64 nb), v2] :: cl b2_ 34 [(Value.int .i64 ma), (Value.int .i64 na), v1] :: F) := (Holds.pkF H678_ [6, 0, 0, 0, 0, 2, 2, 2] 2 :)
  exact hJ454 _ _ ⟨b15_, R25_, v27_, N28_, R659_, kb661_, gv662_, lv663_, N0664_, T665_, ll666_, b167_, _, congrArg (fun e => mkA 16 e []) (ch (ch (ch (ch rfl rfl) rfl) rfl) rfl), H681_, S680_, hs24_, he29_, he30_, he31_, hdl1, hda1, hdk1, hz_R_R659_, hs658_, he667_, he668_, he669_, he670_, hzl1, hza1, hzk1⟩
 intro hJ459
 refine A_cut #[true, true, true, true, true, false, false, true, false, false, false, false] 6 (fun a__ w1__ => ∃ b15_ : Nat, ∃ R25_ : HP, ∃ v27_ : Value, ∃ N28_ : List GN, ∃ R51_ : HP, ∃ kb53_ : Nat, ∃ gv54_ : Value, ∃ lv55_ : Value, ∃ N056_ : List GN, ∃ T57_ : List GN, ∃ ll58_ : List RV, ∃ h : Env, a__ = mkA 16 (upd (upd (upd h 4 (Value.bool false)) 9 (Value.agg #[(Value.pointer (some ⟨kb53_, 0, none⟩))])) 12 (Value.agg #[(Value.int .i64 mb), (Value.int .i64 nb), v2])) [] ∧ Holds w1__ (ro R51_ :: cl kb53_ 104 [(Value.slice (some ⟨b15_, 0, none⟩) 1 1), (Value.int .i64 ma), (Value.int .i64 na), gv54_] :: sl 106 4 gv54_ (List.length (N056_ ++ T57_)) ((N056_ ++ T57_).flatMap GN.cells) :: sl 58 2 lv55_ (List.length ll58_) (ll58_.flatMap RV.cells) :: cl b15_ 5 [(Value.int .u8 107)] :: cl b7_ 34 [(Value.int .i64 mb), (Value.int .i64 nb), v2] :: cl b2_ 34 [(Value.int .i64 ma), (Value.int .i64 na), v1] :: F) ∧ Same w w1__ ∧ (Sub R R25_) ∧ (N28_.map GN.m = N1.map GN.m) ∧ (RS R25_ 4 v27_ (List.length N28_) (N28_.flatMap GN.cells)) ∧ (∀ x ∈ N28_, GOk R25_ x) ∧ (List.length N28_ = List.length N1) ∧ (∀ x ∈ N28_, x.l.length ≤ 100000) ∧ (N28_.map GN.k = N1.map GN.k) ∧ (Sub R R51_) ∧ (Sub R25_ R51_) ∧ ((N056_ ++ T57_).map GN.m = N28_.map GN.m) ∧ (∀ x ∈ N056_, GOk R51_ x) ∧ (Tlk T57_ lv55_ ll58_) ∧ (T57_ = [] → N056_ = []) ∧ (List.length (N056_ ++ T57_) = List.length N28_) ∧ (∀ x ∈ (N056_ ++ T57_), x.l.length ≤ 100000) ∧ ((N056_ ++ T57_).map GN.k = N1.map GN.k)) ?_ ?_
 ·rintro _ w682_ ⟨b15_, R25_, v27_, N28_, R51_, kb53_, gv54_, lv55_, N056_, T57_, ll58_, h, rfl, H683_, S684_, hs24_, he29_, he30_, he31_, hdl1, hda1, hdk1, hz_R_R51_, hs50_, he59_, he60_, he61_, he62_, hzl1, hza1, hzk1⟩
  refine A_ready (i := 5) (rs := [8]) (by kernel_rfl) ?_
  refine AllR.cons ?_ ?_
  ·skip
   refine A_op (ls' := #[true, true, true, true, true, true, false, true, false, false, false, false]) rfl (by kernel_rfl) (T_new (obj := .cells #[(Value.int .u8 107)] 5) (f := fun b__ => .slice (some ⟨b__, 0, none⟩) 1 1) (A := fun b__ => clf b__ 5 [(Value.int .u8 107)]) (by kernel_rfl) (fun l h => h.allocOb _) H683_ ?_)
   intro b685_ w686_ S688_ H687_
   have S689_ := Same.trans S684_ S688_
   refine ⟨⟨Holds.rd H687_ 6 rfl, Holds.rd H687_ 7 rfl, (Sub.trans' hz_R_R51_ (Holds.ro_at H687_ 1 rfl))⟩, ?_⟩
   exact hJ453 _ _ ⟨b15_, R25_, v27_, N28_, R51_, kb53_, gv54_, lv55_, N056_, T57_, ll58_, b685_, _, congrArg (fun e => mkA 16 e []) (ch (ch (ch (ch rfl rfl) rfl) rfl) rfl), H687_, S689_, hs24_, he29_, he30_, he31_, hdl1, hda1, hdk1, hz_R_R51_, hs50_, he59_, he60_, he61_, he62_, hzl1, hza1, hzk1⟩
  refine AllR.cons ?_ AllR.nil
  refine A_op (ls' := #[true, true, true, true, true, false, false, true, true, false, false, false]) rfl (by kernel_rfl) (T_callG (al := [(Value.agg #[(Value.int .i64 mb), (Value.int .i64 nb), v2])]) (pre := []) rfl rfl cb20 (kDumpIn R51_ mb nb v2 N2 (RS.mono h2 hz_R_R51_) (fun x hx => (hg2 x hx).mono hz_R_R51_) (by omega) (hb4)) H683_ ?_)
  rintro R691_ v692_ p701_ w698_ hs690_ ⟨v693_, N694_, rfl, rfl, he695_, he696_, he697_⟩ S700_ H699_
  have S702_ := Same.trans S684_ S700_
  have hz_R_R691_ := Sub.trans' hz_R_R51_ hs690_
  have hz_R25__R691_ := Sub.trans' hs50_ hs690_
  have hdl2 := map_m_len he695_
  have hda2 := map_m_all he695_ hb4
  have hdk2 := map_m_k he695_
  refine ⟨⟨Holds.rd H699_ 5 rfl, Holds.rd H699_ 6 rfl, (Sub.trans' hz_R_R691_ (Holds.ro_at H699_ 0 rfl))⟩, ?_⟩
  exact hJ457 _ _ ⟨b15_, R25_, v27_, N28_, R51_, kb53_, gv54_, lv55_, N056_, T57_, ll58_, R691_, v693_, N694_, _, congrArg (fun e => mkA 16 e []) (ch (ch (ch rfl rfl) rfl) rfl), H699_, S702_, hs24_, he29_, he30_, he31_, hdl1, hda1, hdk1, hz_R_R51_, hs50_, he59_, he60_, he61_, he62_, hzl1, hza1, hzk1, hz_R_R691_, hz_R25__R691_, hs690_, he695_, he696_, he697_, hdl2, hda2, hdk2⟩
 intro hJ452
 refine A_cut #[true, true, true, true, false, true, false, true, false, false, false, false] 6 (fun a__ w1__ => ∃ b15_ : Nat, ∃ R25_ : HP, ∃ v27_ : Value, ∃ N28_ : List GN, ∃ b167_ : Nat, ∃ h : Env, a__ = mkA 16 (upd (upd (upd (upd (upd h 4 (Value.bool false)) 6 (Value.slice (some ⟨b15_, 0, none⟩) 1 1)) 8 (Value.agg #[(Value.int .i64 ma), (Value.int .i64 na), v27_])) 10 (Value.slice (some ⟨b167_, 0, none⟩) 1 1)) 12 (Value.agg #[(Value.int .i64 mb), (Value.int .i64 nb), v2])) [] ∧ Holds w1__ (clf b167_ 5 [(Value.int .u8 107)] :: ro R25_ :: cl b15_ 5 [(Value.int .u8 107)] :: cl b7_ 34 [(Value.int .i64 mb), (Value.int .i64 nb), v2] :: cl b2_ 34 [(Value.int .i64 ma), (Value.int .i64 na), v1] :: F) ∧ Same w w1__ ∧ (Sub R R25_) ∧ (N28_.map GN.m = N1.map GN.m) ∧ (RS R25_ 4 v27_ (List.length N28_) (N28_.flatMap GN.cells)) ∧ (∀ x ∈ N28_, GOk R25_ x) ∧ (List.length N28_ = List.length N1) ∧ (∀ x ∈ N28_, x.l.length ≤ 100000) ∧ (N28_.map GN.k = N1.map GN.k)) ?_ ?_
 ·rintro _ w703_ ⟨b15_, R25_, v27_, N28_, b167_, h, rfl, H704_, S705_, hs24_, he29_, he30_, he31_, hdl1, hda1, hdk1⟩
  refine A_ready (i := 4) (rs := [6]) (by kernel_rfl) ?_
  refine AllR.cons ?_ ?_
  ·skip
   refine A_op (ls' := #[true, true, true, true, true, true, false, true, false, false, false, false]) rfl (by kernel_rfl) (T_callW (al := [(Value.slice (some ⟨b15_, 0, none⟩) 1 1), (Value.agg #[(Value.int .i64 ma), (Value.int .i64 na), v27_])]) rfl rfl cb19 (Calls.into (n := 9) (al := [(Value.slice (some ⟨b15_, 0, none⟩) 1 1), (Value.agg #[(Value.int .i64 ma), (Value.int .i64 na), v27_])]) Try.func19 rfl Try.ntmps19 rfl rfl ?_))
   refine C_seq (fun K706_ hK706_ => ?_)
   refine C_reg ?_
   refine S_list (T_box (v := (Value.agg #[(Value.int .i64 ma), (Value.int .i64 na), v27_])) rfl H704_ ?_)
   intro b707_ w708_ S710_ H709_
   replace H709_ : Holds w708_ (cl b707_ 61 [(Value.int .i64 ma), (Value.int .i64 na), v27_] :: clf b167_ 5 [(Value.int .u8 107)] :: ro R25_ :: cl b15_ 5 [(Value.int .u8 107)] :: cl b7_ 34 [(Value.int .i64 mb), (Value.int .i64 nb), v2] :: cl b2_ 34 [(Value.int .i64 ma), (Value.int .i64 na), v1] :: F) := H709_
   have S711_ := Same.trans S705_ S710_
   refine S_list (T_alloc z55 H709_ ?_)
   intro b712_ w713_ S715_ H714_
   have S716_ := Same.trans S711_ S715_
   refine wpList_nil ?_
   refine (X_then (hK706_ _ _ ?_))
   clear hK706_
   refine C_seq (fun K717_ hK717_ => ?_)
   refine C_reg ?_
   refine S_list (T_val (v := (Value.slice (some ⟨b15_, 0, none⟩) 1 1)) (x_move rfl) ?_)
   refine S_list (T_val (v := (Value.agg #[(Value.int .i64 ma), (Value.int .i64 na), v27_])) (x_loadN (vs := [(Value.int .i64 ma), (Value.int .i64 na), v27_]) rfl Try.underlying61 rfl z61 rfl (Rd.cells (Holds.rd H714_ 1 rfl) 0 rfl)) ?_)
   have H731_ := ((Holds.bring H714_ 3 rfl) :)
   refine S_list (T_callG (al := [(Value.slice (some ⟨b15_, 0, none⟩) 1 1), (Value.agg #[(Value.int .i64 ma), (Value.int .i64 na), v27_])]) (pre := []) rfl rfl cb32 (kZzIn R25_ (some ⟨b15_, 0, none⟩) 1 1 ma na v27_ N28_ he30_ (he31_) (by omega) (hda1)) H731_ ?_)
   rintro R719_ v720_ p735_ w732_ hs718_ ⟨kb721_, gv722_, lv723_, N0724_, T725_, ll726_, rfl, rfl, he727_, he728_, he729_, he730_⟩ S734_ H733_
   replace H733_ : Holds w732_ (ro R719_ :: cl kb721_ 104 [(Value.slice (some ⟨b15_, 0, none⟩) 1 1), (Value.int .i64 ma), (Value.int .i64 na), gv722_] :: sl 106 4 gv722_ (List.length (N0724_ ++ T725_)) ((N0724_ ++ T725_).flatMap GN.cells) :: sl 58 2 lv723_ (List.length ll726_) (ll726_.flatMap RV.cells) :: cl b712_ 55 [(Value.pointer none)] :: cl b707_ 61 [(Value.int .i64 ma), (Value.int .i64 na), v27_] :: clf b167_ 5 [(Value.int .u8 107)] :: cl b15_ 5 [(Value.int .u8 107)] :: cl b7_ 34 [(Value.int .i64 mb), (Value.int .i64 nb), v2] :: cl b2_ 34 [(Value.int .i64 ma), (Value.int .i64 na), v1] :: F) := H733_
   have S736_ := Same.trans S716_ S734_
   have hz_R_R719_ := Sub.trans' hs24_ hs718_
   have hzl1 := map_m_len he727_
   have hza1 := map_m_all he727_ hda1
   have hzk1 := (map_m_k he727_).trans hdk1
   refine S_list (T_val (v := (Value.agg #[(Value.pointer (some ⟨kb721_, 0, none⟩))])) (by kernel_rfl) ?_)
   refine S_list0 (T_storeN (vs := [(Value.pointer (some ⟨kb721_, 0, none⟩))]) rfl rfl z55 rfl (by simp [Value.oneCell']) H733_ 4 rfl (Nat.le_of_ble_eq_true (by rfl)) ?_)
   intro w737_ S739_ H738_
   have S740_ := Same.trans S736_ S739_
   refine wpList_nil ?_
   refine (X_then (hK717_ _ _ ?_))
   clear hK717_
   refine C_ret ?_
   refine R_any (v := (Value.agg #[(Value.pointer (some ⟨kb721_, 0, none⟩))])) (run_results1 rfl ⟨_, rfl, load_resN Try.underlying55 rfl z55 rfl (vs := [(Value.pointer (some ⟨kb721_, 0, none⟩))]) (Holds.cl_cells H738_ 4 rfl 0 rfl)⟩) ⟨_, rfl, ?_⟩
   refine ⟨⟨Holds.rd H738_ 8 rfl, Holds.rd H738_ 9 rfl, (Sub.trans' hz_R_R719_ (Holds.ro_at H738_ 0 rfl))⟩, ?_⟩
   have H741_ : Holds w737_ (clf b167_ 5 [(Value.int .u8 107)] :: ro R719_ :: cl kb721_ 104 [(Value.slice (some ⟨b15_, 0, none⟩) 1 1), (Value.int .i64 ma), (Value.int .i64 na), gv722_] :: sl 106 4 gv722_ (List.length (N0724_ ++ T725_)) ((N0724_ ++ T725_).flatMap GN.cells) :: sl 58 2 lv723_ (List.length ll726_) (ll726_.flatMap RV.cells) :: cl b15_ 5 [(Value.int .u8 107)] :: cl b7_ 34 [(Value.int .i64 mb), (Value.int .i64 nb), v2] :: cl b2_ 34 [(Value.int .i64 ma), (Value.int .i64 na), v1] :: F) := (Holds.pkF H738_ [6, 0, 0, 0, 0, 2, 2, 2] 2 :)
   exact hJ453 _ _ ⟨b15_, R25_, v27_, N28_, R719_, kb721_, gv722_, lv723_, N0724_, T725_, ll726_, b167_, _, congrArg (fun e => mkA 16 e []) (ch (ch (ch (ch rfl rfl) rfl) rfl) rfl), H741_, S740_, hs24_, he29_, he30_, he31_, hdl1, hda1, hdk1, hz_R_R719_, hs718_, he727_, he728_, he729_, he730_, hzl1, hza1, hzk1⟩
  refine AllR.cons ?_ AllR.nil
  refine A_op (ls' := #[true, true, true, true, false, true, true, true, false, false, false, false]) rfl (by kernel_rfl) (T_convSame rfl Try.underlying57 Try.underlying5 H704_ 0 rfl ?_)
  intro w742_ S744_ H743_
  have S745_ := Same.trans S705_ S744_
  refine ⟨⟨Holds.rd H743_ 3 rfl, Holds.rd H743_ 4 rfl, (Sub.trans' hs24_ (Holds.ro_at H743_ 1 rfl))⟩, ?_⟩
  exact hJ459 _ _ ⟨b15_, R25_, v27_, N28_, b167_, _, congrArg (fun e => mkA 16 e []) (ch (ch (ch (ch (ch rfl rfl) rfl) rfl) rfl) rfl), H743_, S745_, hs24_, he29_, he30_, he31_, hdl1, hda1, hdk1⟩
 intro hJ458
 refine A_cut #[true, true, true, false, false, true, true, true, false, false, false, false] 6 (fun a__ w1__ => ∃ b15_ : Nat, ∃ b246_ : Nat, ∃ h : Env, a__ = mkA 16 (upd (upd (upd (upd (upd h 4 (Value.bool false)) 6 (Value.slice (some ⟨b15_, 0, none⟩) 1 1)) 7 (Value.agg #[(Value.int .i64 ma), (Value.int .i64 na), v1])) 11 (Value.slice (some ⟨b246_, 0, none⟩) 1 1)) 12 (Value.agg #[(Value.int .i64 mb), (Value.int .i64 nb), v2])) [] ∧ Holds w1__ (cl b246_ 5 [(Value.int .u8 107)] :: cl b15_ 5 [(Value.int .u8 107)] :: cl b7_ 34 [(Value.int .i64 mb), (Value.int .i64 nb), v2] :: cl b2_ 34 [(Value.int .i64 ma), (Value.int .i64 na), v1] :: ro R :: F) ∧ Same w w1__) ?_ ?_
 ·rintro _ w746_ ⟨b15_, b246_, h, rfl, H747_, S748_⟩
  refine A_ready (i := 3) (rs := []) (by kernel_rfl) ?_
  refine AllR.cons ?_ AllR.nil
  have H757_ := ((Holds.bring H747_ 4 rfl) :)
  refine A_op (ls' := #[true, true, true, true, false, true, true, true, false, false, false, false]) rfl (by kernel_rfl) (T_callG (al := [(Value.agg #[(Value.int .i64 ma), (Value.int .i64 na), v1])]) (pre := []) rfl rfl cb20 (kDumpIn R ma na v1 N1 h1 (hg1) (by omega) (hb2)) H757_ ?_)
  rintro R750_ v751_ p761_ w758_ hs749_ ⟨v752_, N753_, rfl, rfl, he754_, he755_, he756_⟩ S760_ H759_
  replace H759_ : Holds w758_ (ro R750_ :: cl b246_ 5 [(Value.int .u8 107)] :: cl b15_ 5 [(Value.int .u8 107)] :: cl b7_ 34 [(Value.int .i64 mb), (Value.int .i64 nb), v2] :: cl b2_ 34 [(Value.int .i64 ma), (Value.int .i64 na), v1] :: F) := H759_
  have S762_ := Same.trans S748_ S760_
  have hdl1 := map_m_len he754_
  have hda1 := map_m_all he754_ hb2
  have hdk1 := map_m_k he754_
  refine ⟨⟨Holds.rd H759_ 3 rfl, Holds.rd H759_ 4 rfl, (Sub.trans' hs749_ (Holds.ro_at H759_ 0 rfl))⟩, ?_⟩
  have H763_ : Holds w758_ (cl b246_ 5 [(Value.int .u8 107)] :: ro R750_ :: cl b15_ 5 [(Value.int .u8 107)] :: cl b7_ 34 [(Value.int .i64 mb), (Value.int .i64 nb), v2] :: cl b2_ 34 [(Value.int .i64 ma), (Value.int .i64 na), v1] :: F) := (Holds.pkF H759_ [1, 0, 0, 0, 0] 0 :)
  exact hJ459 _ _ ⟨b15_, R750_, v752_, N753_, b246_, _, congrArg (fun e => mkA 16 e []) (ch (ch (ch (ch (ch rfl rfl) rfl) rfl) rfl) rfl), H763_, S762_, hs749_, he754_, he755_, he756_, hdl1, hda1, hdk1⟩
 intro hJ461
 refine A_cut #[true, false, true, true, false, true, true, true, false, false, false, false] 6 (fun a__ w1__ => ∃ b15_ : Nat, ∃ R284_ : HP, ∃ v286_ : Value, ∃ N287_ : List GN, ∃ b301_ : Nat, ∃ h : Env, a__ = mkA 16 (upd (upd (upd (upd (upd h 4 (Value.bool false)) 5 (Value.slice (some ⟨b15_, 0, none⟩) 1 1)) 8 (Value.agg #[(Value.int .i64 ma), (Value.int .i64 na), v286_])) 11 (Value.slice (some ⟨b301_, 0, none⟩) 1 1)) 12 (Value.agg #[(Value.int .i64 mb), (Value.int .i64 nb), v2])) [] ∧ Holds w1__ (cl b301_ 5 [(Value.int .u8 107)] :: ro R284_ :: clf b15_ 5 [(Value.int .u8 107)] :: cl b7_ 34 [(Value.int .i64 mb), (Value.int .i64 nb), v2] :: cl b2_ 34 [(Value.int .i64 ma), (Value.int .i64 na), v1] :: F) ∧ Same w w1__ ∧ (Sub R R284_) ∧ (N287_.map GN.m = N1.map GN.m) ∧ (RS R284_ 4 v286_ (List.length N287_) (N287_.flatMap GN.cells)) ∧ (∀ x ∈ N287_, GOk R284_ x) ∧ (List.length N287_ = List.length N1) ∧ (∀ x ∈ N287_, x.l.length ≤ 100000) ∧ (N287_.map GN.k = N1.map GN.k)) ?_ ?_
 ·rintro _ w764_ ⟨b15_, R284_, v286_, N287_, b301_, h, rfl, H765_, S766_, hs283_, he288_, he289_, he290_, hdl1, hda1, hdk1⟩
  refine A_ready (i := 1) (rs := []) (by kernel_rfl) ?_
  refine AllR.cons ?_ AllR.nil
  refine A_op (ls' := #[true, true, true, true, false, true, true, true, false, false, false, false]) rfl (by kernel_rfl) (T_convSame rfl Try.underlying57 Try.underlying5 H765_ 2 rfl ?_)
  intro w767_ S769_ H768_
  have S770_ := Same.trans S766_ S769_
  refine ⟨⟨Holds.rd H768_ 3 rfl, Holds.rd H768_ 4 rfl, (Sub.trans' hs283_ (Holds.ro_at H768_ 1 rfl))⟩, ?_⟩
  exact hJ459 _ _ ⟨b15_, R284_, v286_, N287_, b301_, _, congrArg (fun e => mkA 16 e []) (ch (ch (ch (ch (ch rfl rfl) rfl) rfl) rfl) rfl), H768_, S770_, hs283_, he288_, he289_, he290_, hdl1, hda1, hdk1⟩
 intro hJ464
 refine A_cut #[true, true, true, true, false, false, false, true, false, false, false, false] 7 (fun a__ w1__ => ∃ b15_ : Nat, ∃ R25_ : HP, ∃ v27_ : Value, ∃ N28_ : List GN, ∃ h : Env, a__ = mkA 16 (upd (upd (upd (upd h 4 (Value.bool false)) 6 (Value.slice (some ⟨b15_, 0, none⟩) 1 1)) 8 (Value.agg #[(Value.int .i64 ma), (Value.int .i64 na), v27_])) 12 (Value.agg #[(Value.int .i64 mb), (Value.int .i64 nb), v2])) [] ∧ Holds w1__ (ro R25_ :: cl b15_ 5 [(Value.int .u8 107)] :: cl b7_ 34 [(Value.int .i64 mb), (Value.int .i64 nb), v2] :: cl b2_ 34 [(Value.int .i64 ma), (Value.int .i64 na), v1] :: F) ∧ Same w w1__ ∧ (Sub R R25_) ∧ (N28_.map GN.m = N1.map GN.m) ∧ (RS R25_ 4 v27_ (List.length N28_) (N28_.flatMap GN.cells)) ∧ (∀ x ∈ N28_, GOk R25_ x) ∧ (List.length N28_ = List.length N1) ∧ (∀ x ∈ N28_, x.l.length ≤ 100000) ∧ (N28_.map GN.k = N1.map GN.k)) ?_ ?_
 ·rintro _ w771_ ⟨b15_, R25_, v27_, N28_, h, rfl, H772_, S773_, hs24_, he29_, he30_, he31_, hdl1, hda1, hdk1⟩
  refine A_ready (i := 4) (rs := [5]) (by kernel_rfl) ?_
  refine AllR.cons ?_ ?_
  ·skip
   refine A_op (ls' := #[true, true, true, true, true, false, false, true, false, false, false, false]) rfl (by kernel_rfl) (T_callW (al := [(Value.slice (some ⟨b15_, 0, none⟩) 1 1), (Value.agg #[(Value.int .i64 ma), (Value.int .i64 na), v27_])]) rfl rfl cb19 (Calls.into (n := 9) (al := [(Value.slice (some ⟨b15_, 0, none⟩) 1 1), (Value.agg #[(Value.int .i64 ma), (Value.int .i64 na), v27_])]) Try.func19 rfl Try.ntmps19 rfl rfl ?_))
   refine C_seq (fun K774_ hK774_ => ?_)
   refine C_reg ?_
   refine S_list (T_box (v := (Value.agg #[(Value.int .i64 ma), (Value.int .i64 na), v27_])) rfl H772_ ?_)
   intro b775_ w776_ S778_ H777_
   have S779_ := Same.trans S773_ S778_
   refine S_list (T_alloc z55 H777_ ?_)
   intro b780_ w781_ S783_ H782_
   replace H782_ : Holds w781_ (cl b780_ 55 [(Value.pointer none)] :: cl b775_ 61 [(Value.int .i64 ma), (Value.int .i64 na), v27_] :: ro R25_ :: cl b15_ 5 [(Value.int .u8 107)] :: cl b7_ 34 [(Value.int .i64 mb), (Value.int .i64 nb), v2] :: cl b2_ 34 [(Value.int .i64 ma), (Value.int .i64 na), v1] :: F) := H782_
   have S784_ := Same.trans S779_ S783_
   refine wpList_nil ?_
   refine (X_then (hK774_ _ _ ?_))
   clear hK774_
   refine C_seq (fun K785_ hK785_ => ?_)
   refine C_reg ?_
   refine S_list (T_val (v := (Value.slice (some ⟨b15_, 0, none⟩) 1 1)) (x_move rfl) ?_)
   refine S_list (T_val (v := (Value.agg #[(Value.int .i64 ma), (Value.int .i64 na), v27_])) (x_loadN (vs := [(Value.int .i64 ma), (Value.int .i64 na), v27_]) rfl Try.underlying61 rfl z61 rfl (Rd.cells (Holds.rd H782_ 1 rfl) 0 rfl)) ?_)
   have H799_ := ((Holds.bring H782_ 2 rfl) :)
   refine S_list (T_callG (al := [(Value.slice (some ⟨b15_, 0, none⟩) 1 1), (Value.agg #[(Value.int .i64 ma), (Value.int .i64 na), v27_])]) (pre := []) rfl rfl cb32 (kZzIn R25_ (some ⟨b15_, 0, none⟩) 1 1 ma na v27_ N28_ he30_ (he31_) (by omega) (hda1)) H799_ ?_)
   rintro R787_ v788_ p803_ w800_ hs786_ ⟨kb789_, gv790_, lv791_, N0792_, T793_, ll794_, rfl, rfl, he795_, he796_, he797_, he798_⟩ S802_ H801_
   have S804_ := Same.trans S784_ S802_
   have hz_R_R787_ := Sub.trans' hs24_ hs786_
   have hzl1 := map_m_len he795_
   have hza1 := map_m_all he795_ hda1
   have hzk1 := (map_m_k he795_).trans hdk1
   refine S_list (T_val (v := (Value.agg #[(Value.pointer (some ⟨kb789_, 0, none⟩))])) (by kernel_rfl) ?_)
   refine S_list0 (T_storeN (vs := [(Value.pointer (some ⟨kb789_, 0, none⟩))]) rfl rfl z55 rfl (by simp [Value.oneCell']) H801_ 4 rfl (Nat.le_of_ble_eq_true (by rfl)) ?_)
   intro w805_ S807_ H806_
   replace H806_ : Holds w805_ (ro R787_ :: cl kb789_ 104 [(Value.slice (some ⟨b15_, 0, none⟩) 1 1), (Value.int .i64 ma), (Value.int .i64 na), gv790_] :: sl 106 4 gv790_ (List.length (N0792_ ++ T793_)) ((N0792_ ++ T793_).flatMap GN.cells) :: sl 58 2 lv791_ (List.length ll794_) (ll794_.flatMap RV.cells) :: cl b780_ 55 [(Value.pointer (some ⟨kb789_, 0, none⟩))] :: cl b775_ 61 [(Value.int .i64 ma), (Value.int .i64 na), v27_] :: cl b15_ 5 [(Value.int .u8 107)] :: cl b7_ 34 [(Value.int .i64 mb), (Value.int .i64 nb), v2] :: cl b2_ 34 [(Value.int .i64 ma), (Value.int .i64 na), v1] :: F) := H806_
   have S808_ := Same.trans S804_ S807_
   refine wpList_nil ?_
   refine (X_then (hK785_ _ _ ?_))
   clear hK785_
   refine C_ret ?_
   refine R_any (v := (Value.agg #[(Value.pointer (some ⟨kb789_, 0, none⟩))])) (run_results1 rfl ⟨_, rfl, load_resN Try.underlying55 rfl z55 rfl (vs := [(Value.pointer (some ⟨kb789_, 0, none⟩))]) (Holds.cl_cells H806_ 4 rfl 0 rfl)⟩) ⟨_, rfl, ?_⟩
   refine ⟨⟨Holds.rd H806_ 7 rfl, Holds.rd H806_ 8 rfl, (Sub.trans' hz_R_R787_ (Holds.ro_at H806_ 0 rfl))⟩, ?_⟩
   have H809_ : Holds w805_ (ro R787_ :: cl kb789_ 104 [(Value.slice (some ⟨b15_, 0, none⟩) 1 1), (Value.int .i64 ma), (Value.int .i64 na), gv790_] :: sl 106 4 gv790_ (List.length (N0792_ ++ T793_)) ((N0792_ ++ T793_).flatMap GN.cells) :: sl 58 2 lv791_ (List.length ll794_) (ll794_.flatMap RV.cells) :: cl b15_ 5 [(Value.int .u8 107)] :: cl b7_ 34 [(Value.int .i64 mb), (Value.int .i64 nb), v2] :: cl b2_ 34 [(Value.int .i64 ma), (Value.int .i64 na), v1] :: F) := (Holds.pkF H806_ [0, 0, 0, 0, 2, 2, 2] 2 :)
   exact hJ452 _ _ ⟨b15_, R25_, v27_, N28_, R787_, kb789_, gv790_, lv791_, N0792_, T793_, ll794_, _, congrArg (fun e => mkA 16 e []) (ch (ch (ch rfl rfl) rfl) rfl), H809_, S808_, hs24_, he29_, he30_, he31_, hdl1, hda1, hdk1, hz_R_R787_, hs786_, he795_, he796_, he797_, he798_, hzl1, hza1, hzk1⟩
  refine AllR.cons ?_ AllR.nil
  refine A_op (ls' := #[true, true, true, true, false, true, false, true, false, false, false, false]) rfl (by kernel_rfl) (T_new (obj := .cells #[(Value.int .u8 107)] 5) (f := fun b__ => .slice (some ⟨b__, 0, none⟩) 1 1) (A := fun b__ => clf b__ 5 [(Value.int .u8 107)]) (by kernel_rfl) (fun l h => h.allocOb _) H772_ ?_)
  intro b810_ w811_ S813_ H812_
  have S814_ := Same.trans S773_ S813_
  refine ⟨⟨Holds.rd H812_ 3 rfl, Holds.rd H812_ 4 rfl, (Sub.trans' hs24_ (Holds.ro_at H812_ 1 rfl))⟩, ?_⟩
  exact hJ458 _ _ ⟨b15_, R25_, v27_, N28_, b810_, _, congrArg (fun e => mkA 16 e []) (ch (ch (ch (ch (ch rfl rfl) rfl) rfl) rfl) rfl), H812_, S814_, hs24_, he29_, he30_, he31_, hdl1, hda1, hdk1⟩
 intro hJ451
 refine A_cut #[true, true, true, false, false, true, false, true, false, false, false, false] 7 (fun a__ w1__ => ∃ b15_ : Nat, ∃ b246_ : Nat, ∃ h : Env, a__ = mkA 16 (upd (upd (upd (upd (upd h 4 (Value.bool false)) 6 (Value.slice (some ⟨b15_, 0, none⟩) 1 1)) 7 (Value.agg #[(Value.int .i64 ma), (Value.int .i64 na), v1])) 10 (Value.slice (some ⟨b246_, 0, none⟩) 1 1)) 12 (Value.agg #[(Value.int .i64 mb), (Value.int .i64 nb), v2])) [] ∧ Holds w1__ (clf b246_ 5 [(Value.int .u8 107)] :: cl b15_ 5 [(Value.int .u8 107)] :: cl b7_ 34 [(Value.int .i64 mb), (Value.int .i64 nb), v2] :: cl b2_ 34 [(Value.int .i64 ma), (Value.int .i64 na), v1] :: ro R :: F) ∧ Same w w1__) ?_ ?_
 ·rintro _ w815_ ⟨b15_, b246_, h, rfl, H816_, S817_⟩
  refine A_ready (i := 3) (rs := [6]) (by kernel_rfl) ?_
  refine AllR.cons ?_ ?_
  ·skip
   have H826_ := ((Holds.bring H816_ 4 rfl) :)
   refine A_op (ls' := #[true, true, true, true, false, true, false, true, false, false, false, false]) rfl (by kernel_rfl) (T_callG (al := [(Value.agg #[(Value.int .i64 ma), (Value.int .i64 na), v1])]) (pre := []) rfl rfl cb20 (kDumpIn R ma na v1 N1 h1 (hg1) (by omega) (hb2)) H826_ ?_)
   rintro R819_ v820_ p830_ w827_ hs818_ ⟨v821_, N822_, rfl, rfl, he823_, he824_, he825_⟩ S829_ H828_
   replace H828_ : Holds w827_ (ro R819_ :: clf b246_ 5 [(Value.int .u8 107)] :: cl b15_ 5 [(Value.int .u8 107)] :: cl b7_ 34 [(Value.int .i64 mb), (Value.int .i64 nb), v2] :: cl b2_ 34 [(Value.int .i64 ma), (Value.int .i64 na), v1] :: F) := H828_
   have S831_ := Same.trans S817_ S829_
   have hdl1 := map_m_len he823_
   have hda1 := map_m_all he823_ hb2
   have hdk1 := map_m_k he823_
   refine ⟨⟨Holds.rd H828_ 3 rfl, Holds.rd H828_ 4 rfl, (Sub.trans' hs818_ (Holds.ro_at H828_ 0 rfl))⟩, ?_⟩
   have H832_ : Holds w827_ (clf b246_ 5 [(Value.int .u8 107)] :: ro R819_ :: cl b15_ 5 [(Value.int .u8 107)] :: cl b7_ 34 [(Value.int .i64 mb), (Value.int .i64 nb), v2] :: cl b2_ 34 [(Value.int .i64 ma), (Value.int .i64 na), v1] :: F) := (Holds.pkF H828_ [1, 0, 0, 0, 0] 0 :)
   exact hJ458 _ _ ⟨b15_, R819_, v821_, N822_, b246_, _, congrArg (fun e => mkA 16 e []) (ch (ch (ch (ch (ch rfl rfl) rfl) rfl) rfl) rfl), H832_, S831_, hs818_, he823_, he824_, he825_, hdl1, hda1, hdk1⟩
  refine AllR.cons ?_ AllR.nil
  refine A_op (ls' := #[true, true, true, false, false, true, true, true, false, false, false, false]) rfl (by kernel_rfl) (T_convSame rfl Try.underlying57 Try.underlying5 H816_ 0 rfl ?_)
  intro w833_ S835_ H834_
  have S836_ := Same.trans S817_ S835_
  refine ⟨⟨Holds.rd H834_ 2 rfl, Holds.rd H834_ 3 rfl, (Holds.ro_at H834_ 4 rfl)⟩, ?_⟩
  exact hJ461 _ _ ⟨b15_, b246_, _, congrArg (fun e => mkA 16 e []) (ch (ch (ch (ch (ch rfl rfl) rfl) rfl) rfl) rfl), H834_, S836_⟩
 intro hJ460
 refine A_cut #[true, false, true, true, false, true, false, true, false, false, false, false] 7 (fun a__ w1__ => ∃ b15_ : Nat, ∃ R284_ : HP, ∃ v286_ : Value, ∃ N287_ : List GN, ∃ b301_ : Nat, ∃ h : Env, a__ = mkA 16 (upd (upd (upd (upd (upd h 4 (Value.bool false)) 5 (Value.slice (some ⟨b15_, 0, none⟩) 1 1)) 8 (Value.agg #[(Value.int .i64 ma), (Value.int .i64 na), v286_])) 10 (Value.slice (some ⟨b301_, 0, none⟩) 1 1)) 12 (Value.agg #[(Value.int .i64 mb), (Value.int .i64 nb), v2])) [] ∧ Holds w1__ (clf b301_ 5 [(Value.int .u8 107)] :: ro R284_ :: clf b15_ 5 [(Value.int .u8 107)] :: cl b7_ 34 [(Value.int .i64 mb), (Value.int .i64 nb), v2] :: cl b2_ 34 [(Value.int .i64 ma), (Value.int .i64 na), v1] :: F) ∧ Same w w1__ ∧ (Sub R R284_) ∧ (N287_.map GN.m = N1.map GN.m) ∧ (RS R284_ 4 v286_ (List.length N287_) (N287_.flatMap GN.cells)) ∧ (∀ x ∈ N287_, GOk R284_ x) ∧ (List.length N287_ = List.length N1) ∧ (∀ x ∈ N287_, x.l.length ≤ 100000) ∧ (N287_.map GN.k = N1.map GN.k)) ?_ ?_
 ·rintro _ w837_ ⟨b15_, R284_, v286_, N287_, b301_, h, rfl, H838_, S839_, hs283_, he288_, he289_, he290_, hdl1, hda1, hdk1⟩
  refine A_ready (i := 1) (rs := [6]) (by kernel_rfl) ?_
  refine AllR.cons ?_ ?_
  ·skip
   refine A_op (ls' := #[true, true, true, true, false, true, false, true, false, false, false, false]) rfl (by kernel_rfl) (T_convSame rfl Try.underlying57 Try.underlying5 H838_ 2 rfl ?_)
   intro w840_ S842_ H841_
   have S843_ := Same.trans S839_ S842_
   refine ⟨⟨Holds.rd H841_ 3 rfl, Holds.rd H841_ 4 rfl, (Sub.trans' hs283_ (Holds.ro_at H841_ 1 rfl))⟩, ?_⟩
   exact hJ458 _ _ ⟨b15_, R284_, v286_, N287_, b301_, _, congrArg (fun e => mkA 16 e []) (ch (ch (ch (ch (ch rfl rfl) rfl) rfl) rfl) rfl), H841_, S843_, hs283_, he288_, he289_, he290_, hdl1, hda1, hdk1⟩
  refine AllR.cons ?_ AllR.nil
  refine A_op (ls' := #[true, false, true, true, false, true, true, true, false, false, false, false]) rfl (by kernel_rfl) (T_convSame rfl Try.underlying57 Try.underlying5 H838_ 0 rfl ?_)
  intro w844_ S846_ H845_
  replace H845_ : Holds w844_ (cl b301_ 5 [(Value.int .u8 107)] :: ro R284_ :: clf b15_ 5 [(Value.int .u8 107)] :: cl b7_ 34 [(Value.int .i64 mb), (Value.int .i64 nb), v2] :: cl b2_ 34 [(Value.int .i64 ma), (Value.int .i64 na), v1] :: F) := H845_
  have S847_ := Same.trans S839_ S846_
  refine ⟨⟨Holds.rd H845_ 3 rfl, Holds.rd H845_ 4 rfl, (Sub.trans' hs283_ (Holds.ro_at H845_ 1 rfl))⟩, ?_⟩
  exact hJ464 _ _ ⟨b15_, R284_, v286_, N287_, b301_, _, congrArg (fun e => mkA 16 e []) (ch (ch (ch (ch (ch rfl rfl) rfl) rfl) rfl) rfl), H845_, S847_, hs283_, he288_, he289_, he290_, hdl1, hda1, hdk1⟩
 intro hJ463
 refine A_cut #[true, false, true, false, false, true, true, true, false, false, false, false] 7 (fun a__ w1__ => ∃ b15_ : Nat, ∃ b318_ : Nat, ∃ h : Env, a__ = mkA 16 (upd (upd (upd (upd (upd h 4 (Value.bool false)) 5 (Value.slice (some ⟨b15_, 0, none⟩) 1 1)) 7 (Value.agg #[(Value.int .i64 ma), (Value.int .i64 na), v1])) 11 (Value.slice (some ⟨b318_, 0, none⟩) 1 1)) 12 (Value.agg #[(Value.int .i64 mb), (Value.int .i64 nb), v2])) [] ∧ Holds w1__ (cl b318_ 5 [(Value.int .u8 107)] :: clf b15_ 5 [(Value.int .u8 107)] :: cl b7_ 34 [(Value.int .i64 mb), (Value.int .i64 nb), v2] :: cl b2_ 34 [(Value.int .i64 ma), (Value.int .i64 na), v1] :: ro R :: F) ∧ Same w w1__) ?_ ?_
 ·rintro _ w848_ ⟨b15_, b318_, h, rfl, H849_, S850_⟩
  refine A_ready (i := 1) (rs := [3]) (by kernel_rfl) ?_
  refine AllR.cons ?_ ?_
  ·skip
   refine A_op (ls' := #[true, true, true, false, false, true, true, true, false, false, false, false]) rfl (by kernel_rfl) (T_convSame rfl Try.underlying57 Try.underlying5 H849_ 1 rfl ?_)
   intro w851_ S853_ H852_
   have S854_ := Same.trans S850_ S853_
   refine ⟨⟨Holds.rd H852_ 2 rfl, Holds.rd H852_ 3 rfl, (Holds.ro_at H852_ 4 rfl)⟩, ?_⟩
   exact hJ461 _ _ ⟨b15_, b318_, _, congrArg (fun e => mkA 16 e []) (ch (ch (ch (ch (ch rfl rfl) rfl) rfl) rfl) rfl), H852_, S854_⟩
  refine AllR.cons ?_ AllR.nil
  have H863_ := ((Holds.bring H849_ 4 rfl) :)
  refine A_op (ls' := #[true, false, true, true, false, true, true, true, false, false, false, false]) rfl (by kernel_rfl) (T_callG (al := [(Value.agg #[(Value.int .i64 ma), (Value.int .i64 na), v1])]) (pre := []) rfl rfl cb20 (kDumpIn R ma na v1 N1 h1 (hg1) (by omega) (hb2)) H863_ ?_)
  rintro R856_ v857_ p867_ w864_ hs855_ ⟨v858_, N859_, rfl, rfl, he860_, he861_, he862_⟩ S866_ H865_
  replace H865_ : Holds w864_ (ro R856_ :: cl b318_ 5 [(Value.int .u8 107)] :: clf b15_ 5 [(Value.int .u8 107)] :: cl b7_ 34 [(Value.int .i64 mb), (Value.int .i64 nb), v2] :: cl b2_ 34 [(Value.int .i64 ma), (Value.int .i64 na), v1] :: F) := H865_
  have S868_ := Same.trans S850_ S866_
  have hdl1 := map_m_len he860_
  have hda1 := map_m_all he860_ hb2
  have hdk1 := map_m_k he860_
  refine ⟨⟨Holds.rd H865_ 3 rfl, Holds.rd H865_ 4 rfl, (Sub.trans' hs855_ (Holds.ro_at H865_ 0 rfl))⟩, ?_⟩
  have H869_ : Holds w864_ (cl b318_ 5 [(Value.int .u8 107)] :: ro R856_ :: clf b15_ 5 [(Value.int .u8 107)] :: cl b7_ 34 [(Value.int .i64 mb), (Value.int .i64 nb), v2] :: cl b2_ 34 [(Value.int .i64 ma), (Value.int .i64 na), v1] :: F) := (Holds.pkF H865_ [1, 0, 0, 0, 0] 0 :)
  exact hJ464 _ _ ⟨b15_, R856_, v858_, N859_, b318_, _, congrArg (fun e => mkA 16 e []) (ch (ch (ch (ch (ch rfl rfl) rfl) rfl) rfl) rfl), H869_, S868_, hs855_, he860_, he861_, he862_, hdl1, hda1, hdk1⟩
 intro hJ466
 refine A_cut #[false, false, true, true, false, true, true, true, false, false, false, false] 7 (fun a__ w1__ => ∃ R364_ : HP, ∃ v366_ : Value, ∃ N367_ : List GN, ∃ b382_ : Nat, ∃ h : Env, a__ = mkA 16 (upd (upd (upd (upd h 4 (Value.bool false)) 8 (Value.agg #[(Value.int .i64 ma), (Value.int .i64 na), v366_])) 11 (Value.slice (some ⟨b382_, 0, none⟩) 1 1)) 12 (Value.agg #[(Value.int .i64 mb), (Value.int .i64 nb), v2])) [] ∧ Holds w1__ (cl b382_ 5 [(Value.int .u8 107)] :: ro R364_ :: cl b7_ 34 [(Value.int .i64 mb), (Value.int .i64 nb), v2] :: cl b2_ 34 [(Value.int .i64 ma), (Value.int .i64 na), v1] :: F) ∧ Same w w1__ ∧ (Sub R R364_) ∧ (N367_.map GN.m = N1.map GN.m) ∧ (RS R364_ 4 v366_ (List.length N367_) (N367_.flatMap GN.cells)) ∧ (∀ x ∈ N367_, GOk R364_ x) ∧ (List.length N367_ = List.length N1) ∧ (∀ x ∈ N367_, x.l.length ≤ 100000) ∧ (N367_.map GN.k = N1.map GN.k)) ?_ ?_
 ·rintro _ w870_ ⟨R364_, v366_, N367_, b382_, h, rfl, H871_, S872_, hs363_, he368_, he369_, he370_, hdl1, hda1, hdk1⟩
  refine A_ready (i := 0) (rs := []) (by kernel_rfl) ?_
  refine AllR.cons ?_ AllR.nil
  refine A_op (ls' := #[true, false, true, true, false, true, true, true, false, false, false, false]) rfl (by kernel_rfl) (T_new (obj := .cells #[(Value.int .u8 107)] 5) (f := fun b__ => .slice (some ⟨b__, 0, none⟩) 1 1) (A := fun b__ => clf b__ 5 [(Value.int .u8 107)]) (by kernel_rfl) (fun l h => h.allocOb _) H871_ ?_)
  intro b873_ w874_ S876_ H875_
  have S877_ := Same.trans S872_ S876_
  refine ⟨⟨Holds.rd H875_ 3 rfl, Holds.rd H875_ 4 rfl, (Sub.trans' hs363_ (Holds.ro_at H875_ 2 rfl))⟩, ?_⟩
  have H878_ : Holds w874_ (cl b382_ 5 [(Value.int .u8 107)] :: ro R364_ :: clf b873_ 5 [(Value.int .u8 107)] :: cl b7_ 34 [(Value.int .i64 mb), (Value.int .i64 nb), v2] :: cl b2_ 34 [(Value.int .i64 ma), (Value.int .i64 na), v1] :: F) := (Holds.pkF H875_ [1, 1, 0, 0, 0] 0 :)
  exact hJ464 _ _ ⟨b873_, R364_, v366_, N367_, b382_, _, congrArg (fun e => mkA 16 e []) (ch (ch (ch (ch (ch rfl rfl) rfl) rfl) rfl) rfl), H878_, S877_, hs363_, he368_, he369_, he370_, hdl1, hda1, hdk1⟩
 intro hJ469
 refine A_cut #[true, true, true, false, false, false, false, true, false, false, false, false] 8 (fun a__ w1__ => ∃ b15_ : Nat, ∃ h : Env, a__ = mkA 16 (upd (upd (upd (upd h 4 (Value.bool false)) 6 (Value.slice (some ⟨b15_, 0, none⟩) 1 1)) 7 (Value.agg #[(Value.int .i64 ma), (Value.int .i64 na), v1])) 12 (Value.agg #[(Value.int .i64 mb), (Value.int .i64 nb), v2])) [] ∧ Holds w1__ (cl b15_ 5 [(Value.int .u8 107)] :: cl b7_ 34 [(Value.int .i64 mb), (Value.int .i64 nb), v2] :: cl b2_ 34 [(Value.int .i64 ma), (Value.int .i64 na), v1] :: ro R :: F) ∧ Same w w1__) ?_ ?_
 ·rintro _ w879_ ⟨b15_, h, rfl, H880_, S881_⟩
  refine A_ready (i := 3) (rs := [5]) (by kernel_rfl) ?_
  refine AllR.cons ?_ ?_
  ·skip
   have H890_ := ((Holds.bring H880_ 3 rfl) :)
   refine A_op (ls' := #[true, true, true, true, false, false, false, true, false, false, false, false]) rfl (by kernel_rfl) (T_callG (al := [(Value.agg #[(Value.int .i64 ma), (Value.int .i64 na), v1])]) (pre := []) rfl rfl cb20 (kDumpIn R ma na v1 N1 h1 (hg1) (by omega) (hb2)) H890_ ?_)
   rintro R883_ v884_ p894_ w891_ hs882_ ⟨v885_, N886_, rfl, rfl, he887_, he888_, he889_⟩ S893_ H892_
   have S895_ := Same.trans S881_ S893_
   have hdl1 := map_m_len he887_
   have hda1 := map_m_all he887_ hb2
   have hdk1 := map_m_k he887_
   refine ⟨⟨Holds.rd H892_ 2 rfl, Holds.rd H892_ 3 rfl, (Sub.trans' hs882_ (Holds.ro_at H892_ 0 rfl))⟩, ?_⟩
   exact hJ451 _ _ ⟨b15_, R883_, v885_, N886_, _, congrArg (fun e => mkA 16 e []) (ch (ch (ch (ch rfl rfl) rfl) rfl) rfl), H892_, S895_, hs882_, he887_, he888_, he889_, hdl1, hda1, hdk1⟩
  refine AllR.cons ?_ AllR.nil
  refine A_op (ls' := #[true, true, true, false, false, true, false, true, false, false, false, false]) rfl (by kernel_rfl) (T_new (obj := .cells #[(Value.int .u8 107)] 5) (f := fun b__ => .slice (some ⟨b__, 0, none⟩) 1 1) (A := fun b__ => clf b__ 5 [(Value.int .u8 107)]) (by kernel_rfl) (fun l h => h.allocOb _) H880_ ?_)
  intro b896_ w897_ S899_ H898_
  replace H898_ : Holds w897_ (clf b896_ 5 [(Value.int .u8 107)] :: cl b15_ 5 [(Value.int .u8 107)] :: cl b7_ 34 [(Value.int .i64 mb), (Value.int .i64 nb), v2] :: cl b2_ 34 [(Value.int .i64 ma), (Value.int .i64 na), v1] :: ro R :: F) := H898_
  have S900_ := Same.trans S881_ S899_
  refine ⟨⟨Holds.rd H898_ 2 rfl, Holds.rd H898_ 3 rfl, (Holds.ro_at H898_ 4 rfl)⟩, ?_⟩
  exact hJ460 _ _ ⟨b15_, b896_, _, congrArg (fun e => mkA 16 e []) (ch (ch (ch (ch (ch rfl rfl) rfl) rfl) rfl) rfl), H898_, S900_⟩
 intro hJ450
 refine A_cut #[true, false, true, true, false, false, false, true, false, false, false, false] 8 (fun a__ w1__ => ∃ b15_ : Nat, ∃ R284_ : HP, ∃ v286_ : Value, ∃ N287_ : List GN, ∃ h : Env, a__ = mkA 16 (upd (upd (upd (upd h 4 (Value.bool false)) 5 (Value.slice (some ⟨b15_, 0, none⟩) 1 1)) 8 (Value.agg #[(Value.int .i64 ma), (Value.int .i64 na), v286_])) 12 (Value.agg #[(Value.int .i64 mb), (Value.int .i64 nb), v2])) [] ∧ Holds w1__ (ro R284_ :: clf b15_ 5 [(Value.int .u8 107)] :: cl b7_ 34 [(Value.int .i64 mb), (Value.int .i64 nb), v2] :: cl b2_ 34 [(Value.int .i64 ma), (Value.int .i64 na), v1] :: F) ∧ Same w w1__ ∧ (Sub R R284_) ∧ (N287_.map GN.m = N1.map GN.m) ∧ (RS R284_ 4 v286_ (List.length N287_) (N287_.flatMap GN.cells)) ∧ (∀ x ∈ N287_, GOk R284_ x) ∧ (List.length N287_ = List.length N1) ∧ (∀ x ∈ N287_, x.l.length ≤ 100000) ∧ (N287_.map GN.k = N1.map GN.k)) ?_ ?_
 ·rintro _ w901_ ⟨b15_, R284_, v286_, N287_, h, rfl, H902_, S903_, hs283_, he288_, he289_, he290_, hdl1, hda1, hdk1⟩
  refine A_ready (i := 1) (rs := [5]) (by kernel_rfl) ?_
  refine AllR.cons ?_ ?_
  ·skip
   refine A_op (ls' := #[true, true, true, true, false, false, false, true, false, false, false, false]) rfl (by kernel_rfl) (T_convSame rfl Try.underlying57 Try.underlying5 H902_ 1 rfl ?_)
   intro w904_ S906_ H905_
   have S907_ := Same.trans S903_ S906_
   refine ⟨⟨Holds.rd H905_ 2 rfl, Holds.rd H905_ 3 rfl, (Sub.trans' hs283_ (Holds.ro_at H905_ 0 rfl))⟩, ?_⟩
   exact hJ451 _ _ ⟨b15_, R284_, v286_, N287_, _, congrArg (fun e => mkA 16 e []) (ch (ch (ch (ch rfl rfl) rfl) rfl) rfl), H905_, S907_, hs283_, he288_, he289_, he290_, hdl1, hda1, hdk1⟩
  refine AllR.cons ?_ AllR.nil
  refine A_op (ls' := #[true, false, true, true, false, true, false, true, false, false, false, false]) rfl (by kernel_rfl) (T_new (obj := .cells #[(Value.int .u8 107)] 5) (f := fun b__ => .slice (some ⟨b__, 0, none⟩) 1 1) (A := fun b__ => clf b__ 5 [(Value.int .u8 107)]) (by kernel_rfl) (fun l h => h.allocOb _) H902_ ?_)
  intro b908_ w909_ S911_ H910_
  have S912_ := Same.trans S903_ S911_
  refine ⟨⟨Holds.rd H910_ 3 rfl, Holds.rd H910_ 4 rfl, (Sub.trans' hs283_ (Holds.ro_at H910_ 1 rfl))⟩, ?_⟩
  exact hJ463 _ _ ⟨b15_, R284_, v286_, N287_, b908_, _, congrArg (fun e => mkA 16 e []) (ch (ch (ch (ch (ch rfl rfl) rfl) rfl) rfl) rfl), H910_, S912_, hs283_, he288_, he289_, he290_, hdl1, hda1, hdk1⟩
 intro hJ462
 refine A_cut #[true, false, true, false, false, true, false, true, false, false, false, false] 8 (fun a__ w1__ => ∃ b15_ : Nat, ∃ b318_ : Nat, ∃ h : Env, a__ = mkA 16 (upd (upd (upd (upd (upd h 4 (Value.bool false)) 5 (Value.slice (some ⟨b15_, 0, none⟩) 1 1)) 7 (Value.agg #[(Value.int .i64 ma), (Value.int .i64 na), v1])) 10 (Value.slice (some ⟨b318_, 0, none⟩) 1 1)) 12 (Value.agg #[(Value.int .i64 mb), (Value.int .i64 nb), v2])) [] ∧ Holds w1__ (clf b318_ 5 [(Value.int .u8 107)] :: clf b15_ 5 [(Value.int .u8 107)] :: cl b7_ 34 [(Value.int .i64 mb), (Value.int .i64 nb), v2] :: cl b2_ 34 [(Value.int .i64 ma), (Value.int .i64 na), v1] :: ro R :: F) ∧ Same w w1__) ?_ ?_
 ·rintro _ w913_ ⟨b15_, b318_, h, rfl, H914_, S915_⟩
  refine A_ready (i := 1) (rs := [3, 6]) (by kernel_rfl) ?_
  refine AllR.cons ?_ ?_
  ·skip
   refine A_op (ls' := #[true, true, true, false, false, true, false, true, false, false, false, false]) rfl (by kernel_rfl) (T_convSame rfl Try.underlying57 Try.underlying5 H914_ 1 rfl ?_)
   intro w916_ S918_ H917_
   replace H917_ : Holds w916_ (clf b318_ 5 [(Value.int .u8 107)] :: cl b15_ 5 [(Value.int .u8 107)] :: cl b7_ 34 [(Value.int .i64 mb), (Value.int .i64 nb), v2] :: cl b2_ 34 [(Value.int .i64 ma), (Value.int .i64 na), v1] :: ro R :: F) := H917_
   have S919_ := Same.trans S915_ S918_
   refine ⟨⟨Holds.rd H917_ 2 rfl, Holds.rd H917_ 3 rfl, (Holds.ro_at H917_ 4 rfl)⟩, ?_⟩
   exact hJ460 _ _ ⟨b15_, b318_, _, congrArg (fun e => mkA 16 e []) (ch (ch (ch (ch (ch rfl rfl) rfl) rfl) rfl) rfl), H917_, S919_⟩
  refine AllR.cons ?_ ?_
  ·skip
   have H928_ := ((Holds.bring H914_ 4 rfl) :)
   refine A_op (ls' := #[true, false, true, true, false, true, false, true, false, false, false, false]) rfl (by kernel_rfl) (T_callG (al := [(Value.agg #[(Value.int .i64 ma), (Value.int .i64 na), v1])]) (pre := []) rfl rfl cb20 (kDumpIn R ma na v1 N1 h1 (hg1) (by omega) (hb2)) H928_ ?_)
   rintro R921_ v922_ p932_ w929_ hs920_ ⟨v923_, N924_, rfl, rfl, he925_, he926_, he927_⟩ S931_ H930_
   have S933_ := Same.trans S915_ S931_
   have hdl1 := map_m_len he925_
   have hda1 := map_m_all he925_ hb2
   have hdk1 := map_m_k he925_
   refine ⟨⟨Holds.rd H930_ 3 rfl, Holds.rd H930_ 4 rfl, (Sub.trans' hs920_ (Holds.ro_at H930_ 0 rfl))⟩, ?_⟩
   have H934_ : Holds w929_ (clf b318_ 5 [(Value.int .u8 107)] :: ro R921_ :: clf b15_ 5 [(Value.int .u8 107)] :: cl b7_ 34 [(Value.int .i64 mb), (Value.int .i64 nb), v2] :: cl b2_ 34 [(Value.int .i64 ma), (Value.int .i64 na), v1] :: F) := (Holds.pkF H930_ [1, 0, 0, 0, 0] 0 :)
   exact hJ463 _ _ ⟨b15_, R921_, v923_, N924_, b318_, _, congrArg (fun e => mkA 16 e []) (ch (ch (ch (ch (ch rfl rfl) rfl) rfl) rfl) rfl), H934_, S933_, hs920_, he925_, he926_, he927_, hdl1, hda1, hdk1⟩
  refine AllR.cons ?_ AllR.nil
  refine A_op (ls' := #[true, false, true, false, false, true, true, true, false, false, false, false]) rfl (by kernel_rfl) (T_convSame rfl Try.underlying57 Try.underlying5 H914_ 0 rfl ?_)
  intro w935_ S937_ H936_
  have S938_ := Same.trans S915_ S937_
  refine ⟨⟨Holds.rd H936_ 2 rfl, Holds.rd H936_ 3 rfl, (Holds.ro_at H936_ 4 rfl)⟩, ?_⟩
  exact hJ466 _ _ ⟨b15_, b318_, _, congrArg (fun e => mkA 16 e []) (ch (ch (ch (ch (ch rfl rfl) rfl) rfl) rfl) rfl), H936_, S938_⟩
 intro hJ465
 refine A_cut #[false, false, true, true, false, true, false, true, false, false, false, false] 8 (fun a__ w1__ => ∃ R364_ : HP, ∃ v366_ : Value, ∃ N367_ : List GN, ∃ b382_ : Nat, ∃ h : Env, a__ = mkA 16 (upd (upd (upd (upd h 4 (Value.bool false)) 8 (Value.agg #[(Value.int .i64 ma), (Value.int .i64 na), v366_])) 10 (Value.slice (some ⟨b382_, 0, none⟩) 1 1)) 12 (Value.agg #[(Value.int .i64 mb), (Value.int .i64 nb), v2])) [] ∧ Holds w1__ (clf b382_ 5 [(Value.int .u8 107)] :: ro R364_ :: cl b7_ 34 [(Value.int .i64 mb), (Value.int .i64 nb), v2] :: cl b2_ 34 [(Value.int .i64 ma), (Value.int .i64 na), v1] :: F) ∧ Same w w1__ ∧ (Sub R R364_) ∧ (N367_.map GN.m = N1.map GN.m) ∧ (RS R364_ 4 v366_ (List.length N367_) (N367_.flatMap GN.cells)) ∧ (∀ x ∈ N367_, GOk R364_ x) ∧ (List.length N367_ = List.length N1) ∧ (∀ x ∈ N367_, x.l.length ≤ 100000) ∧ (N367_.map GN.k = N1.map GN.k)) ?_ ?_
 ·rintro _ w939_ ⟨R364_, v366_, N367_, b382_, h, rfl, H940_, S941_, hs363_, he368_, he369_, he370_, hdl1, hda1, hdk1⟩
  refine A_ready (i := 0) (rs := [6]) (by kernel_rfl) ?_
  refine AllR.cons ?_ ?_
  ·skip
   refine A_op (ls' := #[true, false, true, true, false, true, false, true, false, false, false, false]) rfl (by kernel_rfl) (T_new (obj := .cells #[(Value.int .u8 107)] 5) (f := fun b__ => .slice (some ⟨b__, 0, none⟩) 1 1) (A := fun b__ => clf b__ 5 [(Value.int .u8 107)]) (by kernel_rfl) (fun l h => h.allocOb _) H940_ ?_)
   intro b942_ w943_ S945_ H944_
   have S946_ := Same.trans S941_ S945_
   refine ⟨⟨Holds.rd H944_ 3 rfl, Holds.rd H944_ 4 rfl, (Sub.trans' hs363_ (Holds.ro_at H944_ 2 rfl))⟩, ?_⟩
   have H947_ : Holds w943_ (clf b382_ 5 [(Value.int .u8 107)] :: ro R364_ :: clf b942_ 5 [(Value.int .u8 107)] :: cl b7_ 34 [(Value.int .i64 mb), (Value.int .i64 nb), v2] :: cl b2_ 34 [(Value.int .i64 ma), (Value.int .i64 na), v1] :: F) := (Holds.pkF H944_ [1, 1, 0, 0, 0] 0 :)
   exact hJ463 _ _ ⟨b942_, R364_, v366_, N367_, b382_, _, congrArg (fun e => mkA 16 e []) (ch (ch (ch (ch (ch rfl rfl) rfl) rfl) rfl) rfl), H947_, S946_, hs363_, he368_, he369_, he370_, hdl1, hda1, hdk1⟩
  refine AllR.cons ?_ AllR.nil
  refine A_op (ls' := #[false, false, true, true, false, true, true, true, false, false, false, false]) rfl (by kernel_rfl) (T_convSame rfl Try.underlying57 Try.underlying5 H940_ 0 rfl ?_)
  intro w948_ S950_ H949_
  have S951_ := Same.trans S941_ S950_
  refine ⟨⟨Holds.rd H949_ 2 rfl, Holds.rd H949_ 3 rfl, (Sub.trans' hs363_ (Holds.ro_at H949_ 1 rfl))⟩, ?_⟩
  exact hJ469 _ _ ⟨R364_, v366_, N367_, b382_, _, congrArg (fun e => mkA 16 e []) (ch (ch (ch (ch rfl rfl) rfl) rfl) rfl), H949_, S951_, hs363_, he368_, he369_, he370_, hdl1, hda1, hdk1⟩
 intro hJ468
 refine A_cut #[false, false, true, false, false, true, true, true, false, false, false, false] 8 (fun a__ w1__ => ∃ b401_ : Nat, ∃ h : Env, a__ = mkA 16 (upd (upd (upd (upd h 4 (Value.bool false)) 7 (Value.agg #[(Value.int .i64 ma), (Value.int .i64 na), v1])) 11 (Value.slice (some ⟨b401_, 0, none⟩) 1 1)) 12 (Value.agg #[(Value.int .i64 mb), (Value.int .i64 nb), v2])) [] ∧ Holds w1__ (cl b401_ 5 [(Value.int .u8 107)] :: cl b7_ 34 [(Value.int .i64 mb), (Value.int .i64 nb), v2] :: cl b2_ 34 [(Value.int .i64 ma), (Value.int .i64 na), v1] :: ro R :: F) ∧ Same w w1__) ?_ ?_
 ·rintro _ w952_ ⟨b401_, h, rfl, H953_, S954_⟩
  refine A_ready (i := 0) (rs := [3]) (by kernel_rfl) ?_
  refine AllR.cons ?_ ?_
  ·skip
   refine A_op (ls' := #[true, false, true, false, false, true, true, true, false, false, false, false]) rfl (by kernel_rfl) (T_new (obj := .cells #[(Value.int .u8 107)] 5) (f := fun b__ => .slice (some ⟨b__, 0, none⟩) 1 1) (A := fun b__ => clf b__ 5 [(Value.int .u8 107)]) (by kernel_rfl) (fun l h => h.allocOb _) H953_ ?_)
   intro b955_ w956_ S958_ H957_
   have S959_ := Same.trans S954_ S958_
   refine ⟨⟨Holds.rd H957_ 2 rfl, Holds.rd H957_ 3 rfl, (Holds.ro_at H957_ 4 rfl)⟩, ?_⟩
   have H960_ : Holds w956_ (cl b401_ 5 [(Value.int .u8 107)] :: clf b955_ 5 [(Value.int .u8 107)] :: cl b7_ 34 [(Value.int .i64 mb), (Value.int .i64 nb), v2] :: cl b2_ 34 [(Value.int .i64 ma), (Value.int .i64 na), v1] :: ro R :: F) := (Holds.pkF H957_ [1, 0, 0, 0, 0] 0 :)
   exact hJ466 _ _ ⟨b955_, b401_, _, congrArg (fun e => mkA 16 e []) (ch (ch (ch (ch (ch rfl rfl) rfl) rfl) rfl) rfl), H960_, S959_⟩
  refine AllR.cons ?_ AllR.nil
  have H969_ := ((Holds.bring H953_ 3 rfl) :)
  refine A_op (ls' := #[false, false, true, true, false, true, true, true, false, false, false, false]) rfl (by kernel_rfl) (T_callG (al := [(Value.agg #[(Value.int .i64 ma), (Value.int .i64 na), v1])]) (pre := []) rfl rfl cb20 (kDumpIn R ma na v1 N1 h1 (hg1) (by omega) (hb2)) H969_ ?_)
  rintro R962_ v963_ p973_ w970_ hs961_ ⟨v964_, N965_, rfl, rfl, he966_, he967_, he968_⟩ S972_ H971_
  have S974_ := Same.trans S954_ S972_
  have hdl1 := map_m_len he966_
  have hda1 := map_m_all he966_ hb2
  have hdk1 := map_m_k he966_
  refine ⟨⟨Holds.rd H971_ 2 rfl, Holds.rd H971_ 3 rfl, (Sub.trans' hs961_ (Holds.ro_at H971_ 0 rfl))⟩, ?_⟩
  have H975_ : Holds w970_ (cl b401_ 5 [(Value.int .u8 107)] :: ro R962_ :: cl b7_ 34 [(Value.int .i64 mb), (Value.int .i64 nb), v2] :: cl b2_ 34 [(Value.int .i64 ma), (Value.int .i64 na), v1] :: F) := (Holds.pkF H971_ [1, 0, 0, 0] 0 :)
  exact hJ469 _ _ ⟨R962_, v964_, N965_, b401_, _, congrArg (fun e => mkA 16 e []) (ch (ch (ch (ch rfl rfl) rfl) rfl) rfl), H975_, S974_, hs961_, he966_, he967_, he968_, hdl1, hda1, hdk1⟩
 intro hJ471
 refine A_cut #[true, false, true, false, false, false, false, true, false, false, false, false] 9 (fun a__ w1__ => ∃ b15_ : Nat, ∃ h : Env, a__ = mkA 16 (upd (upd (upd (upd h 4 (Value.bool false)) 5 (Value.slice (some ⟨b15_, 0, none⟩) 1 1)) 7 (Value.agg #[(Value.int .i64 ma), (Value.int .i64 na), v1])) 12 (Value.agg #[(Value.int .i64 mb), (Value.int .i64 nb), v2])) [] ∧ Holds w1__ (clf b15_ 5 [(Value.int .u8 107)] :: cl b7_ 34 [(Value.int .i64 mb), (Value.int .i64 nb), v2] :: cl b2_ 34 [(Value.int .i64 ma), (Value.int .i64 na), v1] :: ro R :: F) ∧ Same w w1__) ?_ ?_
 ·rintro _ w976_ ⟨b15_, h, rfl, H977_, S978_⟩
  refine A_ready (i := 1) (rs := [3, 5]) (by kernel_rfl) ?_
  refine AllR.cons ?_ ?_
  ·skip
   refine A_op (ls' := #[true, true, true, false, false, false, false, true, false, false, false, false]) rfl (by kernel_rfl) (T_convSame rfl Try.underlying57 Try.underlying5 H977_ 0 rfl ?_)
   intro w979_ S981_ H980_
   have S982_ := Same.trans S978_ S981_
   refine ⟨⟨Holds.rd H980_ 1 rfl, Holds.rd H980_ 2 rfl, (Holds.ro_at H980_ 3 rfl)⟩, ?_⟩
   exact hJ450 _ _ ⟨b15_, _, congrArg (fun e => mkA 16 e []) (ch (ch (ch (ch rfl rfl) rfl) rfl) rfl), H980_, S982_⟩
  refine AllR.cons ?_ ?_
  ·skip
   have H991_ := ((Holds.bring H977_ 3 rfl) :)
   refine A_op (ls' := #[true, false, true, true, false, false, false, true, false, false, false, false]) rfl (by kernel_rfl) (T_callG (al := [(Value.agg #[(Value.int .i64 ma), (Value.int .i64 na), v1])]) (pre := []) rfl rfl cb20 (kDumpIn R ma na v1 N1 h1 (hg1) (by omega) (hb2)) H991_ ?_)
   rintro R984_ v985_ p995_ w992_ hs983_ ⟨v986_, N987_, rfl, rfl, he988_, he989_, he990_⟩ S994_ H993_
   replace H993_ : Holds w992_ (ro R984_ :: clf b15_ 5 [(Value.int .u8 107)] :: cl b7_ 34 [(Value.int .i64 mb), (Value.int .i64 nb), v2] :: cl b2_ 34 [(Value.int .i64 ma), (Value.int .i64 na), v1] :: F) := H993_
   have S996_ := Same.trans S978_ S994_
   have hdl1 := map_m_len he988_
   have hda1 := map_m_all he988_ hb2
   have hdk1 := map_m_k he988_
   refine ⟨⟨Holds.rd H993_ 2 rfl, Holds.rd H993_ 3 rfl, (Sub.trans' hs983_ (Holds.ro_at H993_ 0 rfl))⟩, ?_⟩
   exact hJ462 _ _ ⟨b15_, R984_, v986_, N987_, _, congrArg (fun e => mkA 16 e []) (ch (ch (ch (ch rfl rfl) rfl) rfl) rfl), H993_, S996_, hs983_, he988_, he989_, he990_, hdl1, hda1, hdk1⟩
  refine AllR.cons ?_ AllR.nil
  refine A_op (ls' := #[true, false, true, false, false, true, false, true, false, false, false, false]) rfl (by kernel_rfl) (T_new (obj := .cells #[(Value.int .u8 107)] 5) (f := fun b__ => .slice (some ⟨b__, 0, none⟩) 1 1) (A := fun b__ => clf b__ 5 [(Value.int .u8 107)]) (by kernel_rfl) (fun l h => h.allocOb _) H977_ ?_)
  intro b997_ w998_ S1000_ H999_
  have S1001_ := Same.trans S978_ S1000_
  refine ⟨⟨Holds.rd H999_ 2 rfl, Holds.rd H999_ 3 rfl, (Holds.ro_at H999_ 4 rfl)⟩, ?_⟩
  exact hJ465 _ _ ⟨b15_, b997_, _, congrArg (fun e => mkA 16 e []) (ch (ch (ch (ch (ch rfl rfl) rfl) rfl) rfl) rfl), H999_, S1001_⟩
 intro hJ449
 refine A_cut #[false, false, true, true, false, false, false, true, false, false, false, false] 9 (fun a__ w1__ => ∃ R364_ : HP, ∃ v366_ : Value, ∃ N367_ : List GN, ∃ h : Env, a__ = mkA 16 (upd (upd (upd h 4 (Value.bool false)) 8 (Value.agg #[(Value.int .i64 ma), (Value.int .i64 na), v366_])) 12 (Value.agg #[(Value.int .i64 mb), (Value.int .i64 nb), v2])) [] ∧ Holds w1__ (ro R364_ :: cl b7_ 34 [(Value.int .i64 mb), (Value.int .i64 nb), v2] :: cl b2_ 34 [(Value.int .i64 ma), (Value.int .i64 na), v1] :: F) ∧ Same w w1__ ∧ (Sub R R364_) ∧ (N367_.map GN.m = N1.map GN.m) ∧ (RS R364_ 4 v366_ (List.length N367_) (N367_.flatMap GN.cells)) ∧ (∀ x ∈ N367_, GOk R364_ x) ∧ (List.length N367_ = List.length N1) ∧ (∀ x ∈ N367_, x.l.length ≤ 100000) ∧ (N367_.map GN.k = N1.map GN.k)) ?_ ?_
 ·rintro _ w1002_ ⟨R364_, v366_, N367_, h, rfl, H1003_, S1004_, hs363_, he368_, he369_, he370_, hdl1, hda1, hdk1⟩
  refine A_ready (i := 0) (rs := [5]) (by kernel_rfl) ?_
  refine AllR.cons ?_ ?_
  ·skip
   refine A_op (ls' := #[true, false, true, true, false, false, false, true, false, false, false, false]) rfl (by kernel_rfl) (T_new (obj := .cells #[(Value.int .u8 107)] 5) (f := fun b__ => .slice (some ⟨b__, 0, none⟩) 1 1) (A := fun b__ => clf b__ 5 [(Value.int .u8 107)]) (by kernel_rfl) (fun l h => h.allocOb _) H1003_ ?_)
   intro b1005_ w1006_ S1008_ H1007_
   have S1009_ := Same.trans S1004_ S1008_
   refine ⟨⟨Holds.rd H1007_ 2 rfl, Holds.rd H1007_ 3 rfl, (Sub.trans' hs363_ (Holds.ro_at H1007_ 1 rfl))⟩, ?_⟩
   have H1010_ : Holds w1006_ (ro R364_ :: clf b1005_ 5 [(Value.int .u8 107)] :: cl b7_ 34 [(Value.int .i64 mb), (Value.int .i64 nb), v2] :: cl b2_ 34 [(Value.int .i64 ma), (Value.int .i64 na), v1] :: F) := (Holds.pkF H1007_ [1, 0, 0, 0] 0 :)
   exact hJ462 _ _ ⟨b1005_, R364_, v366_, N367_, _, congrArg (fun e => mkA 16 e []) (ch (ch (ch (ch rfl rfl) rfl) rfl) rfl), H1010_, S1009_, hs363_, he368_, he369_, he370_, hdl1, hda1, hdk1⟩
  refine AllR.cons ?_ AllR.nil
  refine A_op (ls' := #[false, false, true, true, false, true, false, true, false, false, false, false]) rfl (by kernel_rfl) (T_new (obj := .cells #[(Value.int .u8 107)] 5) (f := fun b__ => .slice (some ⟨b__, 0, none⟩) 1 1) (A := fun b__ => clf b__ 5 [(Value.int .u8 107)]) (by kernel_rfl) (fun l h => h.allocOb _) H1003_ ?_)
  intro b1011_ w1012_ S1014_ H1013_
  have S1015_ := Same.trans S1004_ S1014_
  refine ⟨⟨Holds.rd H1013_ 2 rfl, Holds.rd H1013_ 3 rfl, (Sub.trans' hs363_ (Holds.ro_at H1013_ 1 rfl))⟩, ?_⟩
  exact hJ468 _ _ ⟨R364_, v366_, N367_, b1011_, _, congrArg (fun e => mkA 16 e []) (ch (ch (ch (ch rfl rfl) rfl) rfl) rfl), H1013_, S1015_, hs363_, he368_, he369_, he370_, hdl1, hda1, hdk1⟩
 intro hJ467
 refine A_cut #[false, false, true, false, false, true, false, true, false, false, false, false] 9 (fun a__ w1__ => ∃ b401_ : Nat, ∃ h : Env, a__ = mkA 16 (upd (upd (upd (upd h 4 (Value.bool false)) 7 (Value.agg #[(Value.int .i64 ma), (Value.int .i64 na), v1])) 10 (Value.slice (some ⟨b401_, 0, none⟩) 1 1)) 12 (Value.agg #[(Value.int .i64 mb), (Value.int .i64 nb), v2])) [] ∧ Holds w1__ (clf b401_ 5 [(Value.int .u8 107)] :: cl b7_ 34 [(Value.int .i64 mb), (Value.int .i64 nb), v2] :: cl b2_ 34 [(Value.int .i64 ma), (Value.int .i64 na), v1] :: ro R :: F) ∧ Same w w1__) ?_ ?_
 ·rintro _ w1016_ ⟨b401_, h, rfl, H1017_, S1018_⟩
  refine A_ready (i := 0) (rs := [3, 6]) (by kernel_rfl) ?_
  refine AllR.cons ?_ ?_
  ·skip
   refine A_op (ls' := #[true, false, true, false, false, true, false, true, false, false, false, false]) rfl (by kernel_rfl) (T_new (obj := .cells #[(Value.int .u8 107)] 5) (f := fun b__ => .slice (some ⟨b__, 0, none⟩) 1 1) (A := fun b__ => clf b__ 5 [(Value.int .u8 107)]) (by kernel_rfl) (fun l h => h.allocOb _) H1017_ ?_)
   intro b1019_ w1020_ S1022_ H1021_
   have S1023_ := Same.trans S1018_ S1022_
   refine ⟨⟨Holds.rd H1021_ 2 rfl, Holds.rd H1021_ 3 rfl, (Holds.ro_at H1021_ 4 rfl)⟩, ?_⟩
   have H1024_ : Holds w1020_ (clf b401_ 5 [(Value.int .u8 107)] :: clf b1019_ 5 [(Value.int .u8 107)] :: cl b7_ 34 [(Value.int .i64 mb), (Value.int .i64 nb), v2] :: cl b2_ 34 [(Value.int .i64 ma), (Value.int .i64 na), v1] :: ro R :: F) := (Holds.pkF H1021_ [1, 0, 0, 0, 0] 0 :)
   exact hJ465 _ _ ⟨b1019_, b401_, _, congrArg (fun e => mkA 16 e []) (ch (ch (ch (ch (ch rfl rfl) rfl) rfl) rfl) rfl), H1024_, S1023_⟩
  refine AllR.cons ?_ ?_
  ·skip
   have H1033_ := ((Holds.bring H1017_ 3 rfl) :)
   refine A_op (ls' := #[false, false, true, true, false, true, false, true, false, false, false, false]) rfl (by kernel_rfl) (T_callG (al := [(Value.agg #[(Value.int .i64 ma), (Value.int .i64 na), v1])]) (pre := []) rfl rfl cb20 (kDumpIn R ma na v1 N1 h1 (hg1) (by omega) (hb2)) H1033_ ?_)
   rintro R1026_ v1027_ p1037_ w1034_ hs1025_ ⟨v1028_, N1029_, rfl, rfl, he1030_, he1031_, he1032_⟩ S1036_ H1035_
   have S1038_ := Same.trans S1018_ S1036_
   have hdl1 := map_m_len he1030_
   have hda1 := map_m_all he1030_ hb2
   have hdk1 := map_m_k he1030_
   refine ⟨⟨Holds.rd H1035_ 2 rfl, Holds.rd H1035_ 3 rfl, (Sub.trans' hs1025_ (Holds.ro_at H1035_ 0 rfl))⟩, ?_⟩
   have H1039_ : Holds w1034_ (clf b401_ 5 [(Value.int .u8 107)] :: ro R1026_ :: cl b7_ 34 [(Value.int .i64 mb), (Value.int .i64 nb), v2] :: cl b2_ 34 [(Value.int .i64 ma), (Value.int .i64 na), v1] :: F) := (Holds.pkF H1035_ [1, 0, 0, 0] 0 :)
   exact hJ468 _ _ ⟨R1026_, v1028_, N1029_, b401_, _, congrArg (fun e => mkA 16 e []) (ch (ch (ch (ch rfl rfl) rfl) rfl) rfl), H1039_, S1038_, hs1025_, he1030_, he1031_, he1032_, hdl1, hda1, hdk1⟩
  refine AllR.cons ?_ AllR.nil
  refine A_op (ls' := #[false, false, true, false, false, true, true, true, false, false, false, false]) rfl (by kernel_rfl) (T_convSame rfl Try.underlying57 Try.underlying5 H1017_ 0 rfl ?_)
  intro w1040_ S1042_ H1041_
  have S1043_ := Same.trans S1018_ S1042_
  refine ⟨⟨Holds.rd H1041_ 1 rfl, Holds.rd H1041_ 2 rfl, (Holds.ro_at H1041_ 3 rfl)⟩, ?_⟩
  exact hJ471 _ _ ⟨b401_, _, congrArg (fun e => mkA 16 e []) (ch (ch (ch (ch rfl rfl) rfl) rfl) rfl), H1041_, S1043_⟩
 intro hJ470
 have hq1044_ := And.intro (Holds.rd H13_ 0 rfl) (And.intro (Holds.rd H13_ 1 rfl) ((Holds.ro_at H13_ 2 rfl)))
 refine A_tk 2 (v := (Value.agg #[(Value.int .i64 ma), (Value.int .i64 na), v1])) rfl (by kernel_rfl) (fun w hS => x_loadN (vs := [(Value.int .i64 ma), (Value.int .i64 na), v1]) rfl Try.underlying34 rfl z34 rfl (Rd.cells hS.2.1 0 rfl)) hq1044_ ?_
 refine A_tk 7 (v := (Value.agg #[(Value.int .i64 mb), (Value.int .i64 nb), v2])) rfl (by kernel_rfl) (fun w hS => x_loadN (vs := [(Value.int .i64 mb), (Value.int .i64 nb), v2]) rfl Try.underlying34 rfl z34 rfl (Rd.cells hS.1 0 rfl)) hq1044_ ?_
 refine A_ready (i := 0) (rs := [3, 5]) (by kernel_rfl) ?_
 refine AllR.cons ?_ ?_
 ·skip
  refine A_op (ls' := #[true, false, true, false, false, false, false, true, false, false, false, false]) rfl (by kernel_rfl) (T_new (obj := .cells #[(Value.int .u8 107)] 5) (f := fun b__ => .slice (some ⟨b__, 0, none⟩) 1 1) (A := fun b__ => clf b__ 5 [(Value.int .u8 107)]) (by kernel_rfl) (fun l h => h.allocOb _) H13_ ?_)
  intro b1045_ w1046_ S1048_ H1047_
  have S1049_ := Same.trans (Same.trans S11_ (Same.drew _)) S1048_
  refine ⟨⟨Holds.rd H1047_ 1 rfl, Holds.rd H1047_ 2 rfl, (Holds.ro_at H1047_ 3 rfl)⟩, ?_⟩
  exact hJ449 _ _ ⟨b1045_, _, congrArg (fun e => mkA 16 e []) (ch (ch (ch (ch rfl rfl) rfl) rfl) rfl), H1047_, S1049_⟩
 refine AllR.cons ?_ ?_
 ·skip
  have H1058_ := ((Holds.bring H13_ 2 rfl) :)
  replace H1058_ : Holds w8_.drew (ro R :: cl b7_ 34 [(Value.int .i64 mb), (Value.int .i64 nb), v2] :: cl b2_ 34 [(Value.int .i64 ma), (Value.int .i64 na), v1] :: F) := H1058_
  refine A_op (ls' := #[false, false, true, true, false, false, false, true, false, false, false, false]) rfl (by kernel_rfl) (T_callG (al := [(Value.agg #[(Value.int .i64 ma), (Value.int .i64 na), v1])]) (pre := []) rfl rfl cb20 (kDumpIn R ma na v1 N1 h1 (hg1) (by omega) (hb2)) H1058_ ?_)
  rintro R1051_ v1052_ p1062_ w1059_ hs1050_ ⟨v1053_, N1054_, rfl, rfl, he1055_, he1056_, he1057_⟩ S1061_ H1060_
  have S1063_ := Same.trans (Same.trans S11_ (Same.drew _)) S1061_
  have hdl1 := map_m_len he1055_
  have hda1 := map_m_all he1055_ hb2
  have hdk1 := map_m_k he1055_
  refine ⟨⟨Holds.rd H1060_ 1 rfl, Holds.rd H1060_ 2 rfl, (Sub.trans' hs1050_ (Holds.ro_at H1060_ 0 rfl))⟩, ?_⟩
  exact hJ467 _ _ ⟨R1051_, v1053_, N1054_, _, congrArg (fun e => mkA 16 e []) (ch (ch (ch rfl rfl) rfl) rfl), H1060_, S1063_, hs1050_, he1055_, he1056_, he1057_, hdl1, hda1, hdk1⟩
 refine AllR.cons ?_ AllR.nil
 refine A_op (ls' := #[false, false, true, false, false, true, false, true, false, false, false, false]) rfl (by kernel_rfl) (T_new (obj := .cells #[(Value.int .u8 107)] 5) (f := fun b__ => .slice (some ⟨b__, 0, none⟩) 1 1) (A := fun b__ => clf b__ 5 [(Value.int .u8 107)]) (by kernel_rfl) (fun l h => h.allocOb _) H13_ ?_)
 intro b1064_ w1065_ S1067_ H1066_
 have S1068_ := Same.trans (Same.trans S11_ (Same.drew _)) S1067_
 refine ⟨⟨Holds.rd H1066_ 1 rfl, Holds.rd H1066_ 2 rfl, (Holds.ro_at H1066_ 3 rfl)⟩, ?_⟩
 exact hJ470 _ _ ⟨b1064_, _, congrArg (fun e => mkA 16 e []) (ch (ch (ch (ch rfl rfl) rfl) rfl) rfl), H1066_, S1068_⟩
end Go.Proofs.Ytiblemgccgbhoaa
