/- Words, and proved steps, on which the proof leans. -/
import Derived.Test.YtiblemgccgbhoaaProg
import Derived.Test.YtiblemgccgbhoaaGo5
set_option linter.unusedVariables false
set_option linter.unusedSimpArgs false
namespace Go.Proofs.Ytiblemgccgbhoaa
open Go Go.RowKit Gw
open Go.Value renaming int → vI, bool → vB, slice → vS, pointer → vP, agg → vA, tuple → vT

set_option maxHeartbeats 64000000 in
theorem kKeyed (R : HP) (kb : Nat) (ka : Option Addr) (kl kc : Nat) (m n : Int) (gv lv : Value) (N0 T : List GN) (ll : List RV) (o : KO) (B : Nat) (s' : Int × Int × List GM) (a : KM) (hT : Tlk T lv ll) (hTN : T = [] → N0 = []) (hN : ∀ x ∈ N0, GOk R x) (hbd : GBd B ((N0 ++ T).map GN.m)) (hB : B ≤ 50000) (hdo : iDo m n ((N0 ++ T).map GN.m) o = some (s', a)) :
    TriG Try.prog 23 #[(vA #[(vP (some ⟨kb, 0, none⟩))]), (vA #[(vI .i64 o.kind), (vI .i64 o.rev_Main), (vI .i64 o.rev_Sub), (vI .i64 o.created_Main), (vI .i64 o.created_Sub), (vI .i64 o.ver), (vI .i64 o.at_)])] R [cl kb 104 [(vS ka kl kc), (vI .i64 m), (vI .i64 n), gv], sl 106 4 gv (List.length (N0 ++ T)) ((N0 ++ T).flatMap GN.cells), sl 58 2 lv (List.length ll) (ll.flatMap RV.cells)] (fun R' v__ post__ => ∃ (gv' lv' : Value) (N0' T' : List GN) (ll' : List RV) (xo : Bool) (x1 x2 x3 x4 x5 : Int) (xr : Value) (xm xn : Int) (xg : Value) (rl : List RV) (gl : List GN), v__ = (vA #[(vB xo), (vI .i64 x1), (vI .i64 x2), (vI .i64 x3), (vI .i64 x4), (vI .i64 x5), xr, (vI .i64 xm), (vI .i64 xn), xg]) ∧ post__ = [cl kb 104 [(vS ka kl kc), (vI .i64 s'.1), (vI .i64 s'.2.1), gv'], sl 106 4 gv' (List.length (N0' ++ T')) ((N0' ++ T').flatMap GN.cells), sl 58 2 lv' (List.length ll') (ll'.flatMap RV.cells)] ∧ ((N0' ++ T').map GN.m = s'.2.2) ∧ (Tlk T' lv' ll') ∧ (T' = [] → N0' = []) ∧ (∀ x ∈ N0', GOk R' x) ∧ (KOk R' (⟨xo, x1, x2, x3, x4, x5, xr, xm, xn, xg, rl, gl⟩ : KA)) ∧ (KA.m (⟨xo, x1, x2, x3, x4, x5, xr, xm, xn, xg, rl, gl⟩ : KA) = a.to s')) := by
 refine TriG.into (n := 104) (al := [(vA #[(vP (some ⟨kb, 0, none⟩))]), (vA #[(vI .i64 o.kind), (vI .i64 o.rev_Main), (vI .i64 o.rev_Sub), (vI .i64 o.created_Main), (vI .i64 o.created_Sub), (vI .i64 o.ver), (vI .i64 o.at_)])]) Try.func23 rfl Try.ntmps23 rfl rfl fun w F H => ?_
 refine C_seq (fun K1_ hK1_ => C_reg ?_)
 refine S_list (T_box (v := (vA #[(vP (some ⟨kb, 0, none⟩))])) rfl H ?_)
 intro b2_ w3_ S5_ H4_
 have S6_ := Same.trans (Same.refl w) S5_
 refine S_list (T_box (v := (vA #[(vI .i64 o.kind), (vI .i64 o.rev_Main), (vI .i64 o.rev_Sub), (vI .i64 o.created_Main), (vI .i64 o.created_Sub), (vI .i64 o.ver), (vI .i64 o.at_)])) rfl H4_ ?_)
 intro b7_ w8_ S10_ H9_
 have S11_ := Same.trans S6_ S10_
 refine S_list (T_alloc z43 H9_ ?_)
 intro b12_ w13_ S15_ H14_
 have S16_ := Same.trans S11_ S15_
 refine wpList_nil (X_then (hK1_ _ _ ?_))
 clear hK1_
 refine C_seq (fun K17_ hK17_ => C_reg ?_)
 refine sv (v := (vA #[(vB false), (vI .i64 0), (vI .i64 0), (vI .i64 0), (vI .i64 0), (vI .i64 0), (vS none 0 0), (vI .i64 0), (vI .i64 0), (vS none 0 0)])) (by kernel_rfl) ?_
 refine S_list (T_alloc z43 H14_ ?_)
 intro b18_ w19_ S21_ H20_
 have S22_ := Same.trans S16_ S21_
 refine S_list0 (T_storeN (vs := [(vB false), (vI .i64 0), (vI .i64 0), (vI .i64 0), (vI .i64 0), (vI .i64 0), (vS none 0 0), (vI .i64 0), (vI .i64 0), (vS none 0 0)]) rfl rfl z43 rfl (by simp [Value.oneCell']) H20_ 0 rfl (Nat.le_of_ble_eq_true (by rfl)) ?_)
 intro w23_ S25_ H24_
 have S26_ := Same.trans S22_ S25_
 refine wpList_nil (X_then (hK17_ _ _ ?_))
 clear hK17_
 refine C_seq (fun K27_ hK27_ => ?_)
 refine C_seq (fun K28_ hK28_ => C_reg ?_)
 refine sv (v := (vP (some ⟨b7_, 0, none⟩))) (by kernel_rfl) ?_
 refine sv (v := (vI .i64 o.kind)) (x_load1 rfl Try.underlying3 rfl ((Holds.rd H24_ 2 rfl) 0 (vI .i64 o.kind) rfl)) ?_
 refine wpList_nil (X_then (hK28_ _ _ ?_))
 clear hK28_
 refine C_block ?_
 refine C_seq (fun K29_ hK29_ => C_reg ?_)
 refine sv (v := (vB (decide (o.kind = 1)))) (x_bin rfl rfl rfl) ?_
 refine sv (v := (vB (decide (o.kind = 1)))) (x_assign rfl) ?_
 refine wpList_nil (X_then (hK29_ _ _ ?_))
 clear hK29_
 refine C_cond (b := decide (o.kind = 1)) rfl (fun c30_t => ?_) (fun c30_f => ?_)
 ·have c30_tp : o.kind = 1 := of_decide_eq_true c30_t
  obtain ⟨hls_, hs_, ha_⟩ := iDo_put c30_tp hdo
  have hbo_ := hbd.of
  have hll_ := Tlk_ll hT (hbd.l (Nat.le_refl _))
  refine C_seq (fun K31_ hK31_ => ?_)
  refine A_start (S := fun w => Rd b7_ [(vI .i64 o.kind), (vI .i64 o.rev_Main), (vI .i64 o.rev_Sub), (vI .i64 o.created_Main), (vI .i64 o.created_Sub), (vI .i64 o.ver), (vI .i64 o.at_)] w ∧ Rd b2_ [(vP (some ⟨kb, 0, none⟩))] w ∧ Sub R (hp w)) (N := 5) foll rfl rfl ?_
  have H32_ := Holds.drew_ H24_
  have hq33_ := And.intro (Holds.rd H32_ 2 rfl) (And.intro (Holds.rd H32_ 3 rfl) ((Holds.ro_at H32_ 4 rfl)))
  refine A_tk 0 (v := (vA #[(vP (some ⟨kb, 0, none⟩))])) rfl (by kernel_rfl) (fun w hS => x_loadN (vs := [(vP (some ⟨kb, 0, none⟩))]) rfl Try.underlying55 rfl z55 rfl (Rd.cells hS.2.1 0 rfl)) hq33_ ?_
  refine A_tk 1 (v := (vP (some ⟨b7_, 1, none⟩))) rfl (by kernel_rfl) (fun w hS => by kernel_rfl) hq33_ ?_
  refine A_tk 2 (v := (vA #[(vI .i64 o.rev_Main), (vI .i64 o.rev_Sub)])) rfl (by kernel_rfl) (fun w hS => x_loadN (vs := [(vI .i64 o.rev_Main), (vI .i64 o.rev_Sub)]) rfl Try.underlying31 rfl z31 rfl (Rd.cells hS.1 1 rfl)) hq33_ ?_
  refine A_ready (i := 3) (rs := []) (by kernel_rfl) ?_
  refine AllR.cons ?_ AllR.nil
  refine A_op (ls' := #[true, true, true, true, false]) rfl (by kernel_rfl) (T_callW (al := [(vA #[(vI .i64 o.rev_Main), (vI .i64 o.rev_Sub)])]) rfl rfl cb33 (Calls.into (n := 8) (al := [(vA #[(vI .i64 o.rev_Main), (vI .i64 o.rev_Sub)])]) Try.func33 rfl Try.ntmps33 rfl rfl ?_))
  refine C_seq (fun K34_ hK34_ => C_reg ?_)
  refine S_list (T_box (v := (vA #[(vI .i64 o.rev_Main), (vI .i64 o.rev_Sub)])) rfl H32_ ?_)
  intro b35_ w36_ S38_ H37_
  have S39_ := Same.trans (Same.trans S26_ (Same.drew _)) S38_
  refine S_list (T_alloc z58 H37_ ?_)
  intro b40_ w41_ S43_ H42_
  have S44_ := Same.trans S39_ S43_
  refine wpList_nil (X_then (hK34_ _ _ ?_))
  clear hK34_
  refine C_seq (fun K45_ hK45_ => C_reg ?_)
  refine sv (v := (vP (some ⟨b35_, 0, none⟩))) (by kernel_rfl) ?_
  refine sv (v := (vI .i64 o.rev_Main)) (x_load1 rfl Try.underlying2 rfl ((Holds.rd H42_ 1 rfl) 0 (vI .i64 o.rev_Main) rfl)) ?_
  refine sv (v := (vP (some ⟨b35_, 1, none⟩))) (by kernel_rfl) ?_
  refine sv (v := (vI .i64 o.rev_Sub)) (x_load1 rfl Try.underlying2 rfl ((Holds.rd H42_ 1 rfl) 1 (vI .i64 o.rev_Sub) rfl)) ?_
  refine sv (v := (vA #[(vI .i64 o.rev_Main), (vI .i64 o.rev_Sub)])) (by kernel_rfl) ?_
  refine S_list0 (T_storeN (vs := [(vI .i64 o.rev_Main), (vI .i64 o.rev_Sub)]) rfl rfl z58 rfl (by simp [Value.oneCell']) H42_ 0 rfl (Nat.le_of_ble_eq_true (by rfl)) ?_)
  intro w46_ S48_ H47_
  have S49_ := Same.trans S44_ S48_
  refine wpList_nil (X_then (hK45_ _ _ ?_))
  clear hK45_
  refine C_ret ?_
  refine R_any (v := (vA #[(vI .i64 o.rev_Main), (vI .i64 o.rev_Sub)])) (run_results1 rfl ⟨_, rfl, load_resN Try.underlying58 rfl z58 rfl (vs := [(vI .i64 o.rev_Main), (vI .i64 o.rev_Sub)]) (Holds.cl_cells H47_ 0 rfl 0 rfl)⟩) ⟨_, rfl, ?_⟩
  refine ⟨⟨Holds.rd H47_ 4 rfl, Holds.rd H47_ 5 rfl, (Holds.ro_at H47_ 6 rfl)⟩, ?_⟩
  refine A_ready (i := 4) (rs := []) (by kernel_rfl) ?_
  refine AllR.cons ?_ AllR.nil
  refine A_op (ls' := #[true, true, true, true, true]) rfl (by kernel_rfl) (T_callW (al := [(vA #[(vP (some ⟨kb, 0, none⟩))]), (vA #[(vI .i64 o.rev_Main), (vI .i64 o.rev_Sub)])]) rfl rfl cb36 (Calls.into (n := 11) (al := [(vA #[(vP (some ⟨kb, 0, none⟩))]), (vA #[(vI .i64 o.rev_Main), (vI .i64 o.rev_Sub)])]) Try.func36 rfl Try.ntmps36 rfl rfl ?_))
  refine C_seq (fun K50_ hK50_ => C_reg ?_)
  refine S_list (T_box (v := (vA #[(vP (some ⟨kb, 0, none⟩))])) rfl H47_ ?_)
  intro b51_ w52_ S54_ H53_
  have S55_ := Same.trans S49_ S54_
  refine S_list (T_box (v := (vA #[(vI .i64 o.rev_Main), (vI .i64 o.rev_Sub)])) rfl H53_ ?_)
  intro b56_ w57_ S59_ H58_
  have S60_ := Same.trans S55_ S59_
  refine wpList_nil (X_then (hK50_ _ _ ?_))
  clear hK50_
  refine C_reg ?_
  refine sv (v := (vP (some ⟨b51_, 0, none⟩))) (by kernel_rfl) ?_
  refine sv (v := (vP (some ⟨kb, 0, none⟩))) (x_load1 rfl Try.underlying53 rfl ((Holds.rd H58_ 1 rfl) 0 (vP (some ⟨kb, 0, none⟩)) rfl)) ?_
  refine sv (v := (vP (some ⟨b56_, 0, none⟩))) (by kernel_rfl) ?_
  refine sv (v := (vI .i64 o.rev_Main)) (x_load1 rfl Try.underlying2 rfl ((Holds.rd H58_ 0 rfl) 0 (vI .i64 o.rev_Main) rfl)) ?_
  refine sv (v := (vP (some ⟨b56_, 1, none⟩))) (by kernel_rfl) ?_
  refine sv (v := (vI .i64 o.rev_Sub)) (x_load1 rfl Try.underlying2 rfl ((Holds.rd H58_ 0 rfl) 1 (vI .i64 o.rev_Sub) rfl)) ?_
  have H69_ := ((Holds.bring (Holds.bring (Holds.bring (Holds.bring H58_ 11 rfl) 11 rfl) 11 rfl) 11 rfl) :)
  refine S_list (T_call (al := [(vP (some ⟨kb, 0, none⟩)), (vP none), (vI .i64 o.rev_Main), (vI .i64 o.rev_Sub)]) (pre := [cl kb 104 [(vS ka kl kc), (vI .i64 m), (vI .i64 n), gv], sl 106 4 gv (List.length (N0 ++ T)) ((N0 ++ T).flatMap GN.cells), sl 58 2 lv (List.length ll) (ll.flatMap RV.cells)]) rfl rfl cb54 (kPut R kb ka kl kc m n gv lv N0 T ll o.rev_Main o.rev_Sub (by first | assumption | omega) (by first | assumption | omega) (⟨by omega, by omega⟩) (hbd.v (by omega)) (hls_)) H69_ ?_)
  rintro v61_ p73_ w70_ ⟨gv62_, lv63_, T64_, ll65_, rfl, rfl, he66_, he67_, he68_⟩ S72_ H71_
  have S74_ := Same.trans S60_ S72_
  have hbd2_ : GBd (B + 1) ((N0 ++ T64_).map GN.m) := by rw [he66_]; exact iPut_bd hbd
  refine wpList_nil ?_
  refine R_0 rfl ⟨_, rfl, ?_⟩
  refine ⟨⟨Holds.rd H71_ 10 rfl, Holds.rd H71_ 11 rfl, (Holds.ro_at H71_ 0 rfl)⟩, ?_⟩
  refine A_done (by kernel_rfl) ?_
  refine (X_then (hK31_ _ _ ?_))
  clear hK31_
  refine C_reg ?_
  refine sv (v := (vP (some ⟨b18_, 0, none⟩))) (by kernel_rfl) ?_
  refine S_list0 (T_store1 (v := (vB true)) rfl rfl z4 rfl H71_ 8 rfl (Nat.le_of_ble_eq_true (by rfl)) ?_)
  intro w75_ S77_ H76_
  have S78_ := Same.trans S74_ S77_
  refine wpList_nil (X_blkN (X_then (hK27_ _ _ ?_)))
  clear hK27_
  refine C_seq (fun K79_ hK79_ => C_reg ?_)
  refine sv (v := (vA #[(vP (some ⟨kb, 0, none⟩))])) (x_loadN (vs := [(vP (some ⟨kb, 0, none⟩))]) rfl Try.underlying55 rfl z55 rfl (Rd.cells (Holds.rd H76_ 11 rfl) 0 rfl)) ?_
  refine S_list (T_callW (al := [(vA #[(vP (some ⟨kb, 0, none⟩))])]) rfl rfl cb49 (Calls.into (n := 6) (al := [(vA #[(vP (some ⟨kb, 0, none⟩))])]) Try.func49 rfl Try.ntmps49 rfl rfl ?_))
  refine C_seq (fun K80_ hK80_ => C_reg ?_)
  refine S_list (T_box (v := (vA #[(vP (some ⟨kb, 0, none⟩))])) rfl H76_ ?_)
  intro b81_ w82_ S84_ H83_
  have S85_ := Same.trans S78_ S84_
  refine S_list (T_alloc z61 H83_ ?_)
  intro b86_ w87_ S89_ H88_
  have S90_ := Same.trans S85_ S89_
  refine wpList_nil (X_then (hK80_ _ _ ?_))
  clear hK80_
  refine C_seq (fun K91_ hK91_ => C_reg ?_)
  refine sv (v := (vP (some ⟨b81_, 0, none⟩))) (by kernel_rfl) ?_
  refine sv (v := (vP (some ⟨kb, 0, none⟩))) (x_load1 rfl Try.underlying53 rfl ((Holds.rd H88_ 1 rfl) 0 (vP (some ⟨kb, 0, none⟩)) rfl)) ?_
  have H100_ := ((Holds.bring (Holds.bring (Holds.bring (Holds.bring H88_ 5 rfl) 5 rfl) 5 rfl) 5 rfl) :)
  refine S_list (T_callG (al := [(vP (some ⟨kb, 0, none⟩))]) (pre := [cl kb 104 [(vS ka kl kc), (vI .i64 o.rev_Main), (vI .i64 o.rev_Sub), gv62_], sl 106 4 gv62_ (List.length (N0 ++ T64_)) ((N0 ++ T64_).flatMap GN.cells), sl 58 2 lv63_ (List.length ll65_) (ll65_.flatMap RV.cells)]) rfl rfl cb65 (kZzOut R kb ka kl kc o.rev_Main o.rev_Sub gv62_ lv63_ N0 T64_ ll65_ (he67_) (hN) (by have := hbd2_.of.1; omega) (hbd2_.l (by omega))) H100_ ?_)
  rintro R93_ v94_ p104_ w101_ hs92_ ⟨v95_, N96_, rfl, rfl, he97_, he98_, he99_⟩ S103_ H102_
  have S105_ := Same.trans S90_ S103_
  have hzl_ := map_m_len he97_
  have hza_ := map_m_all he97_ (hbd2_.l (show _ ≤ 100000 by omega))
  refine S_list0 (T_storeN (vs := [(vI .i64 o.rev_Main), (vI .i64 o.rev_Sub), v95_]) rfl rfl z61 rfl (List.forall_mem_cons.2 ⟨rfl, (List.forall_mem_cons.2 ⟨rfl, (List.forall_mem_cons.2 ⟨(RS.one he98_), (fun _ h__ => by cases h__)⟩)⟩)⟩) H102_ 4 rfl (Nat.le_of_ble_eq_true (by rfl)) ?_)
  intro w106_ S108_ H107_
  have S109_ := Same.trans S105_ S108_
  refine wpList_nil (X_then (hK91_ _ _ ?_))
  clear hK91_
  refine C_ret ?_
  refine R_any (v := (vA #[(vI .i64 o.rev_Main), (vI .i64 o.rev_Sub), v95_])) (run_results1 rfl ⟨_, rfl, load_resN Try.underlying61 rfl z61 rfl (vs := [(vI .i64 o.rev_Main), (vI .i64 o.rev_Sub), v95_]) (Holds.cl_cells H107_ 4 rfl 0 rfl)⟩) ⟨_, rfl, ?_⟩
  refine S_list (T_callG (al := [(vA #[(vI .i64 o.rev_Main), (vI .i64 o.rev_Sub), v95_])]) (pre := []) rfl rfl cb48 (kDumpOut R93_ o.rev_Main o.rev_Sub v95_ N96_ he98_ (he99_) (by have := hbd2_.of.1; omega) (hza_)) H107_ ?_)
  rintro R111_ v112_ p121_ w118_ hs110_ ⟨v113_, N114_, rfl, rfl, he115_, he116_, he117_⟩ S120_ H119_
  have S122_ := Same.trans S109_ S120_
  have hz_R_R111_ := Sub.trans' hs92_ hs110_
  refine sv (v := (vP (some ⟨b18_, 7, none⟩))) (by kernel_rfl) ?_
  refine S_list0 (T_storeN (vs := [(vI .i64 o.rev_Main), (vI .i64 o.rev_Sub), v113_]) rfl rfl z34 rfl (List.forall_mem_cons.2 ⟨rfl, (List.forall_mem_cons.2 ⟨rfl, (List.forall_mem_cons.2 ⟨(RS.one he116_), (fun _ h__ => by cases h__)⟩)⟩)⟩) H119_ 10 rfl (Nat.le_of_ble_eq_true (by rfl)) ?_)
  intro w123_ S125_ H124_
  have S126_ := Same.trans S122_ S125_
  refine wpList_nil (X_then (hK79_ _ _ ?_))
  clear hK79_
  refine C_seq (fun K127_ hK127_ => C_reg ?_)
  refine sv (v := (vA #[(vB true), (vI .i64 0), (vI .i64 0), (vI .i64 0), (vI .i64 0), (vI .i64 0), (vS none 0 0), (vI .i64 o.rev_Main), (vI .i64 o.rev_Sub), v113_])) (x_loadN (vs := [(vB true), (vI .i64 0), (vI .i64 0), (vI .i64 0), (vI .i64 0), (vI .i64 0), (vS none 0 0), (vI .i64 o.rev_Main), (vI .i64 o.rev_Sub), v113_]) rfl Try.underlying43 rfl z43 rfl (Rd.cells (Holds.rd H124_ 10 rfl) 0 rfl)) ?_
  refine S_list0 (T_storeN (vs := [(vB true), (vI .i64 0), (vI .i64 0), (vI .i64 0), (vI .i64 0), (vI .i64 0), (vS none 0 0), (vI .i64 o.rev_Main), (vI .i64 o.rev_Sub), v113_]) rfl rfl z43 rfl (List.forall_mem_cons.2 ⟨rfl, (List.forall_mem_cons.2 ⟨rfl, (List.forall_mem_cons.2 ⟨rfl, (List.forall_mem_cons.2 ⟨rfl, (List.forall_mem_cons.2 ⟨rfl, (List.forall_mem_cons.2 ⟨rfl, (List.forall_mem_cons.2 ⟨rfl, (List.forall_mem_cons.2 ⟨rfl, (List.forall_mem_cons.2 ⟨rfl, (List.forall_mem_cons.2 ⟨(RS.one he116_), (fun _ h__ => by cases h__)⟩)⟩)⟩)⟩)⟩)⟩)⟩)⟩)⟩)⟩) H124_ 11 rfl (Nat.le_of_ble_eq_true (by rfl)) ?_)
  intro w128_ S130_ H129_
  have S131_ := Same.trans S126_ S130_
  refine wpList_nil (X_then (hK127_ _ _ ?_))
  clear hK127_
  refine C_ret ?_
  refine R_any (v := (vA #[(vB true), (vI .i64 0), (vI .i64 0), (vI .i64 0), (vI .i64 0), (vI .i64 0), (vS none 0 0), (vI .i64 o.rev_Main), (vI .i64 o.rev_Sub), v113_])) (run_results1 rfl ⟨_, rfl, load_resN Try.underlying43 rfl z43 rfl (vs := [(vB true), (vI .i64 0), (vI .i64 0), (vI .i64 0), (vI .i64 0), (vI .i64 0), (vS none 0 0), (vI .i64 o.rev_Main), (vI .i64 o.rev_Sub), v113_]) (Holds.cl_cells H129_ 11 rfl 0 rfl)⟩) ?_
  have H132_ := Holds.recl H129_ 1 rfl ((lcons rfl (lcons (congrArg (vI .i64) ((by rw [hs_]) : o.rev_Main = s'.1)) (lcons (congrArg (vI .i64) ((by rw [hs_]) : o.rev_Sub = s'.2.1)) rfl))) : [(vS ka kl kc), (vI .i64 o.rev_Main), (vI .i64 o.rev_Sub), gv62_] = [(vS ka kl kc), (vI .i64 s'.1), (vI .i64 s'.2.1), gv62_])
  have H133_ : Holds w128_ (ro R111_ :: cl kb 104 [(vS ka kl kc), (vI .i64 s'.1), (vI .i64 s'.2.1), gv62_] :: sl 106 4 gv62_ (List.length (N0 ++ T64_)) ((N0 ++ T64_).flatMap GN.cells) :: sl 58 2 lv63_ (List.length ll65_) (ll65_.flatMap RV.cells) :: F) := (Holds.pkF H132_ [0, 0, 0, 0] 10 :)
  exact ⟨R111_, _, _, rfl, hz_R_R111_, ⟨gv62_, lv63_, N0, T64_, ll65_, true, 0, 0, 0, 0, 0, (vS none 0 0), o.rev_Main, o.rev_Sub, v113_, ([] : List RV), N114_, (congrArg (fun l => vA (List.toArray l)) (lcons rfl (lcons rfl (lcons rfl (lcons rfl (lcons rfl (lcons rfl (lcons (rfl : (vS none 0 0) = ((vS none 0 0))) rfl)))))))), rfl, (by rw [hs_]; exact he66_), (he67_), ((fun h_ => absurd h_ he68_)), (fun x hx => (hN x hx).mono hz_R_R111_), (⟨RS.nil _ _, he116_, he117_⟩), (by rw [hs_, ha_]; show KM.mk _ _ _ _ _ _ _ _ _ _ = _; rw [(he115_.trans he97_).trans he66_]; rfl)⟩, S131_, H133_⟩
 ·have c30_fp : ¬ (o.kind = 1) := of_decide_eq_false c30_f
  refine C_seq (fun K134_ hK134_ => C_reg ?_)
  refine sv (v := (vB (decide (o.kind = 2)))) (x_bin rfl rfl rfl) ?_
  refine sv (v := (vB (decide (o.kind = 2)))) (x_assign rfl) ?_
  refine wpList_nil (X_then (hK134_ _ _ ?_))
  clear hK134_
  refine C_cond (b := decide (o.kind = 2)) rfl (fun c135_t => ?_) (fun c135_f => ?_)
  ·have c135_tp : o.kind = 2 := of_decide_eq_true c135_t
   obtain ⟨⟨hem_, hne_⟩, hor_⟩ := iDo_end c135_tp hdo
   have hbo_ := hbd.of
   have hll_ := Tlk_ll hT (hbd.l (Nat.le_refl _))
   have hT0_ := T_ne hTN hne_
   rw [gLast_T hT hT0_] at hor_
   refine A_start (S := fun w => Rd b7_ [(vI .i64 o.kind), (vI .i64 o.rev_Main), (vI .i64 o.rev_Sub), (vI .i64 o.created_Main), (vI .i64 o.created_Sub), (vI .i64 o.ver), (vI .i64 o.at_)] w ∧ Rd b2_ [(vP (some ⟨kb, 0, none⟩))] w ∧ Sub R (hp w)) (N := 8) foll rfl rfl ?_
   have H136_ := Holds.drew_ H24_
   have hq137_ := And.intro (Holds.rd H136_ 2 rfl) (And.intro (Holds.rd H136_ 3 rfl) ((Holds.ro_at H136_ 4 rfl)))
   refine A_tk 0 (v := (vA #[(vP (some ⟨kb, 0, none⟩))])) rfl (by kernel_rfl) (fun w hS => x_loadN (vs := [(vP (some ⟨kb, 0, none⟩))]) rfl Try.underlying55 rfl z55 rfl (Rd.cells hS.2.1 0 rfl)) hq137_ ?_
   refine A_tk 1 (v := (vP (some ⟨b7_, 1, none⟩))) rfl (by kernel_rfl) (fun w hS => by kernel_rfl) hq137_ ?_
   refine A_tk 2 (v := (vA #[(vI .i64 o.rev_Main), (vI .i64 o.rev_Sub)])) rfl (by kernel_rfl) (fun w hS => x_loadN (vs := [(vI .i64 o.rev_Main), (vI .i64 o.rev_Sub)]) rfl Try.underlying31 rfl z31 rfl (Rd.cells hS.1 1 rfl)) hq137_ ?_
   refine A_ready (i := 3) (rs := []) (by kernel_rfl) ?_
   refine AllR.cons ?_ AllR.nil
   refine A_op (ls' := #[true, true, true, true, false, false, false, false]) rfl (by kernel_rfl) (T_callW (al := [(vA #[(vI .i64 o.rev_Main), (vI .i64 o.rev_Sub)])]) rfl rfl cb33 (Calls.into (n := 8) (al := [(vA #[(vI .i64 o.rev_Main), (vI .i64 o.rev_Sub)])]) Try.func33 rfl Try.ntmps33 rfl rfl ?_))
   refine C_seq (fun K138_ hK138_ => C_reg ?_)
   refine S_list (T_box (v := (vA #[(vI .i64 o.rev_Main), (vI .i64 o.rev_Sub)])) rfl H136_ ?_)
   intro b139_ w140_ S142_ H141_
   have S143_ := Same.trans (Same.trans S26_ (Same.drew _)) S142_
   refine S_list (T_alloc z58 H141_ ?_)
   intro b144_ w145_ S147_ H146_
   have S148_ := Same.trans S143_ S147_
   refine wpList_nil (X_then (hK138_ _ _ ?_))
   clear hK138_
   refine C_seq (fun K149_ hK149_ => C_reg ?_)
   refine sv (v := (vP (some ⟨b139_, 0, none⟩))) (by kernel_rfl) ?_
   refine sv (v := (vI .i64 o.rev_Main)) (x_load1 rfl Try.underlying2 rfl ((Holds.rd H146_ 1 rfl) 0 (vI .i64 o.rev_Main) rfl)) ?_
   refine sv (v := (vP (some ⟨b139_, 1, none⟩))) (by kernel_rfl) ?_
   refine sv (v := (vI .i64 o.rev_Sub)) (x_load1 rfl Try.underlying2 rfl ((Holds.rd H146_ 1 rfl) 1 (vI .i64 o.rev_Sub) rfl)) ?_
   refine sv (v := (vA #[(vI .i64 o.rev_Main), (vI .i64 o.rev_Sub)])) (by kernel_rfl) ?_
   refine S_list0 (T_storeN (vs := [(vI .i64 o.rev_Main), (vI .i64 o.rev_Sub)]) rfl rfl z58 rfl (by simp [Value.oneCell']) H146_ 0 rfl (Nat.le_of_ble_eq_true (by rfl)) ?_)
   intro w150_ S152_ H151_
   have S153_ := Same.trans S148_ S152_
   refine wpList_nil (X_then (hK149_ _ _ ?_))
   clear hK149_
   refine C_ret ?_
   refine R_any (v := (vA #[(vI .i64 o.rev_Main), (vI .i64 o.rev_Sub)])) (run_results1 rfl ⟨_, rfl, load_resN Try.underlying58 rfl z58 rfl (vs := [(vI .i64 o.rev_Main), (vI .i64 o.rev_Sub)]) (Holds.cl_cells H151_ 0 rfl 0 rfl)⟩) ⟨_, rfl, ?_⟩
   refine ⟨⟨Holds.rd H151_ 4 rfl, Holds.rd H151_ 5 rfl, (Holds.ro_at H151_ 6 rfl)⟩, ?_⟩
   refine A_ready (i := 4) (rs := []) (by kernel_rfl) ?_
   refine AllR.cons ?_ AllR.nil
   refine A_op (ls' := #[true, true, true, true, true, false, false, false]) rfl (by kernel_rfl) (T_callW (al := [(vA #[(vP (some ⟨kb, 0, none⟩))]), (vA #[(vI .i64 o.rev_Main), (vI .i64 o.rev_Sub)])]) rfl rfl cb37 (Calls.into (n := 12) (al := [(vA #[(vP (some ⟨kb, 0, none⟩))]), (vA #[(vI .i64 o.rev_Main), (vI .i64 o.rev_Sub)])]) Try.func37 rfl Try.ntmps37 rfl rfl ?_))
   refine C_seq (fun K154_ hK154_ => C_reg ?_)
   refine S_list (T_box (v := (vA #[(vP (some ⟨kb, 0, none⟩))])) rfl H151_ ?_)
   intro b155_ w156_ S158_ H157_
   have S159_ := Same.trans S153_ S158_
   refine S_list (T_box (v := (vA #[(vI .i64 o.rev_Main), (vI .i64 o.rev_Sub)])) rfl H157_ ?_)
   intro b160_ w161_ S163_ H162_
   have S164_ := Same.trans S159_ S163_
   refine sv (v := (Value.nilIface)) (x_assign rfl) ?_
   refine wpList_nil (X_then (hK154_ _ _ ?_))
   clear hK154_
   refine C_seq (fun K165_ hK165_ => C_reg ?_)
   refine sv (v := (vP (some ⟨b155_, 0, none⟩))) (by kernel_rfl) ?_
   refine sv (v := (vP (some ⟨kb, 0, none⟩))) (x_load1 rfl Try.underlying53 rfl ((Holds.rd H162_ 1 rfl) 0 (vP (some ⟨kb, 0, none⟩)) rfl)) ?_
   refine sv (v := (vP (some ⟨b160_, 0, none⟩))) (by kernel_rfl) ?_
   refine sv (v := (vI .i64 o.rev_Main)) (x_load1 rfl Try.underlying2 rfl ((Holds.rd H162_ 0 rfl) 0 (vI .i64 o.rev_Main) rfl)) ?_
   refine sv (v := (vP (some ⟨b160_, 1, none⟩))) (by kernel_rfl) ?_
   refine sv (v := (vI .i64 o.rev_Sub)) (x_load1 rfl Try.underlying2 rfl ((Holds.rd H162_ 0 rfl) 1 (vI .i64 o.rev_Sub) rfl)) ?_
   have H175_ := ((Holds.bring (Holds.bring (Holds.bring (Holds.bring H162_ 11 rfl) 11 rfl) 11 rfl) 11 rfl) :)
   refine S_list (T_callG (al := [(vP (some ⟨kb, 0, none⟩)), (vP none), (vI .i64 o.rev_Main), (vI .i64 o.rev_Sub)]) (pre := [cl kb 104 [(vS ka kl kc), (vI .i64 m), (vI .i64 n), gv], sl 106 4 gv (List.length (N0 ++ T)) ((N0 ++ T).flatMap GN.cells), sl 58 2 lv (List.length ll) (ll.flatMap RV.cells)]) rfl rfl cb55 (kTomb R kb ka kl kc m n gv lv N0 T ll o.rev_Main o.rev_Sub (by first | assumption | omega) (by first | assumption | omega) (hT0_) (hN) (⟨by omega, by omega⟩) (hbd.v (by omega)) (iEmp_ne hem_) (fun h_ => by rcases hor_ with ⟨h0_, _⟩ | ⟨_, h1_, _⟩; exact absurd h0_ h_; exact h1_)) H175_ ?_)
   rintro R167_ v168_ p179_ w176_ hs166_ hq180_ S178_ H177_
   rcases hq180_ with ⟨rfl, rfl, he169_⟩ | ⟨gv170_, N0171_, rfl, rfl, he172_, he173_, he174_⟩
   ·skip
    have S181_ := Same.trans S164_ S178_
    obtain ⟨hs_, ha_⟩ : s' = (m, n, (N0 ++ T).map GN.m) ∧ a = kmOk false := by rcases hor_ with ⟨_, h1_, h2_⟩ | ⟨h0_, _⟩; exact ⟨h1_, h2_⟩; exact absurd he169_ h0_
    refine sv (v := (Value.iface 122 (Value.string (ByteArray.mk #[109, 118, 99, 99, 58, 32, 114, 101, 118, 105, 115, 105, 111, 110, 32, 110, 111, 116, 32, 102, 111, 117, 110, 100])))) (x_assign rfl) ?_
    refine wpList_nil (X_then (hK165_ _ _ ?_))
    clear hK165_
    refine C_ret ?_
    refine R_any (v := (Value.iface 122 (Value.string (ByteArray.mk #[109, 118, 99, 99, 58, 32, 114, 101, 118, 105, 115, 105, 111, 110, 32, 110, 111, 116, 32, 102, 111, 117, 110, 100])))) (run_results1 rfl rfl) ⟨_, rfl, ?_⟩
    refine ⟨⟨Holds.rd H177_ 10 rfl, Holds.rd H177_ 11 rfl, (Sub.trans' hs166_ (Holds.ro_at H177_ 0 rfl))⟩, ?_⟩
    have hq183_ := And.intro (Holds.rd H177_ 10 rfl) (And.intro (Holds.rd H177_ 11 rfl) ((Sub.trans' hs166_ (Holds.ro_at H177_ 0 rfl))))
    refine A_tk 5 (v := (vB false)) rfl (by kernel_rfl) (fun w hS => by kernel_rfl) hq183_ ?_
    refine A_tk 6 (v := (vP (some ⟨b18_, 0, none⟩))) rfl (by kernel_rfl) (fun w hS => by kernel_rfl) hq183_ ?_
    refine A_ready (i := 7) (rs := []) (by kernel_rfl) ?_
    refine AllR.cons ?_ AllR.nil
    refine A_op0 (ls' := #[true, true, true, true, true, true, true, true]) rfl (by kernel_rfl) (T_store1 (v := (vB false)) rfl rfl z4 rfl H177_ 8 rfl (Nat.le_of_ble_eq_true (by rfl)) ?_)
    intro w184_ S186_ H185_
    have S187_ := Same.trans S181_ S186_
    refine ⟨⟨Holds.rd H185_ 10 rfl, Holds.rd H185_ 11 rfl, (Sub.trans' hs166_ (Holds.ro_at H185_ 0 rfl))⟩, ?_⟩
    refine A_done (by kernel_rfl) ?_
    refine (X_blkN (X_then (hK27_ _ _ ?_)))
    clear hK27_
    refine C_seq (fun K188_ hK188_ => C_reg ?_)
    refine sv (v := (vA #[(vP (some ⟨kb, 0, none⟩))])) (x_loadN (vs := [(vP (some ⟨kb, 0, none⟩))]) rfl Try.underlying55 rfl z55 rfl (Rd.cells (Holds.rd H185_ 11 rfl) 0 rfl)) ?_
    refine S_list (T_callW (al := [(vA #[(vP (some ⟨kb, 0, none⟩))])]) rfl rfl cb49 (Calls.into (n := 6) (al := [(vA #[(vP (some ⟨kb, 0, none⟩))])]) Try.func49 rfl Try.ntmps49 rfl rfl ?_))
    refine C_seq (fun K189_ hK189_ => C_reg ?_)
    refine S_list (T_box (v := (vA #[(vP (some ⟨kb, 0, none⟩))])) rfl H185_ ?_)
    intro b190_ w191_ S193_ H192_
    have S194_ := Same.trans S187_ S193_
    refine S_list (T_alloc z61 H192_ ?_)
    intro b195_ w196_ S198_ H197_
    have S199_ := Same.trans S194_ S198_
    refine wpList_nil (X_then (hK189_ _ _ ?_))
    clear hK189_
    refine C_seq (fun K200_ hK200_ => C_reg ?_)
    refine sv (v := (vP (some ⟨b190_, 0, none⟩))) (by kernel_rfl) ?_
    refine sv (v := (vP (some ⟨kb, 0, none⟩))) (x_load1 rfl Try.underlying53 rfl ((Holds.rd H197_ 1 rfl) 0 (vP (some ⟨kb, 0, none⟩)) rfl)) ?_
    have H209_ := ((Holds.bring (Holds.bring (Holds.bring (Holds.bring H197_ 5 rfl) 5 rfl) 5 rfl) 5 rfl) :)
    refine S_list (T_callG (al := [(vP (some ⟨kb, 0, none⟩))]) (pre := [cl kb 104 [(vS ka kl kc), (vI .i64 m), (vI .i64 n), gv], sl 106 4 gv (List.length (N0 ++ T)) ((N0 ++ T).flatMap GN.cells), sl 58 2 lv (List.length ll) (ll.flatMap RV.cells)]) rfl rfl cb65 (kZzOut R167_ kb ka kl kc m n gv lv N0 T ll (hT) (fun x hx => (hN x hx).mono hs166_) (by have := hbd.of.1; omega) (hbd.l (by omega))) H209_ ?_)
    rintro R202_ v203_ p213_ w210_ hs201_ ⟨v204_, N205_, rfl, rfl, he206_, he207_, he208_⟩ S212_ H211_
    have S214_ := Same.trans S199_ S212_
    have hz_R_R202_ := Sub.trans' hs166_ hs201_
    have hzl_ := map_m_len he206_
    have hza_ := map_m_all he206_ (hbd.l (show _ ≤ 100000 by omega))
    refine S_list0 (T_storeN (vs := [(vI .i64 m), (vI .i64 n), v204_]) rfl rfl z61 rfl (List.forall_mem_cons.2 ⟨rfl, (List.forall_mem_cons.2 ⟨rfl, (List.forall_mem_cons.2 ⟨(RS.one he207_), (fun _ h__ => by cases h__)⟩)⟩)⟩) H211_ 4 rfl (Nat.le_of_ble_eq_true (by rfl)) ?_)
    intro w215_ S217_ H216_
    have S218_ := Same.trans S214_ S217_
    refine wpList_nil (X_then (hK200_ _ _ ?_))
    clear hK200_
    refine C_ret ?_
    refine R_any (v := (vA #[(vI .i64 m), (vI .i64 n), v204_])) (run_results1 rfl ⟨_, rfl, load_resN Try.underlying61 rfl z61 rfl (vs := [(vI .i64 m), (vI .i64 n), v204_]) (Holds.cl_cells H216_ 4 rfl 0 rfl)⟩) ⟨_, rfl, ?_⟩
    refine S_list (T_callG (al := [(vA #[(vI .i64 m), (vI .i64 n), v204_])]) (pre := []) rfl rfl cb48 (kDumpOut R202_ m n v204_ N205_ he207_ (he208_) (by have := hbd.of.1; omega) (hza_)) H216_ ?_)
    rintro R220_ v221_ p230_ w227_ hs219_ ⟨v222_, N223_, rfl, rfl, he224_, he225_, he226_⟩ S229_ H228_
    have S231_ := Same.trans S218_ S229_
    have hz_R_R220_ := Sub.trans' hz_R_R202_ hs219_
    have hz_R167__R220_ := Sub.trans' hs201_ hs219_
    refine sv (v := (vP (some ⟨b18_, 7, none⟩))) (by kernel_rfl) ?_
    refine S_list0 (T_storeN (vs := [(vI .i64 m), (vI .i64 n), v222_]) rfl rfl z34 rfl (List.forall_mem_cons.2 ⟨rfl, (List.forall_mem_cons.2 ⟨rfl, (List.forall_mem_cons.2 ⟨(RS.one he225_), (fun _ h__ => by cases h__)⟩)⟩)⟩) H228_ 10 rfl (Nat.le_of_ble_eq_true (by rfl)) ?_)
    intro w232_ S234_ H233_
    have S235_ := Same.trans S231_ S234_
    refine wpList_nil (X_then (hK188_ _ _ ?_))
    clear hK188_
    refine C_seq (fun K236_ hK236_ => C_reg ?_)
    refine sv (v := (vA #[(vB false), (vI .i64 0), (vI .i64 0), (vI .i64 0), (vI .i64 0), (vI .i64 0), (vS none 0 0), (vI .i64 m), (vI .i64 n), v222_])) (x_loadN (vs := [(vB false), (vI .i64 0), (vI .i64 0), (vI .i64 0), (vI .i64 0), (vI .i64 0), (vS none 0 0), (vI .i64 m), (vI .i64 n), v222_]) rfl Try.underlying43 rfl z43 rfl (Rd.cells (Holds.rd H233_ 10 rfl) 0 rfl)) ?_
    refine S_list0 (T_storeN (vs := [(vB false), (vI .i64 0), (vI .i64 0), (vI .i64 0), (vI .i64 0), (vI .i64 0), (vS none 0 0), (vI .i64 m), (vI .i64 n), v222_]) rfl rfl z43 rfl (List.forall_mem_cons.2 ⟨rfl, (List.forall_mem_cons.2 ⟨rfl, (List.forall_mem_cons.2 ⟨rfl, (List.forall_mem_cons.2 ⟨rfl, (List.forall_mem_cons.2 ⟨rfl, (List.forall_mem_cons.2 ⟨rfl, (List.forall_mem_cons.2 ⟨rfl, (List.forall_mem_cons.2 ⟨rfl, (List.forall_mem_cons.2 ⟨rfl, (List.forall_mem_cons.2 ⟨(RS.one he225_), (fun _ h__ => by cases h__)⟩)⟩)⟩)⟩)⟩)⟩)⟩)⟩)⟩)⟩) H233_ 11 rfl (Nat.le_of_ble_eq_true (by rfl)) ?_)
    intro w237_ S239_ H238_
    have S240_ := Same.trans S235_ S239_
    refine wpList_nil (X_then (hK236_ _ _ ?_))
    clear hK236_
    refine C_ret ?_
    refine R_any (v := (vA #[(vB false), (vI .i64 0), (vI .i64 0), (vI .i64 0), (vI .i64 0), (vI .i64 0), (vS none 0 0), (vI .i64 m), (vI .i64 n), v222_])) (run_results1 rfl ⟨_, rfl, load_resN Try.underlying43 rfl z43 rfl (vs := [(vB false), (vI .i64 0), (vI .i64 0), (vI .i64 0), (vI .i64 0), (vI .i64 0), (vS none 0 0), (vI .i64 m), (vI .i64 n), v222_]) (Holds.cl_cells H238_ 11 rfl 0 rfl)⟩) ?_
    have H241_ := Holds.recl H238_ 1 rfl ((lcons rfl (lcons (congrArg (vI .i64) ((by rw [hs_]) : m = s'.1)) (lcons (congrArg (vI .i64) ((by rw [hs_]) : n = s'.2.1)) rfl))) : [(vS ka kl kc), (vI .i64 m), (vI .i64 n), gv] = [(vS ka kl kc), (vI .i64 s'.1), (vI .i64 s'.2.1), gv])
    have H242_ : Holds w237_ (ro R220_ :: cl kb 104 [(vS ka kl kc), (vI .i64 s'.1), (vI .i64 s'.2.1), gv] :: sl 106 4 gv (List.length (N0 ++ T)) ((N0 ++ T).flatMap GN.cells) :: sl 58 2 lv (List.length ll) (ll.flatMap RV.cells) :: F) := (Holds.pkF H241_ [0, 0, 0, 0] 10 :)
    exact ⟨R220_, _, _, rfl, hz_R_R220_, ⟨gv, lv, N0, T, ll, false, 0, 0, 0, 0, 0, (vS none 0 0), m, n, v222_, ([] : List RV), N223_, (congrArg (fun l => vA (List.toArray l)) (lcons rfl (lcons rfl (lcons rfl (lcons rfl (lcons rfl (lcons rfl (lcons (rfl : (vS none 0 0) = ((vS none 0 0))) rfl)))))))), rfl, (by rw [hs_]), (hT), (hTN), (fun x hx => (hN x hx).mono hz_R_R220_), (⟨RS.nil _ _, he225_, he226_⟩), (by rw [hs_, ha_]; show KM.mk _ _ _ _ _ _ _ _ _ _ = _; rw [(he224_.trans he206_)]; rfl)⟩, S240_, H242_⟩
   ·skip
    have S182_ := Same.trans S164_ S178_
    obtain ⟨hs_, ha_⟩ : s' = (o.rev_Main, o.rev_Sub, iPut ((N0 ++ T).map GN.m) o.rev_Main o.rev_Sub ++ [gZero]) ∧ a = kmOk true := by rcases hor_ with ⟨h0_, _⟩ | ⟨_, _, h1_, h2_⟩; exact absurd h0_ he172_; exact ⟨h1_, h2_⟩
    have hme_ : (N0171_ ++ [(⟨0, 0, 0, .slice none 0 0, []⟩ : GN)]).map GN.m = iPut ((N0 ++ T).map GN.m) o.rev_Main o.rev_Sub ++ [gZero] := by rw [List.map_append, he173_]; rfl
    have hbd2_ : GBd (B + 1) ((N0171_ ++ [(⟨0, 0, 0, .slice none 0 0, []⟩ : GN)]).map GN.m) := by rw [hme_]; exact iEnd_bd hbd hne_
    refine sv (v := (Value.nilIface)) (x_assign rfl) ?_
    refine wpList_nil (X_then (hK165_ _ _ ?_))
    clear hK165_
    refine C_ret ?_
    refine R_any (v := (Value.nilIface)) (run_results1 rfl rfl) ⟨_, rfl, ?_⟩
    refine ⟨⟨Holds.rd H177_ 10 rfl, Holds.rd H177_ 11 rfl, (Sub.trans' hs166_ (Holds.ro_at H177_ 0 rfl))⟩, ?_⟩
    have hq243_ := And.intro (Holds.rd H177_ 10 rfl) (And.intro (Holds.rd H177_ 11 rfl) ((Sub.trans' hs166_ (Holds.ro_at H177_ 0 rfl))))
    refine A_tk 5 (v := (vB true)) rfl (by kernel_rfl) (fun w hS => by kernel_rfl) hq243_ ?_
    refine A_tk 6 (v := (vP (some ⟨b18_, 0, none⟩))) rfl (by kernel_rfl) (fun w hS => by kernel_rfl) hq243_ ?_
    refine A_ready (i := 7) (rs := []) (by kernel_rfl) ?_
    refine AllR.cons ?_ AllR.nil
    refine A_op0 (ls' := #[true, true, true, true, true, true, true, true]) rfl (by kernel_rfl) (T_store1 (v := (vB true)) rfl rfl z4 rfl H177_ 8 rfl (Nat.le_of_ble_eq_true (by rfl)) ?_)
    intro w244_ S246_ H245_
    have S247_ := Same.trans S182_ S246_
    refine ⟨⟨Holds.rd H245_ 10 rfl, Holds.rd H245_ 11 rfl, (Sub.trans' hs166_ (Holds.ro_at H245_ 0 rfl))⟩, ?_⟩
    refine A_done (by kernel_rfl) ?_
    refine (X_blkN (X_then (hK27_ _ _ ?_)))
    clear hK27_
    refine C_seq (fun K248_ hK248_ => C_reg ?_)
    refine sv (v := (vA #[(vP (some ⟨kb, 0, none⟩))])) (x_loadN (vs := [(vP (some ⟨kb, 0, none⟩))]) rfl Try.underlying55 rfl z55 rfl (Rd.cells (Holds.rd H245_ 11 rfl) 0 rfl)) ?_
    refine S_list (T_callW (al := [(vA #[(vP (some ⟨kb, 0, none⟩))])]) rfl rfl cb49 (Calls.into (n := 6) (al := [(vA #[(vP (some ⟨kb, 0, none⟩))])]) Try.func49 rfl Try.ntmps49 rfl rfl ?_))
    refine C_seq (fun K249_ hK249_ => C_reg ?_)
    refine S_list (T_box (v := (vA #[(vP (some ⟨kb, 0, none⟩))])) rfl H245_ ?_)
    intro b250_ w251_ S253_ H252_
    have S254_ := Same.trans S247_ S253_
    refine S_list (T_alloc z61 H252_ ?_)
    intro b255_ w256_ S258_ H257_
    have S259_ := Same.trans S254_ S258_
    refine wpList_nil (X_then (hK249_ _ _ ?_))
    clear hK249_
    refine C_seq (fun K260_ hK260_ => C_reg ?_)
    refine sv (v := (vP (some ⟨b250_, 0, none⟩))) (by kernel_rfl) ?_
    refine sv (v := (vP (some ⟨kb, 0, none⟩))) (x_load1 rfl Try.underlying53 rfl ((Holds.rd H257_ 1 rfl) 0 (vP (some ⟨kb, 0, none⟩)) rfl)) ?_
    have H269_ := ((Holds.bring (Holds.bring (Holds.bring (Holds.bring H257_ 5 rfl) 5 rfl) 5 rfl) 5 rfl) :)
    refine S_list (T_callG (al := [(vP (some ⟨kb, 0, none⟩))]) (pre := [cl kb 104 [(vS ka kl kc), (vI .i64 o.rev_Main), (vI .i64 o.rev_Sub), gv170_], sl 106 4 gv170_ (List.length (N0171_ ++ [(⟨0, 0, 0, .slice none 0 0, []⟩ : GN)])) ((N0171_ ++ [(⟨0, 0, 0, .slice none 0 0, []⟩ : GN)]).flatMap GN.cells), sl 58 2 (vS none 0 0) (List.length ([] : List RV)) (([] : List RV).flatMap RV.cells)]) rfl rfl cb65 (kZzOut R167_ kb ka kl kc o.rev_Main o.rev_Sub gv170_ (vS none 0 0) N0171_ [(⟨0, 0, 0, .slice none 0 0, []⟩ : GN)] ([] : List RV) ((Or.inr ⟨0, 0, 0, rfl⟩)) (he174_) (by have := hbd2_.of.1; omega) (hbd2_.l (by omega))) H269_ ?_)
    rintro R262_ v263_ p273_ w270_ hs261_ ⟨v264_, N265_, rfl, rfl, he266_, he267_, he268_⟩ S272_ H271_
    have S274_ := Same.trans S259_ S272_
    have hz_R_R262_ := Sub.trans' hs166_ hs261_
    have hzl_ := map_m_len he266_
    have hza_ := map_m_all he266_ (hbd2_.l (show _ ≤ 100000 by omega))
    refine S_list0 (T_storeN (vs := [(vI .i64 o.rev_Main), (vI .i64 o.rev_Sub), v264_]) rfl rfl z61 rfl (List.forall_mem_cons.2 ⟨rfl, (List.forall_mem_cons.2 ⟨rfl, (List.forall_mem_cons.2 ⟨(RS.one he267_), (fun _ h__ => by cases h__)⟩)⟩)⟩) H271_ 4 rfl (Nat.le_of_ble_eq_true (by rfl)) ?_)
    intro w275_ S277_ H276_
    have S278_ := Same.trans S274_ S277_
    refine wpList_nil (X_then (hK260_ _ _ ?_))
    clear hK260_
    refine C_ret ?_
    refine R_any (v := (vA #[(vI .i64 o.rev_Main), (vI .i64 o.rev_Sub), v264_])) (run_results1 rfl ⟨_, rfl, load_resN Try.underlying61 rfl z61 rfl (vs := [(vI .i64 o.rev_Main), (vI .i64 o.rev_Sub), v264_]) (Holds.cl_cells H276_ 4 rfl 0 rfl)⟩) ⟨_, rfl, ?_⟩
    refine S_list (T_callG (al := [(vA #[(vI .i64 o.rev_Main), (vI .i64 o.rev_Sub), v264_])]) (pre := []) rfl rfl cb48 (kDumpOut R262_ o.rev_Main o.rev_Sub v264_ N265_ he267_ (he268_) (by have := hbd2_.of.1; omega) (hza_)) H276_ ?_)
    rintro R280_ v281_ p290_ w287_ hs279_ ⟨v282_, N283_, rfl, rfl, he284_, he285_, he286_⟩ S289_ H288_
    have S291_ := Same.trans S278_ S289_
    have hz_R_R280_ := Sub.trans' hz_R_R262_ hs279_
    have hz_R167__R280_ := Sub.trans' hs261_ hs279_
    refine sv (v := (vP (some ⟨b18_, 7, none⟩))) (by kernel_rfl) ?_
    refine S_list0 (T_storeN (vs := [(vI .i64 o.rev_Main), (vI .i64 o.rev_Sub), v282_]) rfl rfl z34 rfl (List.forall_mem_cons.2 ⟨rfl, (List.forall_mem_cons.2 ⟨rfl, (List.forall_mem_cons.2 ⟨(RS.one he285_), (fun _ h__ => by cases h__)⟩)⟩)⟩) H288_ 10 rfl (Nat.le_of_ble_eq_true (by rfl)) ?_)
    intro w292_ S294_ H293_
    have S295_ := Same.trans S291_ S294_
    refine wpList_nil (X_then (hK248_ _ _ ?_))
    clear hK248_
    refine C_seq (fun K296_ hK296_ => C_reg ?_)
    refine sv (v := (vA #[(vB true), (vI .i64 0), (vI .i64 0), (vI .i64 0), (vI .i64 0), (vI .i64 0), (vS none 0 0), (vI .i64 o.rev_Main), (vI .i64 o.rev_Sub), v282_])) (x_loadN (vs := [(vB true), (vI .i64 0), (vI .i64 0), (vI .i64 0), (vI .i64 0), (vI .i64 0), (vS none 0 0), (vI .i64 o.rev_Main), (vI .i64 o.rev_Sub), v282_]) rfl Try.underlying43 rfl z43 rfl (Rd.cells (Holds.rd H293_ 10 rfl) 0 rfl)) ?_
    refine S_list0 (T_storeN (vs := [(vB true), (vI .i64 0), (vI .i64 0), (vI .i64 0), (vI .i64 0), (vI .i64 0), (vS none 0 0), (vI .i64 o.rev_Main), (vI .i64 o.rev_Sub), v282_]) rfl rfl z43 rfl (List.forall_mem_cons.2 ⟨rfl, (List.forall_mem_cons.2 ⟨rfl, (List.forall_mem_cons.2 ⟨rfl, (List.forall_mem_cons.2 ⟨rfl, (List.forall_mem_cons.2 ⟨rfl, (List.forall_mem_cons.2 ⟨rfl, (List.forall_mem_cons.2 ⟨rfl, (List.forall_mem_cons.2 ⟨rfl, (List.forall_mem_cons.2 ⟨rfl, (List.forall_mem_cons.2 ⟨(RS.one he285_), (fun _ h__ => by cases h__)⟩)⟩)⟩)⟩)⟩)⟩)⟩)⟩)⟩)⟩) H293_ 11 rfl (Nat.le_of_ble_eq_true (by rfl)) ?_)
    intro w297_ S299_ H298_
    have S300_ := Same.trans S295_ S299_
    refine wpList_nil (X_then (hK296_ _ _ ?_))
    clear hK296_
    refine C_ret ?_
    refine R_any (v := (vA #[(vB true), (vI .i64 0), (vI .i64 0), (vI .i64 0), (vI .i64 0), (vI .i64 0), (vS none 0 0), (vI .i64 o.rev_Main), (vI .i64 o.rev_Sub), v282_])) (run_results1 rfl ⟨_, rfl, load_resN Try.underlying43 rfl z43 rfl (vs := [(vB true), (vI .i64 0), (vI .i64 0), (vI .i64 0), (vI .i64 0), (vI .i64 0), (vS none 0 0), (vI .i64 o.rev_Main), (vI .i64 o.rev_Sub), v282_]) (Holds.cl_cells H298_ 11 rfl 0 rfl)⟩) ?_
    have H301_ := Holds.recl H298_ 1 rfl ((lcons rfl (lcons (congrArg (vI .i64) ((by rw [hs_]) : o.rev_Main = s'.1)) (lcons (congrArg (vI .i64) ((by rw [hs_]) : o.rev_Sub = s'.2.1)) rfl))) : [(vS ka kl kc), (vI .i64 o.rev_Main), (vI .i64 o.rev_Sub), gv170_] = [(vS ka kl kc), (vI .i64 s'.1), (vI .i64 s'.2.1), gv170_])
    have H302_ : Holds w297_ (ro R280_ :: cl kb 104 [(vS ka kl kc), (vI .i64 s'.1), (vI .i64 s'.2.1), gv170_] :: sl 106 4 gv170_ (List.length (N0171_ ++ [(⟨0, 0, 0, .slice none 0 0, []⟩ : GN)])) ((N0171_ ++ [(⟨0, 0, 0, .slice none 0 0, []⟩ : GN)]).flatMap GN.cells) :: sl 58 2 (vS none 0 0) (List.length ([] : List RV)) (([] : List RV).flatMap RV.cells) :: F) := (Holds.pkF H301_ [0, 0, 0, 0] 10 :)
    exact ⟨R280_, _, _, rfl, hz_R_R280_, ⟨gv170_, (vS none 0 0), N0171_, [(⟨0, 0, 0, .slice none 0 0, []⟩ : GN)], ([] : List RV), true, 0, 0, 0, 0, 0, (vS none 0 0), o.rev_Main, o.rev_Sub, v282_, ([] : List RV), N283_, (congrArg (fun l => vA (List.toArray l)) (lcons rfl (lcons rfl (lcons rfl (lcons rfl (lcons rfl (lcons rfl (lcons (rfl : (vS none 0 0) = ((vS none 0 0))) rfl)))))))), rfl, (by rw [hs_]; exact hme_), ((Or.inr ⟨0, 0, 0, rfl⟩)), ((fun h_ => by cases h_)), (fun x hx => (he174_ x hx).mono hz_R167__R280_), (⟨RS.nil _ _, he285_, he286_⟩), (by rw [hs_, ha_]; show KM.mk _ _ _ _ _ _ _ _ _ _ = _; rw [(he284_.trans he266_).trans hme_]; rfl)⟩, S300_, H302_⟩
  ·have c135_fp : ¬ (o.kind = 2) := of_decide_eq_false c135_f
   refine C_seq (fun K303_ hK303_ => C_reg ?_)
   refine sv (v := (vB (decide (o.kind = 3)))) (x_bin rfl rfl rfl) ?_
   refine sv (v := (vB (decide (o.kind = 3)))) (x_assign rfl) ?_
   refine wpList_nil (X_then (hK303_ _ _ ?_))
   clear hK303_
   refine C_cond (b := decide (o.kind = 3)) rfl (fun c304_t => ?_) (fun c304_f => ?_)
   ·have c304_tp : o.kind = 3 := of_decide_eq_true c304_t
    exact absurd hdo (by rw [iDo_no (by omega) (by omega) (by omega) (by omega) (by omega) (by omega)]; intro h_; cases h_)
   ·have c304_fp : ¬ (o.kind = 3) := of_decide_eq_false c304_f
    refine C_seq (fun K305_ hK305_ => C_reg ?_)
    refine sv (v := (vB (decide (o.kind = 4)))) (x_bin rfl rfl rfl) ?_
    refine sv (v := (vB (decide (o.kind = 4)))) (x_assign rfl) ?_
    refine wpList_nil (X_then (hK305_ _ _ ?_))
    clear hK305_
    refine C_cond (b := decide (o.kind = 4)) rfl (fun c306_t => ?_) (fun c306_f => ?_)
    ·have c306_tp : o.kind = 4 := of_decide_eq_true c306_t
     exact absurd hdo (by rw [iDo_no (by omega) (by omega) (by omega) (by omega) (by omega) (by omega)]; intro h_; cases h_)
    ·have c306_fp : ¬ (o.kind = 4) := of_decide_eq_false c306_f
     refine C_seq (fun K307_ hK307_ => C_reg ?_)
     refine sv (v := (vB (decide (o.kind = 5)))) (x_bin rfl rfl rfl) ?_
     refine sv (v := (vB (decide (o.kind = 5)))) (x_assign rfl) ?_
     refine wpList_nil (X_then (hK307_ _ _ ?_))
     clear hK307_
     refine C_cond (b := decide (o.kind = 5)) rfl (fun c308_t => ?_) (fun c308_f => ?_)
     ·have c308_tp : o.kind = 5 := of_decide_eq_true c308_t
      obtain ⟨hem_, hs_, ha_⟩ := iDo_get c308_tp hdo
      have hbo_ := hbd.of
      refine C_seq (fun K309_ hK309_ => C_reg ?_)
      refine sv (v := (vA #[(vP (some ⟨kb, 0, none⟩))])) (x_loadN (vs := [(vP (some ⟨kb, 0, none⟩))]) rfl Try.underlying55 rfl z55 rfl (Rd.cells (Holds.rd H24_ 3 rfl) 0 rfl)) ?_
      refine sv (v := (vP (some ⟨b7_, 6, none⟩))) (by kernel_rfl) ?_
      refine sv (v := (vI .i64 o.at_)) (x_load1 rfl Try.underlying2 rfl ((Holds.rd H24_ 2 rfl) 6 (vI .i64 o.at_) rfl)) ?_
      refine S_list (T_callW (al := [(vA #[(vP (some ⟨kb, 0, none⟩))]), (vI .i64 o.at_)]) rfl rfl cb40 (Calls.into (n := 16) (al := [(vA #[(vP (some ⟨kb, 0, none⟩))]), (vI .i64 o.at_)]) Try.func40 rfl Try.ntmps40 rfl rfl ?_))
      refine C_seq (fun K310_ hK310_ => C_reg ?_)
      refine S_list (T_box (v := (vA #[(vP (some ⟨kb, 0, none⟩))])) rfl H24_ ?_)
      intro b311_ w312_ S314_ H313_
      have S315_ := Same.trans S26_ S314_
      refine S_list (T_alloc z58 H313_ ?_)
      intro b316_ w317_ S319_ H318_
      have S320_ := Same.trans S315_ S319_
      refine S_list (T_alloc z58 H318_ ?_)
      intro b321_ w322_ S324_ H323_
      have S325_ := Same.trans S320_ S324_
      refine sv (v := (vI .i64 0)) (x_assign rfl) ?_
      refine sv (v := (Value.nilIface)) (x_assign rfl) ?_
      refine wpList_nil (X_then (hK310_ _ _ ?_))
      clear hK310_
      refine C_seq (fun K326_ hK326_ => C_reg ?_)
      refine sv (v := (vP (some ⟨b311_, 0, none⟩))) (by kernel_rfl) ?_
      refine sv (v := (vP (some ⟨kb, 0, none⟩))) (x_load1 rfl Try.underlying53 rfl ((Holds.rd H323_ 2 rfl) 0 (vP (some ⟨kb, 0, none⟩)) rfl)) ?_
      refine sv (v := (vI .i64 o.at_)) (x_move rfl) ?_
      have H335_ := ((Holds.bring (Holds.bring (Holds.bring (Holds.bring H323_ 8 rfl) 10 rfl) 10 rfl) 10 rfl) :)
      refine S_list (T_call (al := [(vP (some ⟨kb, 0, none⟩)), (vP none), (vI .i64 o.at_)]) (pre := [sl 106 4 gv (List.length (N0 ++ T)) ((N0 ++ T).flatMap GN.cells), sl 58 2 lv (List.length ll) (ll.flatMap RV.cells), cl kb 104 [(vS ka kl kc), (vI .i64 m), (vI .i64 n), gv]]) rfl rfl cb58 (kGet R kb ka kl kc m n gv lv N0 T ll o.at_ (by first | assumption | omega) (by first | assumption | omega) (by omega) (hbd.l (by omega)) (iEmp_ne hem_) (hbd.v (by omega))) H335_ ?_)
      rintro v327_ p339_ w336_ hq340_ S338_ H337_
      rcases hq340_ with ⟨rfl, rfl, he328_⟩ | ⟨a329_, b330_, c331_, d332_, e333_, rfl, rfl, he334_⟩
      ·skip
       have S341_ := Same.trans S325_ S338_
       refine sv (v := (vA #[(vI .i64 0), (vI .i64 0)])) (by kernel_rfl) ?_
       refine sv (v := (vA #[(vI .i64 0), (vI .i64 0)])) (by kernel_rfl) ?_
       refine sv (v := (vI .i64 0)) (by kernel_rfl) ?_
       refine sv (v := (Value.iface 122 (Value.string (ByteArray.mk #[109, 118, 99, 99, 58, 32, 114, 101, 118, 105, 115, 105, 111, 110, 32, 110, 111, 116, 32, 102, 111, 117, 110, 100])))) (by kernel_rfl) ?_
       refine S_list0 (T_storeN (vs := [(vI .i64 0), (vI .i64 0)]) rfl rfl z58 rfl (by simp [Value.oneCell']) H337_ 5 rfl (Nat.le_of_ble_eq_true (by rfl)) ?_)
       intro w343_ S345_ H344_
       have S346_ := Same.trans S341_ S345_
       refine S_list0 (T_storeN (vs := [(vI .i64 0), (vI .i64 0)]) rfl rfl z58 rfl (by simp [Value.oneCell']) H344_ 4 rfl (Nat.le_of_ble_eq_true (by rfl)) ?_)
       intro w347_ S349_ H348_
       have S350_ := Same.trans S346_ S349_
       refine sv (v := (vI .i64 0)) (x_assign rfl) ?_
       refine sv (v := (Value.iface 122 (Value.string (ByteArray.mk #[109, 118, 99, 99, 58, 32, 114, 101, 118, 105, 115, 105, 111, 110, 32, 110, 111, 116, 32, 102, 111, 117, 110, 100])))) (x_assign rfl) ?_
       refine wpList_nil (X_then (hK326_ _ _ ?_))
       clear hK326_
       refine C_ret ?_
       refine R_any (v := (vT #[(vA #[(vI .i64 0), (vI .i64 0)]), (vA #[(vI .i64 0), (vI .i64 0)]), (vI .i64 0), (Value.iface 122 (Value.string (ByteArray.mk #[109, 118, 99, 99, 58, 32, 114, 101, 118, 105, 115, 105, 111, 110, 32, 110, 111, 116, 32, 102, 111, 117, 110, 100])))])) (run_results4 rfl ⟨_, rfl, load_resN Try.underlying58 rfl z58 rfl (vs := [(vI .i64 0), (vI .i64 0)]) (Holds.cl_cells H348_ 5 rfl 0 rfl)⟩ ⟨_, rfl, load_resN Try.underlying58 rfl z58 rfl (vs := [(vI .i64 0), (vI .i64 0)]) (Holds.cl_cells H348_ 4 rfl 0 rfl)⟩ rfl rfl) ⟨_, rfl, ?_⟩
       refine sv (v := (vT #[(vA #[(vI .i64 0), (vI .i64 0)]), (vA #[(vI .i64 0), (vI .i64 0)]), (vI .i64 0), (Value.iface 122 (Value.string (ByteArray.mk #[109, 118, 99, 99, 58, 32, 114, 101, 118, 105, 115, 105, 111, 110, 32, 110, 111, 116, 32, 102, 111, 117, 110, 100])))])) (x_move rfl) ?_
       refine sv (v := (vA #[(vI .i64 0), (vI .i64 0)])) (by kernel_rfl) ?_
       refine sv (v := (vA #[(vI .i64 0), (vI .i64 0)])) (by kernel_rfl) ?_
       refine sv (v := (vI .i64 0)) (by kernel_rfl) ?_
       refine sv (v := (Value.iface 122 (Value.string (ByteArray.mk #[109, 118, 99, 99, 58, 32, 114, 101, 118, 105, 115, 105, 111, 110, 32, 110, 111, 116, 32, 102, 111, 117, 110, 100])))) (by kernel_rfl) ?_
       refine S_list (T_alloc z58 H348_ ?_)
       intro b351_ w352_ S354_ H353_
       have S355_ := Same.trans S350_ S354_
       refine S_list (T_alloc z58 H353_ ?_)
       intro b356_ w357_ S359_ H358_
       have S360_ := Same.trans S355_ S359_
       refine S_list0 (T_storeN (vs := [(vI .i64 0), (vI .i64 0)]) rfl rfl z58 rfl (by simp [Value.oneCell']) H358_ 1 rfl (Nat.le_of_ble_eq_true (by rfl)) ?_)
       intro w361_ S363_ H362_
       have S364_ := Same.trans S360_ S363_
       refine S_list0 (T_storeN (vs := [(vI .i64 0), (vI .i64 0)]) rfl rfl z58 rfl (by simp [Value.oneCell']) H362_ 0 rfl (Nat.le_of_ble_eq_true (by rfl)) ?_)
       intro w365_ S367_ H366_
       have S368_ := Same.trans S364_ S367_
       refine sv (v := (vI .i64 0)) (x_assign rfl) ?_
       refine sv (v := (Value.iface 122 (Value.string (ByteArray.mk #[109, 118, 99, 99, 58, 32, 114, 101, 118, 105, 115, 105, 111, 110, 32, 110, 111, 116, 32, 102, 111, 117, 110, 100])))) (x_assign rfl) ?_
       refine wpList_nil (X_then (hK309_ _ _ ?_))
       clear hK309_
       refine A_start (S := fun w => Rd b356_ [(vI .i64 0), (vI .i64 0)] w ∧ Rd b351_ [(vI .i64 0), (vI .i64 0)] w ∧ SlRd gv ((N0 ++ T).flatMap GN.cells) w ∧ SlRd lv (ll.flatMap RV.cells) w ∧ Sub R (hp w)) (N := 9) foll rfl rfl ?_
       have H369_ := Holds.drew_ H366_
       have hq370_ := And.intro (Holds.rd H369_ 0 rfl) (And.intro (Holds.rd H369_ 1 rfl) (And.intro (Holds.slrd H369_ 3 rfl) (And.intro (Holds.slrd H369_ 4 rfl) ((Holds.ro_at H369_ 2 rfl)))))
       refine A_tk 0 (v := (Value.iface 122 (Value.string (ByteArray.mk #[109, 118, 99, 99, 58, 32, 114, 101, 118, 105, 115, 105, 111, 110, 32, 110, 111, 116, 32, 102, 111, 117, 110, 100])))) rfl (by kernel_rfl) (fun w hS => x_move rfl) hq370_ ?_
       refine A_tk 1 (v := (vB false)) rfl (by kernel_rfl) (fun w hS => by kernel_rfl) hq370_ ?_
       refine A_tk 2 (v := (vA #[(vI .i64 0), (vI .i64 0)])) rfl (by kernel_rfl) (fun w hS => x_loadN (vs := [(vI .i64 0), (vI .i64 0)]) rfl Try.underlying58 rfl z58 rfl (Rd.cells hS.2.1 0 rfl)) hq370_ ?_
       refine A_tk 4 (v := (vA #[(vI .i64 0), (vI .i64 0)])) rfl (by kernel_rfl) (fun w hS => x_loadN (vs := [(vI .i64 0), (vI .i64 0)]) rfl Try.underlying58 rfl z58 rfl (Rd.cells hS.1 0 rfl)) hq370_ ?_
       refine A_tk 6 (v := (vI .i64 0)) rfl (by kernel_rfl) (fun w hS => x_move rfl) hq370_ ?_
       refine A_ready (i := 3) (rs := []) (by kernel_rfl) ?_
       refine AllR.cons ?_ AllR.nil
       refine A_op (ls' := #[true, true, true, true, true, false, true, false, false]) rfl (by kernel_rfl) (T_callW (al := [(vA #[(vI .i64 0), (vI .i64 0)])]) rfl rfl cb41 (Calls.into (n := 8) (al := [(vA #[(vI .i64 0), (vI .i64 0)])]) Try.func41 rfl Try.ntmps41 rfl rfl ?_))
       refine C_seq (fun K371_ hK371_ => C_reg ?_)
       refine S_list (T_box (v := (vA #[(vI .i64 0), (vI .i64 0)])) rfl H369_ ?_)
       intro b372_ w373_ S375_ H374_
       have S376_ := Same.trans (Same.trans S368_ (Same.drew _)) S375_
       refine S_list (T_alloc z31 H374_ ?_)
       intro b377_ w378_ S380_ H379_
       have S381_ := Same.trans S376_ S380_
       refine wpList_nil (X_then (hK371_ _ _ ?_))
       clear hK371_
       refine C_seq (fun K382_ hK382_ => C_reg ?_)
       refine sv (v := (vP (some ⟨b372_, 0, none⟩))) (by kernel_rfl) ?_
       refine sv (v := (vI .i64 0)) (x_load1 rfl Try.underlying2 rfl ((Holds.rd H379_ 1 rfl) 0 (vI .i64 0) rfl)) ?_
       refine sv (v := (vP (some ⟨b372_, 1, none⟩))) (by kernel_rfl) ?_
       refine sv (v := (vI .i64 0)) (x_load1 rfl Try.underlying2 rfl ((Holds.rd H379_ 1 rfl) 1 (vI .i64 0) rfl)) ?_
       refine sv (v := (vA #[(vI .i64 0), (vI .i64 0)])) (by kernel_rfl) ?_
       refine S_list0 (T_storeN (vs := [(vI .i64 0), (vI .i64 0)]) rfl rfl z31 rfl (by simp [Value.oneCell']) H379_ 0 rfl (Nat.le_of_ble_eq_true (by rfl)) ?_)
       intro w383_ S385_ H384_
       have S386_ := Same.trans S381_ S385_
       refine wpList_nil (X_then (hK382_ _ _ ?_))
       clear hK382_
       refine C_ret ?_
       refine R_any (v := (vA #[(vI .i64 0), (vI .i64 0)])) (run_results1 rfl ⟨_, rfl, load_resN Try.underlying31 rfl z31 rfl (vs := [(vI .i64 0), (vI .i64 0)]) (Holds.cl_cells H384_ 0 rfl 0 rfl)⟩) ⟨_, rfl, ?_⟩
       refine ⟨⟨Holds.rd H384_ 2 rfl, Holds.rd H384_ 3 rfl, Holds.slrd H384_ 5 rfl, Holds.slrd H384_ 6 rfl, (Holds.ro_at H384_ 4 rfl)⟩, ?_⟩
       refine A_ready (i := 5) (rs := []) (by kernel_rfl) ?_
       refine AllR.cons ?_ AllR.nil
       refine A_op (ls' := #[true, true, true, true, true, true, true, false, false]) rfl (by kernel_rfl) (T_callW (al := [(vA #[(vI .i64 0), (vI .i64 0)])]) rfl rfl cb41 (Calls.into (n := 8) (al := [(vA #[(vI .i64 0), (vI .i64 0)])]) Try.func41 rfl Try.ntmps41 rfl rfl ?_))
       refine C_seq (fun K387_ hK387_ => C_reg ?_)
       refine S_list (T_box (v := (vA #[(vI .i64 0), (vI .i64 0)])) rfl H384_ ?_)
       intro b388_ w389_ S391_ H390_
       have S392_ := Same.trans S386_ S391_
       refine S_list (T_alloc z31 H390_ ?_)
       intro b393_ w394_ S396_ H395_
       have S397_ := Same.trans S392_ S396_
       refine wpList_nil (X_then (hK387_ _ _ ?_))
       clear hK387_
       refine C_seq (fun K398_ hK398_ => C_reg ?_)
       refine sv (v := (vP (some ⟨b388_, 0, none⟩))) (by kernel_rfl) ?_
       refine sv (v := (vI .i64 0)) (x_load1 rfl Try.underlying2 rfl ((Holds.rd H395_ 1 rfl) 0 (vI .i64 0) rfl)) ?_
       refine sv (v := (vP (some ⟨b388_, 1, none⟩))) (by kernel_rfl) ?_
       refine sv (v := (vI .i64 0)) (x_load1 rfl Try.underlying2 rfl ((Holds.rd H395_ 1 rfl) 1 (vI .i64 0) rfl)) ?_
       refine sv (v := (vA #[(vI .i64 0), (vI .i64 0)])) (by kernel_rfl) ?_
       refine S_list0 (T_storeN (vs := [(vI .i64 0), (vI .i64 0)]) rfl rfl z31 rfl (by simp [Value.oneCell']) H395_ 0 rfl (Nat.le_of_ble_eq_true (by rfl)) ?_)
       intro w399_ S401_ H400_
       have S402_ := Same.trans S397_ S401_
       refine wpList_nil (X_then (hK398_ _ _ ?_))
       clear hK398_
       refine C_ret ?_
       refine R_any (v := (vA #[(vI .i64 0), (vI .i64 0)])) (run_results1 rfl ⟨_, rfl, load_resN Try.underlying31 rfl z31 rfl (vs := [(vI .i64 0), (vI .i64 0)]) (Holds.cl_cells H400_ 0 rfl 0 rfl)⟩) ⟨_, rfl, ?_⟩
       refine ⟨⟨Holds.rd H400_ 4 rfl, Holds.rd H400_ 5 rfl, Holds.slrd H400_ 7 rfl, Holds.slrd H400_ 8 rfl, (Holds.ro_at H400_ 6 rfl)⟩, ?_⟩
       have hq403_ := And.intro (Holds.rd H400_ 4 rfl) (And.intro (Holds.rd H400_ 5 rfl) (And.intro (Holds.slrd H400_ 7 rfl) (And.intro (Holds.slrd H400_ 8 rfl) ((Holds.ro_at H400_ 6 rfl)))))
       refine A_tk 7 (v := (vA #[(vB false), (vI .i64 0), (vI .i64 0), (vI .i64 0), (vI .i64 0), (vI .i64 0), (vS none 0 0), (vI .i64 0), (vI .i64 0), (vS none 0 0)])) rfl (by kernel_rfl) (fun w hS => by kernel_rfl) hq403_ ?_
       refine A_ready (i := 8) (rs := []) (by kernel_rfl) ?_
       refine AllR.cons ?_ AllR.nil
       refine A_op0 (ls' := #[true, true, true, true, true, true, true, true, true]) rfl (by kernel_rfl) (T_storeN (vs := [(vB false), (vI .i64 0), (vI .i64 0), (vI .i64 0), (vI .i64 0), (vI .i64 0), (vS none 0 0), (vI .i64 0), (vI .i64 0), (vS none 0 0)]) rfl rfl z43 rfl (by simp [Value.oneCell']) H400_ 13 rfl (Nat.le_of_ble_eq_true (by rfl)) ?_)
       intro w404_ S406_ H405_
       have S407_ := Same.trans S402_ S406_
       refine ⟨⟨Holds.rd H405_ 4 rfl, Holds.rd H405_ 5 rfl, Holds.slrd H405_ 7 rfl, Holds.slrd H405_ 8 rfl, (Holds.ro_at H405_ 6 rfl)⟩, ?_⟩
       refine A_done (by kernel_rfl) ?_
       refine (X_blkN (X_then (hK27_ _ _ ?_)))
       clear hK27_
       refine C_seq (fun K408_ hK408_ => C_reg ?_)
       refine sv (v := (vA #[(vP (some ⟨kb, 0, none⟩))])) (x_loadN (vs := [(vP (some ⟨kb, 0, none⟩))]) rfl Try.underlying55 rfl z55 rfl (Rd.cells (Holds.rd H405_ 16 rfl) 0 rfl)) ?_
       refine S_list (T_callW (al := [(vA #[(vP (some ⟨kb, 0, none⟩))])]) rfl rfl cb49 (Calls.into (n := 6) (al := [(vA #[(vP (some ⟨kb, 0, none⟩))])]) Try.func49 rfl Try.ntmps49 rfl rfl ?_))
       refine C_seq (fun K409_ hK409_ => C_reg ?_)
       refine S_list (T_box (v := (vA #[(vP (some ⟨kb, 0, none⟩))])) rfl H405_ ?_)
       intro b410_ w411_ S413_ H412_
       have S414_ := Same.trans S407_ S413_
       refine S_list (T_alloc z61 H412_ ?_)
       intro b415_ w416_ S418_ H417_
       have S419_ := Same.trans S414_ S418_
       refine wpList_nil (X_then (hK409_ _ _ ?_))
       clear hK409_
       refine C_seq (fun K420_ hK420_ => C_reg ?_)
       refine sv (v := (vP (some ⟨b410_, 0, none⟩))) (by kernel_rfl) ?_
       refine sv (v := (vP (some ⟨kb, 0, none⟩))) (x_load1 rfl Try.underlying53 rfl ((Holds.rd H417_ 1 rfl) 0 (vP (some ⟨kb, 0, none⟩)) rfl)) ?_
       have H429_ := ((Holds.bring (Holds.bring (Holds.bring (Holds.bring H417_ 10 rfl) 10 rfl) 11 rfl) 11 rfl) :)
       refine S_list (T_callG (al := [(vP (some ⟨kb, 0, none⟩))]) (pre := [cl kb 104 [(vS ka kl kc), (vI .i64 m), (vI .i64 n), gv], sl 106 4 gv (List.length (N0 ++ T)) ((N0 ++ T).flatMap GN.cells), sl 58 2 lv (List.length ll) (ll.flatMap RV.cells)]) rfl rfl cb65 (kZzOut R kb ka kl kc m n gv lv N0 T ll (hT) (hN) (by have := hbd.of.1; omega) (hbd.l (by omega))) H429_ ?_)
       rintro R422_ v423_ p433_ w430_ hs421_ ⟨v424_, N425_, rfl, rfl, he426_, he427_, he428_⟩ S432_ H431_
       have S434_ := Same.trans S419_ S432_
       have hzl_ := map_m_len he426_
       have hza_ := map_m_all he426_ (hbd.l (show _ ≤ 100000 by omega))
       refine S_list0 (T_storeN (vs := [(vI .i64 m), (vI .i64 n), v424_]) rfl rfl z61 rfl (List.forall_mem_cons.2 ⟨rfl, (List.forall_mem_cons.2 ⟨rfl, (List.forall_mem_cons.2 ⟨(RS.one he427_), (fun _ h__ => by cases h__)⟩)⟩)⟩) H431_ 4 rfl (Nat.le_of_ble_eq_true (by rfl)) ?_)
       intro w435_ S437_ H436_
       have S438_ := Same.trans S434_ S437_
       refine wpList_nil (X_then (hK420_ _ _ ?_))
       clear hK420_
       refine C_ret ?_
       refine R_any (v := (vA #[(vI .i64 m), (vI .i64 n), v424_])) (run_results1 rfl ⟨_, rfl, load_resN Try.underlying61 rfl z61 rfl (vs := [(vI .i64 m), (vI .i64 n), v424_]) (Holds.cl_cells H436_ 4 rfl 0 rfl)⟩) ⟨_, rfl, ?_⟩
       refine S_list (T_callG (al := [(vA #[(vI .i64 m), (vI .i64 n), v424_])]) (pre := []) rfl rfl cb48 (kDumpOut R422_ m n v424_ N425_ he427_ (he428_) (by have := hbd.of.1; omega) (hza_)) H436_ ?_)
       rintro R440_ v441_ p450_ w447_ hs439_ ⟨v442_, N443_, rfl, rfl, he444_, he445_, he446_⟩ S449_ H448_
       have S451_ := Same.trans S438_ S449_
       have hz_R_R440_ := Sub.trans' hs421_ hs439_
       refine sv (v := (vP (some ⟨b18_, 7, none⟩))) (by kernel_rfl) ?_
       refine S_list0 (T_storeN (vs := [(vI .i64 m), (vI .i64 n), v442_]) rfl rfl z34 rfl (List.forall_mem_cons.2 ⟨rfl, (List.forall_mem_cons.2 ⟨rfl, (List.forall_mem_cons.2 ⟨(RS.one he445_), (fun _ h__ => by cases h__)⟩)⟩)⟩) H448_ 15 rfl (Nat.le_of_ble_eq_true (by rfl)) ?_)
       intro w452_ S454_ H453_
       have S455_ := Same.trans S451_ S454_
       refine wpList_nil (X_then (hK408_ _ _ ?_))
       clear hK408_
       refine C_seq (fun K456_ hK456_ => C_reg ?_)
       refine sv (v := (vA #[(vB false), (vI .i64 0), (vI .i64 0), (vI .i64 0), (vI .i64 0), (vI .i64 0), (vS none 0 0), (vI .i64 m), (vI .i64 n), v442_])) (x_loadN (vs := [(vB false), (vI .i64 0), (vI .i64 0), (vI .i64 0), (vI .i64 0), (vI .i64 0), (vS none 0 0), (vI .i64 m), (vI .i64 n), v442_]) rfl Try.underlying43 rfl z43 rfl (Rd.cells (Holds.rd H453_ 15 rfl) 0 rfl)) ?_
       refine S_list0 (T_storeN (vs := [(vB false), (vI .i64 0), (vI .i64 0), (vI .i64 0), (vI .i64 0), (vI .i64 0), (vS none 0 0), (vI .i64 m), (vI .i64 n), v442_]) rfl rfl z43 rfl (List.forall_mem_cons.2 ⟨rfl, (List.forall_mem_cons.2 ⟨rfl, (List.forall_mem_cons.2 ⟨rfl, (List.forall_mem_cons.2 ⟨rfl, (List.forall_mem_cons.2 ⟨rfl, (List.forall_mem_cons.2 ⟨rfl, (List.forall_mem_cons.2 ⟨rfl, (List.forall_mem_cons.2 ⟨rfl, (List.forall_mem_cons.2 ⟨rfl, (List.forall_mem_cons.2 ⟨(RS.one he445_), (fun _ h__ => by cases h__)⟩)⟩)⟩)⟩)⟩)⟩)⟩)⟩)⟩)⟩) H453_ 16 rfl (Nat.le_of_ble_eq_true (by rfl)) ?_)
       intro w457_ S459_ H458_
       have S460_ := Same.trans S455_ S459_
       refine wpList_nil (X_then (hK456_ _ _ ?_))
       clear hK456_
       refine C_ret ?_
       refine R_any (v := (vA #[(vB false), (vI .i64 0), (vI .i64 0), (vI .i64 0), (vI .i64 0), (vI .i64 0), (vS none 0 0), (vI .i64 m), (vI .i64 n), v442_])) (run_results1 rfl ⟨_, rfl, load_resN Try.underlying43 rfl z43 rfl (vs := [(vB false), (vI .i64 0), (vI .i64 0), (vI .i64 0), (vI .i64 0), (vI .i64 0), (vS none 0 0), (vI .i64 m), (vI .i64 n), v442_]) (Holds.cl_cells H458_ 16 rfl 0 rfl)⟩) ?_
       have H461_ := Holds.recl H458_ 1 rfl ((lcons rfl (lcons (congrArg (vI .i64) ((by rw [hs_]) : m = s'.1)) (lcons (congrArg (vI .i64) ((by rw [hs_]) : n = s'.2.1)) rfl))) : [(vS ka kl kc), (vI .i64 m), (vI .i64 n), gv] = [(vS ka kl kc), (vI .i64 s'.1), (vI .i64 s'.2.1), gv])
       have H462_ : Holds w457_ (ro R440_ :: cl kb 104 [(vS ka kl kc), (vI .i64 s'.1), (vI .i64 s'.2.1), gv] :: sl 106 4 gv (List.length (N0 ++ T)) ((N0 ++ T).flatMap GN.cells) :: sl 58 2 lv (List.length ll) (ll.flatMap RV.cells) :: F) := (Holds.pkF H461_ [0, 0, 0, 0] 15 :)
       exact ⟨R440_, _, _, rfl, hz_R_R440_, ⟨gv, lv, N0, T, ll, false, 0, 0, 0, 0, 0, (vS none 0 0), m, n, v442_, ([] : List RV), N443_, (congrArg (fun l => vA (List.toArray l)) (lcons rfl (lcons rfl (lcons rfl (lcons rfl (lcons rfl (lcons rfl (lcons (rfl : (vS none 0 0) = ((vS none 0 0))) rfl)))))))), rfl, (by rw [hs_]), (hT), (hTN), (fun x hx => (hN x hx).mono hz_R_R440_), (⟨RS.nil _ _, he445_, he446_⟩), (by rw [hs_, ha_, he328_]; show KM.mk _ _ _ _ _ _ _ _ _ _ = _; rw [(he444_.trans he426_)]; rfl)⟩, S460_, H462_⟩
      ·skip
       have S342_ := Same.trans S325_ S338_
       refine sv (v := (vA #[(vI .i64 a329_), (vI .i64 b330_)])) (by kernel_rfl) ?_
       refine sv (v := (vA #[(vI .i64 c331_), (vI .i64 d332_)])) (by kernel_rfl) ?_
       refine sv (v := (vI .i64 e333_)) (by kernel_rfl) ?_
       refine sv (v := (Value.nilIface)) (by kernel_rfl) ?_
       refine S_list0 (T_storeN (vs := [(vI .i64 a329_), (vI .i64 b330_)]) rfl rfl z58 rfl (by simp [Value.oneCell']) H337_ 5 rfl (Nat.le_of_ble_eq_true (by rfl)) ?_)
       intro w463_ S465_ H464_
       have S466_ := Same.trans S342_ S465_
       refine S_list0 (T_storeN (vs := [(vI .i64 c331_), (vI .i64 d332_)]) rfl rfl z58 rfl (by simp [Value.oneCell']) H464_ 4 rfl (Nat.le_of_ble_eq_true (by rfl)) ?_)
       intro w467_ S469_ H468_
       have S470_ := Same.trans S466_ S469_
       refine sv (v := (vI .i64 e333_)) (x_assign rfl) ?_
       refine sv (v := (Value.nilIface)) (x_assign rfl) ?_
       refine wpList_nil (X_then (hK326_ _ _ ?_))
       clear hK326_
       refine C_ret ?_
       refine R_any (v := (vT #[(vA #[(vI .i64 a329_), (vI .i64 b330_)]), (vA #[(vI .i64 c331_), (vI .i64 d332_)]), (vI .i64 e333_), (Value.nilIface)])) (run_results4 rfl ⟨_, rfl, load_resN Try.underlying58 rfl z58 rfl (vs := [(vI .i64 a329_), (vI .i64 b330_)]) (Holds.cl_cells H468_ 5 rfl 0 rfl)⟩ ⟨_, rfl, load_resN Try.underlying58 rfl z58 rfl (vs := [(vI .i64 c331_), (vI .i64 d332_)]) (Holds.cl_cells H468_ 4 rfl 0 rfl)⟩ rfl rfl) ⟨_, rfl, ?_⟩
       refine sv (v := (vT #[(vA #[(vI .i64 a329_), (vI .i64 b330_)]), (vA #[(vI .i64 c331_), (vI .i64 d332_)]), (vI .i64 e333_), (Value.nilIface)])) (x_move rfl) ?_
       refine sv (v := (vA #[(vI .i64 a329_), (vI .i64 b330_)])) (by kernel_rfl) ?_
       refine sv (v := (vA #[(vI .i64 c331_), (vI .i64 d332_)])) (by kernel_rfl) ?_
       refine sv (v := (vI .i64 e333_)) (by kernel_rfl) ?_
       refine sv (v := (Value.nilIface)) (by kernel_rfl) ?_
       refine S_list (T_alloc z58 H468_ ?_)
       intro b471_ w472_ S474_ H473_
       have S475_ := Same.trans S470_ S474_
       refine S_list (T_alloc z58 H473_ ?_)
       intro b476_ w477_ S479_ H478_
       have S480_ := Same.trans S475_ S479_
       refine S_list0 (T_storeN (vs := [(vI .i64 a329_), (vI .i64 b330_)]) rfl rfl z58 rfl (by simp [Value.oneCell']) H478_ 1 rfl (Nat.le_of_ble_eq_true (by rfl)) ?_)
       intro w481_ S483_ H482_
       have S484_ := Same.trans S480_ S483_
       refine S_list0 (T_storeN (vs := [(vI .i64 c331_), (vI .i64 d332_)]) rfl rfl z58 rfl (by simp [Value.oneCell']) H482_ 0 rfl (Nat.le_of_ble_eq_true (by rfl)) ?_)
       intro w485_ S487_ H486_
       have S488_ := Same.trans S484_ S487_
       refine sv (v := (vI .i64 e333_)) (x_assign rfl) ?_
       refine sv (v := (Value.nilIface)) (x_assign rfl) ?_
       refine wpList_nil (X_then (hK309_ _ _ ?_))
       clear hK309_
       refine A_start (S := fun w => Rd b476_ [(vI .i64 c331_), (vI .i64 d332_)] w ∧ Rd b471_ [(vI .i64 a329_), (vI .i64 b330_)] w ∧ SlRd gv ((N0 ++ T).flatMap GN.cells) w ∧ SlRd lv (ll.flatMap RV.cells) w ∧ Sub R (hp w)) (N := 9) foll rfl rfl ?_
       have H489_ := Holds.drew_ H486_
       have hq490_ := And.intro (Holds.rd H489_ 0 rfl) (And.intro (Holds.rd H489_ 1 rfl) (And.intro (Holds.slrd H489_ 3 rfl) (And.intro (Holds.slrd H489_ 4 rfl) ((Holds.ro_at H489_ 2 rfl)))))
       refine A_tk 0 (v := (Value.nilIface)) rfl (by kernel_rfl) (fun w hS => x_move rfl) hq490_ ?_
       refine A_tk 1 (v := (vB true)) rfl (by kernel_rfl) (fun w hS => by kernel_rfl) hq490_ ?_
       refine A_tk 2 (v := (vA #[(vI .i64 a329_), (vI .i64 b330_)])) rfl (by kernel_rfl) (fun w hS => x_loadN (vs := [(vI .i64 a329_), (vI .i64 b330_)]) rfl Try.underlying58 rfl z58 rfl (Rd.cells hS.2.1 0 rfl)) hq490_ ?_
       refine A_tk 4 (v := (vA #[(vI .i64 c331_), (vI .i64 d332_)])) rfl (by kernel_rfl) (fun w hS => x_loadN (vs := [(vI .i64 c331_), (vI .i64 d332_)]) rfl Try.underlying58 rfl z58 rfl (Rd.cells hS.1 0 rfl)) hq490_ ?_
       refine A_tk 6 (v := (vI .i64 e333_)) rfl (by kernel_rfl) (fun w hS => x_move rfl) hq490_ ?_
       refine A_ready (i := 3) (rs := []) (by kernel_rfl) ?_
       refine AllR.cons ?_ AllR.nil
       refine A_op (ls' := #[true, true, true, true, true, false, true, false, false]) rfl (by kernel_rfl) (T_callW (al := [(vA #[(vI .i64 a329_), (vI .i64 b330_)])]) rfl rfl cb41 (Calls.into (n := 8) (al := [(vA #[(vI .i64 a329_), (vI .i64 b330_)])]) Try.func41 rfl Try.ntmps41 rfl rfl ?_))
       refine C_seq (fun K491_ hK491_ => C_reg ?_)
       refine S_list (T_box (v := (vA #[(vI .i64 a329_), (vI .i64 b330_)])) rfl H489_ ?_)
       intro b492_ w493_ S495_ H494_
       have S496_ := Same.trans (Same.trans S488_ (Same.drew _)) S495_
       refine S_list (T_alloc z31 H494_ ?_)
       intro b497_ w498_ S500_ H499_
       have S501_ := Same.trans S496_ S500_
       refine wpList_nil (X_then (hK491_ _ _ ?_))
       clear hK491_
       refine C_seq (fun K502_ hK502_ => C_reg ?_)
       refine sv (v := (vP (some ⟨b492_, 0, none⟩))) (by kernel_rfl) ?_
       refine sv (v := (vI .i64 a329_)) (x_load1 rfl Try.underlying2 rfl ((Holds.rd H499_ 1 rfl) 0 (vI .i64 a329_) rfl)) ?_
       refine sv (v := (vP (some ⟨b492_, 1, none⟩))) (by kernel_rfl) ?_
       refine sv (v := (vI .i64 b330_)) (x_load1 rfl Try.underlying2 rfl ((Holds.rd H499_ 1 rfl) 1 (vI .i64 b330_) rfl)) ?_
       refine sv (v := (vA #[(vI .i64 a329_), (vI .i64 b330_)])) (by kernel_rfl) ?_
       refine S_list0 (T_storeN (vs := [(vI .i64 a329_), (vI .i64 b330_)]) rfl rfl z31 rfl (by simp [Value.oneCell']) H499_ 0 rfl (Nat.le_of_ble_eq_true (by rfl)) ?_)
       intro w503_ S505_ H504_
       have S506_ := Same.trans S501_ S505_
       refine wpList_nil (X_then (hK502_ _ _ ?_))
       clear hK502_
       refine C_ret ?_
       refine R_any (v := (vA #[(vI .i64 a329_), (vI .i64 b330_)])) (run_results1 rfl ⟨_, rfl, load_resN Try.underlying31 rfl z31 rfl (vs := [(vI .i64 a329_), (vI .i64 b330_)]) (Holds.cl_cells H504_ 0 rfl 0 rfl)⟩) ⟨_, rfl, ?_⟩
       refine ⟨⟨Holds.rd H504_ 2 rfl, Holds.rd H504_ 3 rfl, Holds.slrd H504_ 5 rfl, Holds.slrd H504_ 6 rfl, (Holds.ro_at H504_ 4 rfl)⟩, ?_⟩
       refine A_ready (i := 5) (rs := []) (by kernel_rfl) ?_
       refine AllR.cons ?_ AllR.nil
       refine A_op (ls' := #[true, true, true, true, true, true, true, false, false]) rfl (by kernel_rfl) (T_callW (al := [(vA #[(vI .i64 c331_), (vI .i64 d332_)])]) rfl rfl cb41 (Calls.into (n := 8) (al := [(vA #[(vI .i64 c331_), (vI .i64 d332_)])]) Try.func41 rfl Try.ntmps41 rfl rfl ?_))
       refine C_seq (fun K507_ hK507_ => C_reg ?_)
       refine S_list (T_box (v := (vA #[(vI .i64 c331_), (vI .i64 d332_)])) rfl H504_ ?_)
       intro b508_ w509_ S511_ H510_
       have S512_ := Same.trans S506_ S511_
       refine S_list (T_alloc z31 H510_ ?_)
       intro b513_ w514_ S516_ H515_
       have S517_ := Same.trans S512_ S516_
       refine wpList_nil (X_then (hK507_ _ _ ?_))
       clear hK507_
       refine C_seq (fun K518_ hK518_ => C_reg ?_)
       refine sv (v := (vP (some ⟨b508_, 0, none⟩))) (by kernel_rfl) ?_
       refine sv (v := (vI .i64 c331_)) (x_load1 rfl Try.underlying2 rfl ((Holds.rd H515_ 1 rfl) 0 (vI .i64 c331_) rfl)) ?_
       refine sv (v := (vP (some ⟨b508_, 1, none⟩))) (by kernel_rfl) ?_
       refine sv (v := (vI .i64 d332_)) (x_load1 rfl Try.underlying2 rfl ((Holds.rd H515_ 1 rfl) 1 (vI .i64 d332_) rfl)) ?_
       refine sv (v := (vA #[(vI .i64 c331_), (vI .i64 d332_)])) (by kernel_rfl) ?_
       refine S_list0 (T_storeN (vs := [(vI .i64 c331_), (vI .i64 d332_)]) rfl rfl z31 rfl (by simp [Value.oneCell']) H515_ 0 rfl (Nat.le_of_ble_eq_true (by rfl)) ?_)
       intro w519_ S521_ H520_
       have S522_ := Same.trans S517_ S521_
       refine wpList_nil (X_then (hK518_ _ _ ?_))
       clear hK518_
       refine C_ret ?_
       refine R_any (v := (vA #[(vI .i64 c331_), (vI .i64 d332_)])) (run_results1 rfl ⟨_, rfl, load_resN Try.underlying31 rfl z31 rfl (vs := [(vI .i64 c331_), (vI .i64 d332_)]) (Holds.cl_cells H520_ 0 rfl 0 rfl)⟩) ⟨_, rfl, ?_⟩
       refine ⟨⟨Holds.rd H520_ 4 rfl, Holds.rd H520_ 5 rfl, Holds.slrd H520_ 7 rfl, Holds.slrd H520_ 8 rfl, (Holds.ro_at H520_ 6 rfl)⟩, ?_⟩
       have hq523_ := And.intro (Holds.rd H520_ 4 rfl) (And.intro (Holds.rd H520_ 5 rfl) (And.intro (Holds.slrd H520_ 7 rfl) (And.intro (Holds.slrd H520_ 8 rfl) ((Holds.ro_at H520_ 6 rfl)))))
       refine A_tk 7 (v := (vA #[(vB true), (vI .i64 a329_), (vI .i64 b330_), (vI .i64 c331_), (vI .i64 d332_), (vI .i64 e333_), (vS none 0 0), (vI .i64 0), (vI .i64 0), (vS none 0 0)])) rfl (by kernel_rfl) (fun w hS => by kernel_rfl) hq523_ ?_
       refine A_ready (i := 8) (rs := []) (by kernel_rfl) ?_
       refine AllR.cons ?_ AllR.nil
       refine A_op0 (ls' := #[true, true, true, true, true, true, true, true, true]) rfl (by kernel_rfl) (T_storeN (vs := [(vB true), (vI .i64 a329_), (vI .i64 b330_), (vI .i64 c331_), (vI .i64 d332_), (vI .i64 e333_), (vS none 0 0), (vI .i64 0), (vI .i64 0), (vS none 0 0)]) rfl rfl z43 rfl (by simp [Value.oneCell']) H520_ 13 rfl (Nat.le_of_ble_eq_true (by rfl)) ?_)
       intro w524_ S526_ H525_
       have S527_ := Same.trans S522_ S526_
       refine ⟨⟨Holds.rd H525_ 4 rfl, Holds.rd H525_ 5 rfl, Holds.slrd H525_ 7 rfl, Holds.slrd H525_ 8 rfl, (Holds.ro_at H525_ 6 rfl)⟩, ?_⟩
       refine A_done (by kernel_rfl) ?_
       refine (X_blkN (X_then (hK27_ _ _ ?_)))
       clear hK27_
       refine C_seq (fun K528_ hK528_ => C_reg ?_)
       refine sv (v := (vA #[(vP (some ⟨kb, 0, none⟩))])) (x_loadN (vs := [(vP (some ⟨kb, 0, none⟩))]) rfl Try.underlying55 rfl z55 rfl (Rd.cells (Holds.rd H525_ 16 rfl) 0 rfl)) ?_
       refine S_list (T_callW (al := [(vA #[(vP (some ⟨kb, 0, none⟩))])]) rfl rfl cb49 (Calls.into (n := 6) (al := [(vA #[(vP (some ⟨kb, 0, none⟩))])]) Try.func49 rfl Try.ntmps49 rfl rfl ?_))
       refine C_seq (fun K529_ hK529_ => C_reg ?_)
       refine S_list (T_box (v := (vA #[(vP (some ⟨kb, 0, none⟩))])) rfl H525_ ?_)
       intro b530_ w531_ S533_ H532_
       have S534_ := Same.trans S527_ S533_
       refine S_list (T_alloc z61 H532_ ?_)
       intro b535_ w536_ S538_ H537_
       have S539_ := Same.trans S534_ S538_
       refine wpList_nil (X_then (hK529_ _ _ ?_))
       clear hK529_
       refine C_seq (fun K540_ hK540_ => C_reg ?_)
       refine sv (v := (vP (some ⟨b530_, 0, none⟩))) (by kernel_rfl) ?_
       refine sv (v := (vP (some ⟨kb, 0, none⟩))) (x_load1 rfl Try.underlying53 rfl ((Holds.rd H537_ 1 rfl) 0 (vP (some ⟨kb, 0, none⟩)) rfl)) ?_
       have H549_ := ((Holds.bring (Holds.bring (Holds.bring (Holds.bring H537_ 10 rfl) 10 rfl) 11 rfl) 11 rfl) :)
       refine S_list (T_callG (al := [(vP (some ⟨kb, 0, none⟩))]) (pre := [cl kb 104 [(vS ka kl kc), (vI .i64 m), (vI .i64 n), gv], sl 106 4 gv (List.length (N0 ++ T)) ((N0 ++ T).flatMap GN.cells), sl 58 2 lv (List.length ll) (ll.flatMap RV.cells)]) rfl rfl cb65 (kZzOut R kb ka kl kc m n gv lv N0 T ll (hT) (hN) (by have := hbd.of.1; omega) (hbd.l (by omega))) H549_ ?_)
       rintro R542_ v543_ p553_ w550_ hs541_ ⟨v544_, N545_, rfl, rfl, he546_, he547_, he548_⟩ S552_ H551_
       have S554_ := Same.trans S539_ S552_
       have hzl_ := map_m_len he546_
       have hza_ := map_m_all he546_ (hbd.l (show _ ≤ 100000 by omega))
       refine S_list0 (T_storeN (vs := [(vI .i64 m), (vI .i64 n), v544_]) rfl rfl z61 rfl (List.forall_mem_cons.2 ⟨rfl, (List.forall_mem_cons.2 ⟨rfl, (List.forall_mem_cons.2 ⟨(RS.one he547_), (fun _ h__ => by cases h__)⟩)⟩)⟩) H551_ 4 rfl (Nat.le_of_ble_eq_true (by rfl)) ?_)
       intro w555_ S557_ H556_
       have S558_ := Same.trans S554_ S557_
       refine wpList_nil (X_then (hK540_ _ _ ?_))
       clear hK540_
       refine C_ret ?_
       refine R_any (v := (vA #[(vI .i64 m), (vI .i64 n), v544_])) (run_results1 rfl ⟨_, rfl, load_resN Try.underlying61 rfl z61 rfl (vs := [(vI .i64 m), (vI .i64 n), v544_]) (Holds.cl_cells H556_ 4 rfl 0 rfl)⟩) ⟨_, rfl, ?_⟩
       refine S_list (T_callG (al := [(vA #[(vI .i64 m), (vI .i64 n), v544_])]) (pre := []) rfl rfl cb48 (kDumpOut R542_ m n v544_ N545_ he547_ (he548_) (by have := hbd.of.1; omega) (hza_)) H556_ ?_)
       rintro R560_ v561_ p570_ w567_ hs559_ ⟨v562_, N563_, rfl, rfl, he564_, he565_, he566_⟩ S569_ H568_
       have S571_ := Same.trans S558_ S569_
       have hz_R_R560_ := Sub.trans' hs541_ hs559_
       refine sv (v := (vP (some ⟨b18_, 7, none⟩))) (by kernel_rfl) ?_
       refine S_list0 (T_storeN (vs := [(vI .i64 m), (vI .i64 n), v562_]) rfl rfl z34 rfl (List.forall_mem_cons.2 ⟨rfl, (List.forall_mem_cons.2 ⟨rfl, (List.forall_mem_cons.2 ⟨(RS.one he565_), (fun _ h__ => by cases h__)⟩)⟩)⟩) H568_ 15 rfl (Nat.le_of_ble_eq_true (by rfl)) ?_)
       intro w572_ S574_ H573_
       have S575_ := Same.trans S571_ S574_
       refine wpList_nil (X_then (hK528_ _ _ ?_))
       clear hK528_
       refine C_seq (fun K576_ hK576_ => C_reg ?_)
       refine sv (v := (vA #[(vB true), (vI .i64 a329_), (vI .i64 b330_), (vI .i64 c331_), (vI .i64 d332_), (vI .i64 e333_), (vS none 0 0), (vI .i64 m), (vI .i64 n), v562_])) (x_loadN (vs := [(vB true), (vI .i64 a329_), (vI .i64 b330_), (vI .i64 c331_), (vI .i64 d332_), (vI .i64 e333_), (vS none 0 0), (vI .i64 m), (vI .i64 n), v562_]) rfl Try.underlying43 rfl z43 rfl (Rd.cells (Holds.rd H573_ 15 rfl) 0 rfl)) ?_
       refine S_list0 (T_storeN (vs := [(vB true), (vI .i64 a329_), (vI .i64 b330_), (vI .i64 c331_), (vI .i64 d332_), (vI .i64 e333_), (vS none 0 0), (vI .i64 m), (vI .i64 n), v562_]) rfl rfl z43 rfl (List.forall_mem_cons.2 ⟨rfl, (List.forall_mem_cons.2 ⟨rfl, (List.forall_mem_cons.2 ⟨rfl, (List.forall_mem_cons.2 ⟨rfl, (List.forall_mem_cons.2 ⟨rfl, (List.forall_mem_cons.2 ⟨rfl, (List.forall_mem_cons.2 ⟨rfl, (List.forall_mem_cons.2 ⟨rfl, (List.forall_mem_cons.2 ⟨rfl, (List.forall_mem_cons.2 ⟨(RS.one he565_), (fun _ h__ => by cases h__)⟩)⟩)⟩)⟩)⟩)⟩)⟩)⟩)⟩)⟩) H573_ 16 rfl (Nat.le_of_ble_eq_true (by rfl)) ?_)
       intro w577_ S579_ H578_
       have S580_ := Same.trans S575_ S579_
       refine wpList_nil (X_then (hK576_ _ _ ?_))
       clear hK576_
       refine C_ret ?_
       refine R_any (v := (vA #[(vB true), (vI .i64 a329_), (vI .i64 b330_), (vI .i64 c331_), (vI .i64 d332_), (vI .i64 e333_), (vS none 0 0), (vI .i64 m), (vI .i64 n), v562_])) (run_results1 rfl ⟨_, rfl, load_resN Try.underlying43 rfl z43 rfl (vs := [(vB true), (vI .i64 a329_), (vI .i64 b330_), (vI .i64 c331_), (vI .i64 d332_), (vI .i64 e333_), (vS none 0 0), (vI .i64 m), (vI .i64 n), v562_]) (Holds.cl_cells H578_ 16 rfl 0 rfl)⟩) ?_
       have H581_ := Holds.recl H578_ 1 rfl ((lcons rfl (lcons (congrArg (vI .i64) ((by rw [hs_]) : m = s'.1)) (lcons (congrArg (vI .i64) ((by rw [hs_]) : n = s'.2.1)) rfl))) : [(vS ka kl kc), (vI .i64 m), (vI .i64 n), gv] = [(vS ka kl kc), (vI .i64 s'.1), (vI .i64 s'.2.1), gv])
       have H582_ : Holds w577_ (ro R560_ :: cl kb 104 [(vS ka kl kc), (vI .i64 s'.1), (vI .i64 s'.2.1), gv] :: sl 106 4 gv (List.length (N0 ++ T)) ((N0 ++ T).flatMap GN.cells) :: sl 58 2 lv (List.length ll) (ll.flatMap RV.cells) :: F) := (Holds.pkF H581_ [0, 0, 0, 0] 15 :)
       exact ⟨R560_, _, _, rfl, hz_R_R560_, ⟨gv, lv, N0, T, ll, true, a329_, b330_, c331_, d332_, e333_, (vS none 0 0), m, n, v562_, ([] : List RV), N563_, (congrArg (fun l => vA (List.toArray l)) (lcons rfl (lcons rfl (lcons rfl (lcons rfl (lcons rfl (lcons rfl (lcons (rfl : (vS none 0 0) = ((vS none 0 0))) rfl)))))))), rfl, (by rw [hs_]), (hT), (hTN), (fun x hx => (hN x hx).mono hz_R_R560_), (⟨RS.nil _ _, he565_, he566_⟩), (by rw [hs_, ha_, he334_]; show KM.mk _ _ _ _ _ _ _ _ _ _ = _; rw [(he564_.trans he546_)]; rfl)⟩, S580_, H582_⟩
     ·have c308_fp : ¬ (o.kind = 5) := of_decide_eq_false c308_f
      refine C_seq (fun K583_ hK583_ => C_reg ?_)
      refine sv (v := (vB (decide (o.kind = 6)))) (x_bin rfl rfl rfl) ?_
      refine sv (v := (vB (decide (o.kind = 6)))) (x_assign rfl) ?_
      refine wpList_nil (X_then (hK583_ _ _ ?_))
      clear hK583_
      refine C_cond (b := decide (o.kind = 6)) rfl (fun c584_t => ?_) (fun c584_f => ?_)
      ·have c584_tp : o.kind = 6 := of_decide_eq_true c584_t
       obtain ⟨⟨hem_, hne_, hgp_⟩, hs_, ha_⟩ := iDo_since c584_tp hdo
       have hbo_ := hbd.of
       have hlen_ : 0 < (N0 ++ T).length := map_pos hne_
       refine C_reg ?_
       refine sv (v := (vA #[(vP (some ⟨kb, 0, none⟩))])) (x_loadN (vs := [(vP (some ⟨kb, 0, none⟩))]) rfl Try.underlying55 rfl z55 rfl (Rd.cells (Holds.rd H24_ 3 rfl) 0 rfl)) ?_
       refine sv (v := (vP (some ⟨b7_, 6, none⟩))) (by kernel_rfl) ?_
       refine sv (v := (vI .i64 o.at_)) (x_load1 rfl Try.underlying2 rfl ((Holds.rd H24_ 2 rfl) 6 (vI .i64 o.at_) rfl)) ?_
       refine S_list (T_callW (al := [(vA #[(vP (some ⟨kb, 0, none⟩))]), (vI .i64 o.at_)]) rfl rfl cb43 (Calls.into (n := 9) (al := [(vA #[(vP (some ⟨kb, 0, none⟩))]), (vI .i64 o.at_)]) Try.func43 rfl Try.ntmps43 rfl rfl ?_))
       refine C_seq (fun K585_ hK585_ => C_reg ?_)
       refine S_list (T_box (v := (vA #[(vP (some ⟨kb, 0, none⟩))])) rfl H24_ ?_)
       intro b586_ w587_ S589_ H588_
       have S590_ := Same.trans S26_ S589_
       refine sv (v := (vS none 0 0)) (x_assign rfl) ?_
       refine wpList_nil (X_then (hK585_ _ _ ?_))
       clear hK585_
       refine C_seq (fun K591_ hK591_ => C_reg ?_)
       refine sv (v := (vP (some ⟨b586_, 0, none⟩))) (by kernel_rfl) ?_
       refine sv (v := (vP (some ⟨kb, 0, none⟩))) (x_load1 rfl Try.underlying53 rfl ((Holds.rd H588_ 0 rfl) 0 (vP (some ⟨kb, 0, none⟩)) rfl)) ?_
       refine sv (v := (vI .i64 o.at_)) (x_move rfl) ?_
       have H593_ := ((Holds.bring (Holds.bring (Holds.bring (Holds.bring H588_ 6 rfl) 8 rfl) 8 rfl) 8 rfl) :)
       refine S_list (T_call (al := [(vP (some ⟨kb, 0, none⟩)), (vP none), (vI .i64 o.at_)]) (pre := [sl 106 4 gv (List.length (N0 ++ T)) ((N0 ++ T).flatMap GN.cells), sl 58 2 lv (List.length ll) (ll.flatMap RV.cells), cl kb 104 [(vS ka kl kc), (vI .i64 m), (vI .i64 n), gv]]) rfl rfl cb59 (kSinceW R kb ka kl kc m n gv lv N0 T ll o.at_ (by first | assumption | omega) (by first | assumption | omega) (by omega) (hbd.l (by omega)) (iEmp_ne hem_) (hlen_) (gPos_N hgp_)) H593_ ?_)
       rintro v592_ p597_ w594_ ⟨_, rfl, rfl⟩ S596_ H595_
       have S598_ := Same.trans S590_ S596_
       have hsl_ : (iSince ((N0 ++ T).map GN.m) o.at_).length ≤ 4000000000000 := iSince_bd hbd (by omega)
       refine sv (v := v592_) (x_assign rfl) ?_
       refine wpList_nil (X_then (hK591_ _ _ ?_))
       clear hK591_
       refine C_ret ?_
       refine R_any (v := v592_) (run_results1 rfl rfl) ⟨_, rfl, ?_⟩
       have H599_ := ((Holds.bring (Holds.bring H595_ 3 rfl) 1 rfl) :)
       obtain ⟨R600_, hs601_, ⟨R602_, ha603_, hs604_⟩, H605_⟩ := Holds.gift H599_
       have hr606_ : RS R600_ 2 v592_ (List.length (iSince ((N0 ++ T).map GN.m) o.at_)) ((iSince ((N0 ++ T).map GN.m) o.at_).flatMap RV.cells) := (sl_RS ha603_ (Sub.rfl' _)).mono hs604_
       refine S_list (T_call (al := [v592_]) (pre := []) rfl rfl cb42 (kRevsOut R600_ v592_ (iSince ((N0 ++ T).map GN.m) o.at_) hr606_ (by first | assumption | omega)) H605_ ?_)
       rintro v607_ p611_ w608_ ⟨_, rfl, rfl⟩ S610_ H609_
       have S612_ := Same.trans S598_ S610_
       refine sv (v := (vP (some ⟨b18_, 6, none⟩))) (by kernel_rfl) ?_
       refine S_list0 (T_store1 (v := v607_) rfl rfl z41 (Holds.sl_one H609_ 1 rfl) H609_ 6 rfl (Nat.le_of_ble_eq_true (by rfl)) ?_)
       intro w613_ S615_ H614_
       have S616_ := Same.trans S612_ S615_
       refine wpList_nil (X_blkN (X_then (hK27_ _ _ ?_)))
       clear hK27_
       refine C_seq (fun K617_ hK617_ => C_reg ?_)
       refine sv (v := (vA #[(vP (some ⟨kb, 0, none⟩))])) (x_loadN (vs := [(vP (some ⟨kb, 0, none⟩))]) rfl Try.underlying55 rfl z55 rfl (Rd.cells (Holds.rd H614_ 9 rfl) 0 rfl)) ?_
       refine S_list (T_callW (al := [(vA #[(vP (some ⟨kb, 0, none⟩))])]) rfl rfl cb49 (Calls.into (n := 6) (al := [(vA #[(vP (some ⟨kb, 0, none⟩))])]) Try.func49 rfl Try.ntmps49 rfl rfl ?_))
       refine C_seq (fun K618_ hK618_ => C_reg ?_)
       refine S_list (T_box (v := (vA #[(vP (some ⟨kb, 0, none⟩))])) rfl H614_ ?_)
       intro b619_ w620_ S622_ H621_
       have S623_ := Same.trans S616_ S622_
       refine S_list (T_alloc z61 H621_ ?_)
       intro b624_ w625_ S627_ H626_
       have S628_ := Same.trans S623_ S627_
       refine wpList_nil (X_then (hK618_ _ _ ?_))
       clear hK618_
       refine C_seq (fun K629_ hK629_ => C_reg ?_)
       refine sv (v := (vP (some ⟨b619_, 0, none⟩))) (by kernel_rfl) ?_
       refine sv (v := (vP (some ⟨kb, 0, none⟩))) (x_load1 rfl Try.underlying53 rfl ((Holds.rd H626_ 1 rfl) 0 (vP (some ⟨kb, 0, none⟩)) rfl)) ?_
       have H638_ := ((Holds.bring (Holds.bring (Holds.bring (Holds.bring H626_ 5 rfl) 5 rfl) 6 rfl) 5 rfl) :)
       refine S_list (T_callG (al := [(vP (some ⟨kb, 0, none⟩))]) (pre := [cl kb 104 [(vS ka kl kc), (vI .i64 m), (vI .i64 n), gv], sl 106 4 gv (List.length (N0 ++ T)) ((N0 ++ T).flatMap GN.cells), sl 58 2 lv (List.length ll) (ll.flatMap RV.cells)]) rfl rfl cb65 (kZzOut R600_ kb ka kl kc m n gv lv N0 T ll (hT) (fun x hx => (hN x hx).mono hs601_) (by have := hbd.of.1; omega) (hbd.l (by omega))) H638_ ?_)
       rintro R631_ v632_ p642_ w639_ hs630_ ⟨v633_, N634_, rfl, rfl, he635_, he636_, he637_⟩ S641_ H640_
       have S643_ := Same.trans S628_ S641_
       have hz_R_R631_ := Sub.trans' hs601_ hs630_
       have hzl_ := map_m_len he635_
       have hza_ := map_m_all he635_ (hbd.l (show _ ≤ 100000 by omega))
       refine S_list0 (T_storeN (vs := [(vI .i64 m), (vI .i64 n), v633_]) rfl rfl z61 rfl (List.forall_mem_cons.2 ⟨rfl, (List.forall_mem_cons.2 ⟨rfl, (List.forall_mem_cons.2 ⟨(RS.one he636_), (fun _ h__ => by cases h__)⟩)⟩)⟩) H640_ 4 rfl (Nat.le_of_ble_eq_true (by rfl)) ?_)
       intro w644_ S646_ H645_
       have S647_ := Same.trans S643_ S646_
       refine wpList_nil (X_then (hK629_ _ _ ?_))
       clear hK629_
       refine C_ret ?_
       refine R_any (v := (vA #[(vI .i64 m), (vI .i64 n), v633_])) (run_results1 rfl ⟨_, rfl, load_resN Try.underlying61 rfl z61 rfl (vs := [(vI .i64 m), (vI .i64 n), v633_]) (Holds.cl_cells H645_ 4 rfl 0 rfl)⟩) ⟨_, rfl, ?_⟩
       refine S_list (T_callG (al := [(vA #[(vI .i64 m), (vI .i64 n), v633_])]) (pre := []) rfl rfl cb48 (kDumpOut R631_ m n v633_ N634_ he636_ (he637_) (by have := hbd.of.1; omega) (hza_)) H645_ ?_)
       rintro R649_ v650_ p659_ w656_ hs648_ ⟨v651_, N652_, rfl, rfl, he653_, he654_, he655_⟩ S658_ H657_
       have S660_ := Same.trans S647_ S658_
       have hz_R_R649_ := Sub.trans' hz_R_R631_ hs648_
       have hz_R600__R649_ := Sub.trans' hs630_ hs648_
       refine sv (v := (vP (some ⟨b18_, 7, none⟩))) (by kernel_rfl) ?_
       refine S_list0 (T_storeN (vs := [(vI .i64 m), (vI .i64 n), v651_]) rfl rfl z34 rfl (List.forall_mem_cons.2 ⟨rfl, (List.forall_mem_cons.2 ⟨rfl, (List.forall_mem_cons.2 ⟨(RS.one he654_), (fun _ h__ => by cases h__)⟩)⟩)⟩) H657_ 8 rfl (Nat.le_of_ble_eq_true (by rfl)) ?_)
       intro w661_ S663_ H662_
       have S664_ := Same.trans S660_ S663_
       refine wpList_nil (X_then (hK617_ _ _ ?_))
       clear hK617_
       refine C_seq (fun K665_ hK665_ => C_reg ?_)
       refine sv (v := (vA #[(vB false), (vI .i64 0), (vI .i64 0), (vI .i64 0), (vI .i64 0), (vI .i64 0), v607_, (vI .i64 m), (vI .i64 n), v651_])) (x_loadN (vs := [(vB false), (vI .i64 0), (vI .i64 0), (vI .i64 0), (vI .i64 0), (vI .i64 0), v607_, (vI .i64 m), (vI .i64 n), v651_]) rfl Try.underlying43 rfl z43 rfl (Rd.cells (Holds.rd H662_ 8 rfl) 0 rfl)) ?_
       refine S_list0 (T_storeN (vs := [(vB false), (vI .i64 0), (vI .i64 0), (vI .i64 0), (vI .i64 0), (vI .i64 0), v607_, (vI .i64 m), (vI .i64 n), v651_]) rfl rfl z43 rfl (List.forall_mem_cons.2 ⟨rfl, (List.forall_mem_cons.2 ⟨rfl, (List.forall_mem_cons.2 ⟨rfl, (List.forall_mem_cons.2 ⟨rfl, (List.forall_mem_cons.2 ⟨rfl, (List.forall_mem_cons.2 ⟨rfl, (List.forall_mem_cons.2 ⟨(Holds.sl_one H662_ 6 rfl), (List.forall_mem_cons.2 ⟨rfl, (List.forall_mem_cons.2 ⟨rfl, (List.forall_mem_cons.2 ⟨(RS.one he654_), (fun _ h__ => by cases h__)⟩)⟩)⟩)⟩)⟩)⟩)⟩)⟩)⟩)⟩) H662_ 9 rfl (Nat.le_of_ble_eq_true (by rfl)) ?_)
       intro w666_ S668_ H667_
       have S669_ := Same.trans S664_ S668_
       refine wpList_nil (X_then (hK665_ _ _ ?_))
       clear hK665_
       refine C_ret ?_
       refine R_any (v := (vA #[(vB false), (vI .i64 0), (vI .i64 0), (vI .i64 0), (vI .i64 0), (vI .i64 0), v607_, (vI .i64 m), (vI .i64 n), v651_])) (run_results1 rfl ⟨_, rfl, load_resN Try.underlying43 rfl z43 rfl (vs := [(vB false), (vI .i64 0), (vI .i64 0), (vI .i64 0), (vI .i64 0), (vI .i64 0), v607_, (vI .i64 m), (vI .i64 n), v651_]) (Holds.cl_cells H667_ 9 rfl 0 rfl)⟩) ?_
       have H670_ := ((Holds.bring (Holds.bring H667_ 6 rfl) 1 rfl) :)
       obtain ⟨R671_, hs672_, ⟨R673_, ha674_, hs675_⟩, H676_⟩ := Holds.gift H670_
       have hz_R_R671_ := Sub.trans' hz_R_R649_ hs672_
       have hz_R600__R671_ := Sub.trans' hz_R600__R649_ hs672_
       have hz_R631__R671_ := Sub.trans' hs648_ hs672_
       have hr677_ : RS R671_ 2 v607_ (List.length (iSince ((N0 ++ T).map GN.m) o.at_)) ((iSince ((N0 ++ T).map GN.m) o.at_).flatMap RV.cells) := (sl_RS ha674_ (Sub.rfl' _)).mono hs675_
       have H678_ := Holds.recl H676_ 1 rfl ((lcons rfl (lcons (congrArg (vI .i64) ((by rw [hs_]) : m = s'.1)) (lcons (congrArg (vI .i64) ((by rw [hs_]) : n = s'.2.1)) rfl))) : [(vS ka kl kc), (vI .i64 m), (vI .i64 n), gv] = [(vS ka kl kc), (vI .i64 s'.1), (vI .i64 s'.2.1), gv])
       have H679_ : Holds w666_ (ro R671_ :: cl kb 104 [(vS ka kl kc), (vI .i64 s'.1), (vI .i64 s'.2.1), gv] :: sl 106 4 gv (List.length (N0 ++ T)) ((N0 ++ T).flatMap GN.cells) :: sl 58 2 lv (List.length ll) (ll.flatMap RV.cells) :: F) := (Holds.pkF H678_ [0, 0, 0, 0] 7 :)
       exact ⟨R671_, _, _, rfl, hz_R_R671_, ⟨gv, lv, N0, T, ll, false, 0, 0, 0, 0, 0, v607_, m, n, v651_, (iSince ((N0 ++ T).map GN.m) o.at_), N652_, rfl, rfl, (by rw [hs_]), (hT), (hTN), (fun x hx => (hN x hx).mono hz_R_R671_), (⟨hr677_, (he654_.mono hs672_), fun x hx => (he655_ x hx).mono hs672_⟩), (by rw [hs_, ha_]; show KM.mk _ _ _ _ _ _ _ _ _ _ = _; rw [(he653_.trans he635_)]; rfl)⟩, S669_, H679_⟩
      ·have c584_fp : ¬ (o.kind = 6) := of_decide_eq_false c584_f
       refine C_seq (fun K680_ hK680_ => C_reg ?_)
       refine sv (v := (vB (decide (o.kind = 7)))) (x_bin rfl rfl rfl) ?_
       refine sv (v := (vB (decide (o.kind = 7)))) (x_assign rfl) ?_
       refine wpList_nil (X_then (hK680_ _ _ ?_))
       clear hK680_
       refine C_cond (b := decide (o.kind = 7)) rfl (fun c681_t => ?_) (fun c681_f => ?_)
       ·have c681_tp : o.kind = 7 := of_decide_eq_true c681_t
        obtain ⟨⟨hem_, hne_, hgf_⟩, hs_, ha_⟩ := iDo_compact c681_tp hdo
        have hbo_ := hbd.of
        have hlen_ : 0 < (N0 ++ T).length := map_pos hne_
        refine C_reg ?_
        refine sv (v := (vA #[(vP (some ⟨kb, 0, none⟩))])) (x_loadN (vs := [(vP (some ⟨kb, 0, none⟩))]) rfl Try.underlying55 rfl z55 rfl (Rd.cells (Holds.rd H24_ 3 rfl) 0 rfl)) ?_
        refine sv (v := (vP (some ⟨b7_, 6, none⟩))) (by kernel_rfl) ?_
        refine sv (v := (vI .i64 o.at_)) (x_load1 rfl Try.underlying2 rfl ((Holds.rd H24_ 2 rfl) 6 (vI .i64 o.at_) rfl)) ?_
        refine S_list (T_callW (al := [(vA #[(vP (some ⟨kb, 0, none⟩))]), (vI .i64 o.at_)]) rfl rfl cb45 (Calls.into (n := 13) (al := [(vA #[(vP (some ⟨kb, 0, none⟩))]), (vI .i64 o.at_)]) Try.func45 rfl Try.ntmps45 rfl rfl ?_))
        refine C_seq (fun K682_ hK682_ => C_reg ?_)
        refine S_list (T_box (v := (vA #[(vP (some ⟨kb, 0, none⟩))])) rfl H24_ ?_)
        intro b683_ w684_ S686_ H685_
        have S687_ := Same.trans S26_ S686_
        refine sv (v := (Value.map none)) (x_assign rfl) ?_
        refine wpList_nil (X_then (hK682_ _ _ ?_))
        clear hK682_
        refine C_seq (fun K688_ hK688_ => C_reg ?_)
        refine S_list (T_makeMap K2 H685_ ?_)
        intro b689_ w690_ S692_ H691_
        have S693_ := Same.trans S687_ S692_
        refine sv (v := (Value.map (some b689_))) (x_assign rfl) ?_
        refine wpList_nil (X_then (hK688_ _ _ ?_))
        clear hK688_
        refine C_seq (fun K694_ hK694_ => C_reg ?_)
        refine sv (v := (vP (some ⟨b683_, 0, none⟩))) (by kernel_rfl) ?_
        refine sv (v := (vP (some ⟨kb, 0, none⟩))) (x_load1 rfl Try.underlying53 rfl ((Holds.rd H691_ 1 rfl) 0 (vP (some ⟨kb, 0, none⟩)) rfl)) ?_
        refine sv (v := (vI .i64 o.at_)) (x_move rfl) ?_
        refine sv (v := (Value.map (some b689_))) (x_move rfl) ?_
        have eH695_ : mp K2 b689_ [] = mp K2 b689_ ([] : List ((Int × Int) × Value)) := by first | rfl | (congr 1 <;> first | rfl | omega | (simp; done) | (simp; omega))
        have H695_ : Holds w690_ (mp K2 b689_ ([] : List ((Int × Int) × Value)) :: cl b683_ 55 [(vP (some ⟨kb, 0, none⟩))] :: cl b18_ 43 [(vB false), (vI .i64 0), (vI .i64 0), (vI .i64 0), (vI .i64 0), (vI .i64 0), (vS none 0 0), (vI .i64 0), (vI .i64 0), (vS none 0 0)] :: cl b12_ 43 [(vB false), (vI .i64 0), (vI .i64 0), (vI .i64 0), (vI .i64 0), (vI .i64 0), (vS none 0 0), (vI .i64 0), (vI .i64 0), (vS none 0 0)] :: cl b7_ 39 [(vI .i64 o.kind), (vI .i64 o.rev_Main), (vI .i64 o.rev_Sub), (vI .i64 o.created_Main), (vI .i64 o.created_Sub), (vI .i64 o.ver), (vI .i64 o.at_)] :: cl b2_ 55 [(vP (some ⟨kb, 0, none⟩))] :: ro R :: cl kb 104 [(vS ka kl kc), (vI .i64 m), (vI .i64 n), gv] :: sl 106 4 gv (List.length (N0 ++ T)) ((N0 ++ T).flatMap GN.cells) :: sl 58 2 lv (List.length ll) (ll.flatMap RV.cells) :: F) := cast1 (P := fun c__ => Holds w690_ (c__ :: cl b683_ 55 [(vP (some ⟨kb, 0, none⟩))] :: cl b18_ 43 [(vB false), (vI .i64 0), (vI .i64 0), (vI .i64 0), (vI .i64 0), (vI .i64 0), (vS none 0 0), (vI .i64 0), (vI .i64 0), (vS none 0 0)] :: cl b12_ 43 [(vB false), (vI .i64 0), (vI .i64 0), (vI .i64 0), (vI .i64 0), (vI .i64 0), (vS none 0 0), (vI .i64 0), (vI .i64 0), (vS none 0 0)] :: cl b7_ 39 [(vI .i64 o.kind), (vI .i64 o.rev_Main), (vI .i64 o.rev_Sub), (vI .i64 o.created_Main), (vI .i64 o.created_Sub), (vI .i64 o.ver), (vI .i64 o.at_)] :: cl b2_ 55 [(vP (some ⟨kb, 0, none⟩))] :: ro R :: cl kb 104 [(vS ka kl kc), (vI .i64 m), (vI .i64 n), gv] :: sl 106 4 gv (List.length (N0 ++ T)) ((N0 ++ T).flatMap GN.cells) :: sl 58 2 lv (List.length ll) (ll.flatMap RV.cells) :: F)) eH695_ H691_
        have H706_ := ((Holds.bring (Holds.bring (Holds.bring (Holds.bring H695_ 9 rfl) 9 rfl) 9 rfl) 9 rfl) :)
        refine S_list (T_call (al := [(vP (some ⟨kb, 0, none⟩)), (vP none), (vI .i64 o.at_), (Value.map (some b689_))]) (pre := [cl kb 104 [(vS ka kl kc), (vI .i64 m), (vI .i64 n), gv], sl 106 4 gv (List.length (N0 ++ T)) ((N0 ++ T).flatMap GN.cells), sl 58 2 lv (List.length ll) (ll.flatMap RV.cells), mp K2 b689_ ([] : List ((Int × Int) × Value))]) rfl rfl cb62 (kCompact R kb ka kl kc m n gv lv N0 T ll o.at_ b689_ (hT) (hN) (by omega) (hbd.l (by omega)) (hTN) (hem_) (hlen_) (gFull_N hgf_)) H706_ ?_)
        rintro v696_ p710_ w707_ ⟨gv697_, lv698_, N0699_, T700_, ll701_, rfl, rfl, he702_, he703_, he704_, he705_⟩ S709_ H708_
        have S711_ := Same.trans S693_ S709_
        have hbd2_ : GBd (B + 1) ((N0699_ ++ T700_).map GN.m) := by rw [he702_]; exact (iCompact_bd hbd).up
        refine wpList_nil (X_then (hK694_ _ _ ?_))
        clear hK694_
        refine C_seq (fun K712_ hK712_ => C_reg ?_)
        refine sv (v := (Value.map (some b689_))) (x_move rfl) ?_
        refine sv (v := (Value.map (some b689_))) (x_assign rfl) ?_
        refine wpList_nil (X_then (hK712_ _ _ ?_))
        clear hK712_
        refine C_ret ?_
        refine R_any (v := (Value.map (some b689_))) (run_results1 rfl rfl) ⟨_, rfl, ?_⟩
        have hkl_ : (kmap (iKeptC ((N0 ++ T).map GN.m) o.at_)).length ≤ 1 := by unfold kmap; rw [List.length_map]; exact iKeptC_len _ _
        have H714_ := ((Holds.bring (Holds.bring H708_ 4 rfl) 1 rfl) :)
        refine S_list (T_call (al := [(Value.map (some b689_))]) (pre := [mp K2 b689_ (kmap (iKeptC ((N0 ++ T).map GN.m) o.at_))]) rfl rfl cb44 (kKeptM R b689_ (kmap (iKeptC ((N0 ++ T).map GN.m) o.at_)) (hkl_)) H714_ ?_)
        rintro v713_ p718_ w715_ ⟨_, rfl, rfl⟩ S717_ H716_
        have S719_ := Same.trans S711_ S717_
        have H720_ := Holds.resl H716_ 1 rfl (by rw [kmap_rvk] : ((kmap (iKeptC ((N0 ++ T).map GN.m) o.at_)).map rvk).flatMap RV.cells = (iKeptC ((N0 ++ T).map GN.m) o.at_).flatMap RV.cells) (by rw [kmap_rvk] : (List.length ((kmap (iKeptC ((N0 ++ T).map GN.m) o.at_)).map rvk)) = (List.length (iKeptC ((N0 ++ T).map GN.m) o.at_)))
        refine sv (v := (vP (some ⟨b18_, 6, none⟩))) (by kernel_rfl) ?_
        refine S_list0 (T_store1 (v := v713_) rfl rfl z41 (Holds.sl_one H720_ 1 rfl) H720_ 6 rfl (Nat.le_of_ble_eq_true (by rfl)) ?_)
        intro w721_ S723_ H722_
        have S724_ := Same.trans S719_ S723_
        refine wpList_nil (X_blkN (X_then (hK27_ _ _ ?_)))
        clear hK27_
        refine C_seq (fun K725_ hK725_ => C_reg ?_)
        refine sv (v := (vA #[(vP (some ⟨kb, 0, none⟩))])) (x_loadN (vs := [(vP (some ⟨kb, 0, none⟩))]) rfl Try.underlying55 rfl z55 rfl (Rd.cells (Holds.rd H722_ 9 rfl) 0 rfl)) ?_
        refine S_list (T_callW (al := [(vA #[(vP (some ⟨kb, 0, none⟩))])]) rfl rfl cb49 (Calls.into (n := 6) (al := [(vA #[(vP (some ⟨kb, 0, none⟩))])]) Try.func49 rfl Try.ntmps49 rfl rfl ?_))
        refine C_seq (fun K726_ hK726_ => C_reg ?_)
        refine S_list (T_box (v := (vA #[(vP (some ⟨kb, 0, none⟩))])) rfl H722_ ?_)
        intro b727_ w728_ S730_ H729_
        have S731_ := Same.trans S724_ S730_
        refine S_list (T_alloc z61 H729_ ?_)
        intro b732_ w733_ S735_ H734_
        have S736_ := Same.trans S731_ S735_
        refine wpList_nil (X_then (hK726_ _ _ ?_))
        clear hK726_
        refine C_seq (fun K737_ hK737_ => C_reg ?_)
        refine sv (v := (vP (some ⟨b727_, 0, none⟩))) (by kernel_rfl) ?_
        refine sv (v := (vP (some ⟨kb, 0, none⟩))) (x_load1 rfl Try.underlying53 rfl ((Holds.rd H734_ 1 rfl) 0 (vP (some ⟨kb, 0, none⟩)) rfl)) ?_
        have H746_ := ((Holds.bring (Holds.bring (Holds.bring (Holds.bring H734_ 6 rfl) 6 rfl) 6 rfl) 5 rfl) :)
        refine S_list (T_callG (al := [(vP (some ⟨kb, 0, none⟩))]) (pre := [cl kb 104 [(vS ka kl kc), (vI .i64 m), (vI .i64 n), gv697_], sl 106 4 gv697_ (List.length (N0699_ ++ T700_)) ((N0699_ ++ T700_).flatMap GN.cells), sl 58 2 lv698_ (List.length ll701_) (ll701_.flatMap RV.cells)]) rfl rfl cb65 (kZzOut R kb ka kl kc m n gv697_ lv698_ N0699_ T700_ ll701_ (he703_) (he705_) (by have := hbd2_.of.1; omega) (hbd2_.l (by omega))) H746_ ?_)
        rintro R739_ v740_ p750_ w747_ hs738_ ⟨v741_, N742_, rfl, rfl, he743_, he744_, he745_⟩ S749_ H748_
        have S751_ := Same.trans S736_ S749_
        have hzl_ := map_m_len he743_
        have hza_ := map_m_all he743_ (hbd2_.l (show _ ≤ 100000 by omega))
        refine S_list0 (T_storeN (vs := [(vI .i64 m), (vI .i64 n), v741_]) rfl rfl z61 rfl (List.forall_mem_cons.2 ⟨rfl, (List.forall_mem_cons.2 ⟨rfl, (List.forall_mem_cons.2 ⟨(RS.one he744_), (fun _ h__ => by cases h__)⟩)⟩)⟩) H748_ 4 rfl (Nat.le_of_ble_eq_true (by rfl)) ?_)
        intro w752_ S754_ H753_
        have S755_ := Same.trans S751_ S754_
        refine wpList_nil (X_then (hK737_ _ _ ?_))
        clear hK737_
        refine C_ret ?_
        refine R_any (v := (vA #[(vI .i64 m), (vI .i64 n), v741_])) (run_results1 rfl ⟨_, rfl, load_resN Try.underlying61 rfl z61 rfl (vs := [(vI .i64 m), (vI .i64 n), v741_]) (Holds.cl_cells H753_ 4 rfl 0 rfl)⟩) ⟨_, rfl, ?_⟩
        refine S_list (T_callG (al := [(vA #[(vI .i64 m), (vI .i64 n), v741_])]) (pre := []) rfl rfl cb48 (kDumpOut R739_ m n v741_ N742_ he744_ (he745_) (by have := hbd2_.of.1; omega) (hza_)) H753_ ?_)
        rintro R757_ v758_ p767_ w764_ hs756_ ⟨v759_, N760_, rfl, rfl, he761_, he762_, he763_⟩ S766_ H765_
        have S768_ := Same.trans S755_ S766_
        have hz_R_R757_ := Sub.trans' hs738_ hs756_
        refine sv (v := (vP (some ⟨b18_, 7, none⟩))) (by kernel_rfl) ?_
        refine S_list0 (T_storeN (vs := [(vI .i64 m), (vI .i64 n), v759_]) rfl rfl z34 rfl (List.forall_mem_cons.2 ⟨rfl, (List.forall_mem_cons.2 ⟨rfl, (List.forall_mem_cons.2 ⟨(RS.one he762_), (fun _ h__ => by cases h__)⟩)⟩)⟩) H765_ 8 rfl (Nat.le_of_ble_eq_true (by rfl)) ?_)
        intro w769_ S771_ H770_
        have S772_ := Same.trans S768_ S771_
        refine wpList_nil (X_then (hK725_ _ _ ?_))
        clear hK725_
        refine C_seq (fun K773_ hK773_ => C_reg ?_)
        refine sv (v := (vA #[(vB false), (vI .i64 0), (vI .i64 0), (vI .i64 0), (vI .i64 0), (vI .i64 0), v713_, (vI .i64 m), (vI .i64 n), v759_])) (x_loadN (vs := [(vB false), (vI .i64 0), (vI .i64 0), (vI .i64 0), (vI .i64 0), (vI .i64 0), v713_, (vI .i64 m), (vI .i64 n), v759_]) rfl Try.underlying43 rfl z43 rfl (Rd.cells (Holds.rd H770_ 8 rfl) 0 rfl)) ?_
        refine S_list0 (T_storeN (vs := [(vB false), (vI .i64 0), (vI .i64 0), (vI .i64 0), (vI .i64 0), (vI .i64 0), v713_, (vI .i64 m), (vI .i64 n), v759_]) rfl rfl z43 rfl (List.forall_mem_cons.2 ⟨rfl, (List.forall_mem_cons.2 ⟨rfl, (List.forall_mem_cons.2 ⟨rfl, (List.forall_mem_cons.2 ⟨rfl, (List.forall_mem_cons.2 ⟨rfl, (List.forall_mem_cons.2 ⟨rfl, (List.forall_mem_cons.2 ⟨(Holds.sl_one H770_ 6 rfl), (List.forall_mem_cons.2 ⟨rfl, (List.forall_mem_cons.2 ⟨rfl, (List.forall_mem_cons.2 ⟨(RS.one he762_), (fun _ h__ => by cases h__)⟩)⟩)⟩)⟩)⟩)⟩)⟩)⟩)⟩)⟩) H770_ 9 rfl (Nat.le_of_ble_eq_true (by rfl)) ?_)
        intro w774_ S776_ H775_
        have S777_ := Same.trans S772_ S776_
        refine wpList_nil (X_then (hK773_ _ _ ?_))
        clear hK773_
        refine C_ret ?_
        refine R_any (v := (vA #[(vB false), (vI .i64 0), (vI .i64 0), (vI .i64 0), (vI .i64 0), (vI .i64 0), v713_, (vI .i64 m), (vI .i64 n), v759_])) (run_results1 rfl ⟨_, rfl, load_resN Try.underlying43 rfl z43 rfl (vs := [(vB false), (vI .i64 0), (vI .i64 0), (vI .i64 0), (vI .i64 0), (vI .i64 0), v713_, (vI .i64 m), (vI .i64 n), v759_]) (Holds.cl_cells H775_ 9 rfl 0 rfl)⟩) ?_
        have H778_ := ((Holds.bring (Holds.bring H775_ 6 rfl) 1 rfl) :)
        obtain ⟨R779_, hs780_, ⟨R781_, ha782_, hs783_⟩, H784_⟩ := Holds.gift H778_
        have hz_R_R779_ := Sub.trans' hz_R_R757_ hs780_
        have hz_R739__R779_ := Sub.trans' hs756_ hs780_
        have hr785_ : RS R779_ 2 v713_ (List.length (iKeptC ((N0 ++ T).map GN.m) o.at_)) ((iKeptC ((N0 ++ T).map GN.m) o.at_).flatMap RV.cells) := (sl_RS ha782_ (Sub.rfl' _)).mono hs783_
        have H786_ := Holds.recl H784_ 1 rfl ((lcons rfl (lcons (congrArg (vI .i64) ((by rw [hs_]) : m = s'.1)) (lcons (congrArg (vI .i64) ((by rw [hs_]) : n = s'.2.1)) rfl))) : [(vS ka kl kc), (vI .i64 m), (vI .i64 n), gv697_] = [(vS ka kl kc), (vI .i64 s'.1), (vI .i64 s'.2.1), gv697_])
        have H787_ : Holds w774_ (ro R779_ :: cl kb 104 [(vS ka kl kc), (vI .i64 s'.1), (vI .i64 s'.2.1), gv697_] :: sl 106 4 gv697_ (List.length (N0699_ ++ T700_)) ((N0699_ ++ T700_).flatMap GN.cells) :: sl 58 2 lv698_ (List.length ll701_) (ll701_.flatMap RV.cells) :: F) := (Holds.pkF H786_ [0, 0, 0, 0] 7 :)
        exact ⟨R779_, _, _, rfl, hz_R_R779_, ⟨gv697_, lv698_, N0699_, T700_, ll701_, false, 0, 0, 0, 0, 0, v713_, m, n, v759_, (iKeptC ((N0 ++ T).map GN.m) o.at_), N760_, rfl, rfl, (by rw [hs_]; exact he702_), (he703_), (he704_), (fun x hx => (he705_ x hx).mono hz_R_R779_), (⟨hr785_, (he762_.mono hs780_), fun x hx => (he763_ x hx).mono hs780_⟩), (by rw [hs_, ha_]; show KM.mk _ _ _ _ _ _ _ _ _ _ = _; rw [(he761_.trans he743_).trans he702_]; rfl)⟩, S777_, H787_⟩
       ·have c681_fp : ¬ (o.kind = 7) := of_decide_eq_false c681_f
        refine C_seq (fun K788_ hK788_ => C_reg ?_)
        refine sv (v := (vB (decide (o.kind = 8)))) (x_bin rfl rfl rfl) ?_
        refine sv (v := (vB (decide (o.kind = 8)))) (x_assign rfl) ?_
        refine wpList_nil (X_then (hK788_ _ _ ?_))
        clear hK788_
        refine C_cond (b := decide (o.kind = 8)) rfl (fun c789_t => ?_) (fun c789_f => ?_)
        ·have c789_tp : o.kind = 8 := of_decide_eq_true c789_t
         obtain ⟨⟨hne_, hgf_⟩, hs_, ha_⟩ := iDo_keep c789_tp hdo
         have hbo_ := hbd.of
         have hlen_ : 0 < (N0 ++ T).length := map_pos hne_
         refine C_reg ?_
         refine sv (v := (vA #[(vP (some ⟨kb, 0, none⟩))])) (x_loadN (vs := [(vP (some ⟨kb, 0, none⟩))]) rfl Try.underlying55 rfl z55 rfl (Rd.cells (Holds.rd H24_ 3 rfl) 0 rfl)) ?_
         refine sv (v := (vP (some ⟨b7_, 6, none⟩))) (by kernel_rfl) ?_
         refine sv (v := (vI .i64 o.at_)) (x_load1 rfl Try.underlying2 rfl ((Holds.rd H24_ 2 rfl) 6 (vI .i64 o.at_) rfl)) ?_
         refine S_list (T_callW (al := [(vA #[(vP (some ⟨kb, 0, none⟩))]), (vI .i64 o.at_)]) rfl rfl cb46 (Calls.into (n := 13) (al := [(vA #[(vP (some ⟨kb, 0, none⟩))]), (vI .i64 o.at_)]) Try.func46 rfl Try.ntmps46 rfl rfl ?_))
         refine C_seq (fun K790_ hK790_ => C_reg ?_)
         refine S_list (T_box (v := (vA #[(vP (some ⟨kb, 0, none⟩))])) rfl H24_ ?_)
         intro b791_ w792_ S794_ H793_
         have S795_ := Same.trans S26_ S794_
         refine sv (v := (Value.map none)) (x_assign rfl) ?_
         refine wpList_nil (X_then (hK790_ _ _ ?_))
         clear hK790_
         refine C_seq (fun K796_ hK796_ => C_reg ?_)
         refine S_list (T_makeMap K2 H793_ ?_)
         intro b797_ w798_ S800_ H799_
         have S801_ := Same.trans S795_ S800_
         refine sv (v := (Value.map (some b797_))) (x_assign rfl) ?_
         refine wpList_nil (X_then (hK796_ _ _ ?_))
         clear hK796_
         refine C_seq (fun K802_ hK802_ => C_reg ?_)
         refine sv (v := (vP (some ⟨b791_, 0, none⟩))) (by kernel_rfl) ?_
         refine sv (v := (vP (some ⟨kb, 0, none⟩))) (x_load1 rfl Try.underlying53 rfl ((Holds.rd H799_ 1 rfl) 0 (vP (some ⟨kb, 0, none⟩)) rfl)) ?_
         refine sv (v := (vI .i64 o.at_)) (x_move rfl) ?_
         refine sv (v := (Value.map (some b797_))) (x_move rfl) ?_
         have eH803_ : mp K2 b797_ [] = mp K2 b797_ ([] : List ((Int × Int) × Value)) := by first | rfl | (congr 1 <;> first | rfl | omega | (simp; done) | (simp; omega))
         have H803_ : Holds w798_ (mp K2 b797_ ([] : List ((Int × Int) × Value)) :: cl b791_ 55 [(vP (some ⟨kb, 0, none⟩))] :: cl b18_ 43 [(vB false), (vI .i64 0), (vI .i64 0), (vI .i64 0), (vI .i64 0), (vI .i64 0), (vS none 0 0), (vI .i64 0), (vI .i64 0), (vS none 0 0)] :: cl b12_ 43 [(vB false), (vI .i64 0), (vI .i64 0), (vI .i64 0), (vI .i64 0), (vI .i64 0), (vS none 0 0), (vI .i64 0), (vI .i64 0), (vS none 0 0)] :: cl b7_ 39 [(vI .i64 o.kind), (vI .i64 o.rev_Main), (vI .i64 o.rev_Sub), (vI .i64 o.created_Main), (vI .i64 o.created_Sub), (vI .i64 o.ver), (vI .i64 o.at_)] :: cl b2_ 55 [(vP (some ⟨kb, 0, none⟩))] :: ro R :: cl kb 104 [(vS ka kl kc), (vI .i64 m), (vI .i64 n), gv] :: sl 106 4 gv (List.length (N0 ++ T)) ((N0 ++ T).flatMap GN.cells) :: sl 58 2 lv (List.length ll) (ll.flatMap RV.cells) :: F) := cast1 (P := fun c__ => Holds w798_ (c__ :: cl b791_ 55 [(vP (some ⟨kb, 0, none⟩))] :: cl b18_ 43 [(vB false), (vI .i64 0), (vI .i64 0), (vI .i64 0), (vI .i64 0), (vI .i64 0), (vS none 0 0), (vI .i64 0), (vI .i64 0), (vS none 0 0)] :: cl b12_ 43 [(vB false), (vI .i64 0), (vI .i64 0), (vI .i64 0), (vI .i64 0), (vI .i64 0), (vS none 0 0), (vI .i64 0), (vI .i64 0), (vS none 0 0)] :: cl b7_ 39 [(vI .i64 o.kind), (vI .i64 o.rev_Main), (vI .i64 o.rev_Sub), (vI .i64 o.created_Main), (vI .i64 o.created_Sub), (vI .i64 o.ver), (vI .i64 o.at_)] :: cl b2_ 55 [(vP (some ⟨kb, 0, none⟩))] :: ro R :: cl kb 104 [(vS ka kl kc), (vI .i64 m), (vI .i64 n), gv] :: sl 106 4 gv (List.length (N0 ++ T)) ((N0 ++ T).flatMap GN.cells) :: sl 58 2 lv (List.length ll) (ll.flatMap RV.cells) :: F)) eH803_ H799_
         have H805_ := ((Holds.bring (Holds.bring (Holds.bring (Holds.bring H803_ 9 rfl) 9 rfl) 9 rfl) 9 rfl) :)
         refine S_list (T_call (al := [(vP (some ⟨kb, 0, none⟩)), (vI .i64 o.at_), (Value.map (some b797_))]) (pre := [cl kb 104 [(vS ka kl kc), (vI .i64 m), (vI .i64 n), gv], sl 106 4 gv (List.length (N0 ++ T)) ((N0 ++ T).flatMap GN.cells), sl 58 2 lv (List.length ll) (ll.flatMap RV.cells), mp K2 b797_ ([] : List ((Int × Int) × Value))]) rfl rfl cb63 (kKeep R kb ka kl kc m n gv lv N0 T ll o.at_ b797_ (hT) (hN) (by omega) (hbd.l (by omega)) (hTN) (hlen_) (gFull_N hgf_)) H805_ ?_)
         rintro v804_ p809_ w806_ ⟨rfl, rfl⟩ S808_ H807_
         have S810_ := Same.trans S801_ S808_
         refine wpList_nil (X_then (hK802_ _ _ ?_))
         clear hK802_
         refine C_seq (fun K811_ hK811_ => C_reg ?_)
         refine sv (v := (Value.map (some b797_))) (x_move rfl) ?_
         refine sv (v := (Value.map (some b797_))) (x_assign rfl) ?_
         refine wpList_nil (X_then (hK811_ _ _ ?_))
         clear hK811_
         refine C_ret ?_
         refine R_any (v := (Value.map (some b797_))) (run_results1 rfl rfl) ⟨_, rfl, ?_⟩
         have hkl_ : (kmap (iKeptK ((N0 ++ T).map GN.m) o.at_)).length ≤ 1 := by unfold kmap; rw [List.length_map]; exact iKeptK_len _ _
         have H813_ := ((Holds.bring (Holds.bring H807_ 4 rfl) 1 rfl) :)
         refine S_list (T_call (al := [(Value.map (some b797_))]) (pre := [mp K2 b797_ (kmap (iKeptK ((N0 ++ T).map GN.m) o.at_))]) rfl rfl cb44 (kKeptM R b797_ (kmap (iKeptK ((N0 ++ T).map GN.m) o.at_)) (hkl_)) H813_ ?_)
         rintro v812_ p817_ w814_ ⟨_, rfl, rfl⟩ S816_ H815_
         have S818_ := Same.trans S810_ S816_
         have H819_ := Holds.resl H815_ 1 rfl (by rw [kmap_rvk] : ((kmap (iKeptK ((N0 ++ T).map GN.m) o.at_)).map rvk).flatMap RV.cells = (iKeptK ((N0 ++ T).map GN.m) o.at_).flatMap RV.cells) (by rw [kmap_rvk] : (List.length ((kmap (iKeptK ((N0 ++ T).map GN.m) o.at_)).map rvk)) = (List.length (iKeptK ((N0 ++ T).map GN.m) o.at_)))
         refine sv (v := (vP (some ⟨b18_, 6, none⟩))) (by kernel_rfl) ?_
         refine S_list0 (T_store1 (v := v812_) rfl rfl z41 (Holds.sl_one H819_ 1 rfl) H819_ 6 rfl (Nat.le_of_ble_eq_true (by rfl)) ?_)
         intro w820_ S822_ H821_
         have S823_ := Same.trans S818_ S822_
         refine wpList_nil (X_blkN (X_then (hK27_ _ _ ?_)))
         clear hK27_
         refine C_seq (fun K824_ hK824_ => C_reg ?_)
         refine sv (v := (vA #[(vP (some ⟨kb, 0, none⟩))])) (x_loadN (vs := [(vP (some ⟨kb, 0, none⟩))]) rfl Try.underlying55 rfl z55 rfl (Rd.cells (Holds.rd H821_ 9 rfl) 0 rfl)) ?_
         refine S_list (T_callW (al := [(vA #[(vP (some ⟨kb, 0, none⟩))])]) rfl rfl cb49 (Calls.into (n := 6) (al := [(vA #[(vP (some ⟨kb, 0, none⟩))])]) Try.func49 rfl Try.ntmps49 rfl rfl ?_))
         refine C_seq (fun K825_ hK825_ => C_reg ?_)
         refine S_list (T_box (v := (vA #[(vP (some ⟨kb, 0, none⟩))])) rfl H821_ ?_)
         intro b826_ w827_ S829_ H828_
         have S830_ := Same.trans S823_ S829_
         refine S_list (T_alloc z61 H828_ ?_)
         intro b831_ w832_ S834_ H833_
         have S835_ := Same.trans S830_ S834_
         refine wpList_nil (X_then (hK825_ _ _ ?_))
         clear hK825_
         refine C_seq (fun K836_ hK836_ => C_reg ?_)
         refine sv (v := (vP (some ⟨b826_, 0, none⟩))) (by kernel_rfl) ?_
         refine sv (v := (vP (some ⟨kb, 0, none⟩))) (x_load1 rfl Try.underlying53 rfl ((Holds.rd H833_ 1 rfl) 0 (vP (some ⟨kb, 0, none⟩)) rfl)) ?_
         have H845_ := ((Holds.bring (Holds.bring (Holds.bring (Holds.bring H833_ 6 rfl) 6 rfl) 6 rfl) 5 rfl) :)
         refine S_list (T_callG (al := [(vP (some ⟨kb, 0, none⟩))]) (pre := [cl kb 104 [(vS ka kl kc), (vI .i64 m), (vI .i64 n), gv], sl 106 4 gv (List.length (N0 ++ T)) ((N0 ++ T).flatMap GN.cells), sl 58 2 lv (List.length ll) (ll.flatMap RV.cells)]) rfl rfl cb65 (kZzOut R kb ka kl kc m n gv lv N0 T ll (hT) (hN) (by have := hbd.of.1; omega) (hbd.l (by omega))) H845_ ?_)
         rintro R838_ v839_ p849_ w846_ hs837_ ⟨v840_, N841_, rfl, rfl, he842_, he843_, he844_⟩ S848_ H847_
         have S850_ := Same.trans S835_ S848_
         have hzl_ := map_m_len he842_
         have hza_ := map_m_all he842_ (hbd.l (show _ ≤ 100000 by omega))
         refine S_list0 (T_storeN (vs := [(vI .i64 m), (vI .i64 n), v840_]) rfl rfl z61 rfl (List.forall_mem_cons.2 ⟨rfl, (List.forall_mem_cons.2 ⟨rfl, (List.forall_mem_cons.2 ⟨(RS.one he843_), (fun _ h__ => by cases h__)⟩)⟩)⟩) H847_ 4 rfl (Nat.le_of_ble_eq_true (by rfl)) ?_)
         intro w851_ S853_ H852_
         have S854_ := Same.trans S850_ S853_
         refine wpList_nil (X_then (hK836_ _ _ ?_))
         clear hK836_
         refine C_ret ?_
         refine R_any (v := (vA #[(vI .i64 m), (vI .i64 n), v840_])) (run_results1 rfl ⟨_, rfl, load_resN Try.underlying61 rfl z61 rfl (vs := [(vI .i64 m), (vI .i64 n), v840_]) (Holds.cl_cells H852_ 4 rfl 0 rfl)⟩) ⟨_, rfl, ?_⟩
         refine S_list (T_callG (al := [(vA #[(vI .i64 m), (vI .i64 n), v840_])]) (pre := []) rfl rfl cb48 (kDumpOut R838_ m n v840_ N841_ he843_ (he844_) (by have := hbd.of.1; omega) (hza_)) H852_ ?_)
         rintro R856_ v857_ p866_ w863_ hs855_ ⟨v858_, N859_, rfl, rfl, he860_, he861_, he862_⟩ S865_ H864_
         have S867_ := Same.trans S854_ S865_
         have hz_R_R856_ := Sub.trans' hs837_ hs855_
         refine sv (v := (vP (some ⟨b18_, 7, none⟩))) (by kernel_rfl) ?_
         refine S_list0 (T_storeN (vs := [(vI .i64 m), (vI .i64 n), v858_]) rfl rfl z34 rfl (List.forall_mem_cons.2 ⟨rfl, (List.forall_mem_cons.2 ⟨rfl, (List.forall_mem_cons.2 ⟨(RS.one he861_), (fun _ h__ => by cases h__)⟩)⟩)⟩) H864_ 8 rfl (Nat.le_of_ble_eq_true (by rfl)) ?_)
         intro w868_ S870_ H869_
         have S871_ := Same.trans S867_ S870_
         refine wpList_nil (X_then (hK824_ _ _ ?_))
         clear hK824_
         refine C_seq (fun K872_ hK872_ => C_reg ?_)
         refine sv (v := (vA #[(vB false), (vI .i64 0), (vI .i64 0), (vI .i64 0), (vI .i64 0), (vI .i64 0), v812_, (vI .i64 m), (vI .i64 n), v858_])) (x_loadN (vs := [(vB false), (vI .i64 0), (vI .i64 0), (vI .i64 0), (vI .i64 0), (vI .i64 0), v812_, (vI .i64 m), (vI .i64 n), v858_]) rfl Try.underlying43 rfl z43 rfl (Rd.cells (Holds.rd H869_ 8 rfl) 0 rfl)) ?_
         refine S_list0 (T_storeN (vs := [(vB false), (vI .i64 0), (vI .i64 0), (vI .i64 0), (vI .i64 0), (vI .i64 0), v812_, (vI .i64 m), (vI .i64 n), v858_]) rfl rfl z43 rfl (List.forall_mem_cons.2 ⟨rfl, (List.forall_mem_cons.2 ⟨rfl, (List.forall_mem_cons.2 ⟨rfl, (List.forall_mem_cons.2 ⟨rfl, (List.forall_mem_cons.2 ⟨rfl, (List.forall_mem_cons.2 ⟨rfl, (List.forall_mem_cons.2 ⟨(Holds.sl_one H869_ 6 rfl), (List.forall_mem_cons.2 ⟨rfl, (List.forall_mem_cons.2 ⟨rfl, (List.forall_mem_cons.2 ⟨(RS.one he861_), (fun _ h__ => by cases h__)⟩)⟩)⟩)⟩)⟩)⟩)⟩)⟩)⟩)⟩) H869_ 9 rfl (Nat.le_of_ble_eq_true (by rfl)) ?_)
         intro w873_ S875_ H874_
         have S876_ := Same.trans S871_ S875_
         refine wpList_nil (X_then (hK872_ _ _ ?_))
         clear hK872_
         refine C_ret ?_
         refine R_any (v := (vA #[(vB false), (vI .i64 0), (vI .i64 0), (vI .i64 0), (vI .i64 0), (vI .i64 0), v812_, (vI .i64 m), (vI .i64 n), v858_])) (run_results1 rfl ⟨_, rfl, load_resN Try.underlying43 rfl z43 rfl (vs := [(vB false), (vI .i64 0), (vI .i64 0), (vI .i64 0), (vI .i64 0), (vI .i64 0), v812_, (vI .i64 m), (vI .i64 n), v858_]) (Holds.cl_cells H874_ 9 rfl 0 rfl)⟩) ?_
         have H877_ := ((Holds.bring (Holds.bring H874_ 6 rfl) 1 rfl) :)
         obtain ⟨R878_, hs879_, ⟨R880_, ha881_, hs882_⟩, H883_⟩ := Holds.gift H877_
         have hz_R_R878_ := Sub.trans' hz_R_R856_ hs879_
         have hz_R838__R878_ := Sub.trans' hs855_ hs879_
         have hr884_ : RS R878_ 2 v812_ (List.length (iKeptK ((N0 ++ T).map GN.m) o.at_)) ((iKeptK ((N0 ++ T).map GN.m) o.at_).flatMap RV.cells) := (sl_RS ha881_ (Sub.rfl' _)).mono hs882_
         have H885_ := Holds.recl H883_ 1 rfl ((lcons rfl (lcons (congrArg (vI .i64) ((by rw [hs_]) : m = s'.1)) (lcons (congrArg (vI .i64) ((by rw [hs_]) : n = s'.2.1)) rfl))) : [(vS ka kl kc), (vI .i64 m), (vI .i64 n), gv] = [(vS ka kl kc), (vI .i64 s'.1), (vI .i64 s'.2.1), gv])
         have H886_ : Holds w873_ (ro R878_ :: cl kb 104 [(vS ka kl kc), (vI .i64 s'.1), (vI .i64 s'.2.1), gv] :: sl 106 4 gv (List.length (N0 ++ T)) ((N0 ++ T).flatMap GN.cells) :: sl 58 2 lv (List.length ll) (ll.flatMap RV.cells) :: F) := (Holds.pkF H885_ [0, 0, 0, 0] 7 :)
         exact ⟨R878_, _, _, rfl, hz_R_R878_, ⟨gv, lv, N0, T, ll, false, 0, 0, 0, 0, 0, v812_, m, n, v858_, (iKeptK ((N0 ++ T).map GN.m) o.at_), N859_, rfl, rfl, (by rw [hs_]), (hT), (hTN), (fun x hx => (hN x hx).mono hz_R_R878_), (⟨hr884_, (he861_.mono hs879_), fun x hx => (he862_ x hx).mono hs879_⟩), (by rw [hs_, ha_]; show KM.mk _ _ _ _ _ _ _ _ _ _ = _; rw [(he860_.trans he842_)]; rfl)⟩, S876_, H886_⟩
        ·have c789_fp : ¬ (o.kind = 8) := of_decide_eq_false c789_f
         exact absurd hdo (by rw [iDo_no (by omega) (by omega) (by omega) (by omega) (by omega) (by omega)]; intro h_; cases h_)
end Go.Proofs.Ytiblemgccgbhoaa
set_option linter.unusedVariables false
set_option linter.unusedSimpArgs false
namespace Go.Proofs.Ytiblemgccgbhoaa
open Go Go.RowKit Gw
theorem fineT : tin Try.prog 4 = some (1, 1, some (.bool false)) := by kernel_rfl
theorem catch_idle (p : Addr) (w : World) :
    CallsD Try.prog 35 #[.pointer (some p)] .returning w fun e u' w' => e = .returned (.tuple #[]) ∧ u' = .returning ∧ w' = w := by
  refine callsD_of_wpS Try.func35 rfl fun c₀ cs hu => ?_
  apply wpS_seq
  apply wpS_region
  simp [wpOpsS, go_sem, recoverD, hu, Try.ntmps35, Exit.thenS]
  refine wpS_cond (t := false) (by simp [Act.eval, Array.replicate]) ?_
  simp only [Bool.false_eq_true, if_false]
  refine wpS_of_wp (wp_skip ?_)
  cases c₀
  simp_all [bodyPostS, results, Try.results35]
theorem fine_retG (fc : FuncId) (cap : List Value) (R : HP) (pre : List SP) (Qc : HP → Value → List SP → Prop) (hcb : callable Try.prog fc = true) (h : TriG Try.prog fc cap.toArray R pre Qc) :
    TriG Try.prog 21 #[.func (.func fc) #[] cap.toArray] R pre (fun R' v post => v = .bool true ∧ ∃ v', Qc R' v' post) := by
  intro w F H
  refine Calls.intoD (n := 6) (al := [.func (.func fc) #[] cap.toArray]) Try.func21 rfl Try.ntmps21 rfl rfl ?_
  refine C_seq (fun K hK => ?_)
  refine C_reg ?_
  refine S_list (T_alloc fineT H ?_)
  intro b w1 S1 H1
  refine wpList_nil (X_then (hK _ _ ?_))
  clear hK
  refine C_seq (fun K hK => ?_)
  refine C_reg ?_
  refine S_list (T_val (v := .func (.func 35) #[] #[.pointer (some ⟨b, 0, none⟩)]) (by kernel_rfl) ?_)
  refine S_defer (dd := { target := .fn (.func 35) #[.pointer (some ⟨b, 0, none⟩)], args := #[] }) (by kernel_rfl) ?_
  refine wpList_nil (X_then (hK _ _ ?_))
  clear hK
  refine C_seq (fun K hK => ?_)
  refine C_reg ?_
  refine S_list (T_val (v := .func (.func fc) #[] cap.toArray) (x_move rfl) ?_)
  have H1' : Holds w1 (ro R :: (pre ++ (cl b 4 [.bool false] :: F))) := by
    have a : Holds w1 ([cl b 4 [.bool false]] ++ ((ro R :: pre) ++ F)) := H1
    have c := Sat.append.1 a
    obtain ⟨h1, k1, s1, t1, d1, a1, r1⟩ := c
    obtain ⟨h2, k2, s2, t2, d2, a2, r2⟩ := Sat.append.1 r1
    have : Sat ((ro R :: pre) ++ ([cl b 4 [.bool false]] ++ F)) (hp w1) :=
      Sat.append.2 ⟨h2, un h1 k2, s2.trans' t1, Sub.un_lub s1 (t2.trans' t1), (Dis.un_left (d1.sub_right s2) d2.symm).symm, a2, Sat.append.2 ⟨h1, k2, Sub.un_left _ _, Sub.un_right (d1.sub_right t2), d1.sub_right t2, a1, r2⟩⟩
    exact this
  refine S_list (T_callG (al := cap) (cl := cap) (pre := pre) (F := cl b 4 [.bool false] :: F) rfl rfl hcb h H1' ?_)
  rintro R' v post w2 hs hq S2 H2
  refine wpList_nil (X_then (hK _ _ ?_))
  clear hK
  have H3 : Holds w2 (cl b 4 [.bool false] :: (ro R' :: (post ++ F))) := by
    have a : Holds w2 ((ro R' :: post) ++ ([cl b 4 [.bool false]] ++ F)) := H2
    obtain ⟨h1, k1, s1, t1, d1, a1, r1⟩ := Sat.append.1 a
    obtain ⟨h2, k2, s2, t2, d2, a2, r2⟩ := Sat.append.1 r1
    have : Sat ([cl b 4 [.bool false]] ++ ((ro R' :: post) ++ F)) (hp w2) :=
      Sat.append.2 ⟨h2, un h1 k2, s2.trans' t1, Sub.un_lub s1 (t2.trans' t1), (Dis.un_left (d1.sub_right s2) d2.symm).symm, a2, Sat.append.2 ⟨h1, k2, Sub.un_left _ _, Sub.un_right (d1.sub_right t2), d1.sub_right t2, a1, r2⟩⟩
    exact this
  refine C_seq (fun K hK => ?_)
  refine C_reg ?_
  refine S_list0 (T_store1 (v := .bool true) rfl rfl fineT rfl H3 0 rfl (by simp) ?_)
  intro w4 S4 H4
  refine wpList_nil (X_then (hK _ _ ?_))
  clear hK
  refine C_ret ?_
  show Leaves _ _ _ _ (mkA _ _ _).defers _ _
  rw [mkA_defers]
  refine leaves_cons (f := 35) (args := #[.pointer (some ⟨b, 0, none⟩)]) (by simp) (by simp [go_sem]) ?_
  refine (catch_idle ⟨b, 0, none⟩ _).mono ?_
  rintro e u' w5 ⟨rfl, rfl, rfl⟩
  show Leaves _ _ _ _ _ _ _
  refine ⟨.bool true, run_results1 (r := .cell 2 4) rfl ⟨_, rfl, load_res1 Try.underlying4 rfl (Holds.cl_cell H4 0 rfl (k := 0) rfl)⟩, ?_⟩
  exact ⟨R', _, post, rfl, hs, ⟨rfl, v, hq⟩, (S1.trans S2).trans S4, Holds.tail H4⟩
end Go.Proofs.Ytiblemgccgbhoaa
set_option linter.unusedVariables false
set_option linter.unusedSimpArgs false
namespace Go.Proofs.Ytiblemgccgbhoaa
open Go Go.RowKit Gw
open Go.Value renaming int → vI, bool → vB, slice → vS, pointer → vP, agg → vA, tuple → vT

def iRun (s : Int × Int × List GM) (out : List KM) : List KO → Option (List KM)
  | [] => some out
  | o :: r => match iDo s.1 s.2.1 s.2.2 o with | some (s', a) => iRun s' (out ++ [a.to s']) r | none => none
theorem iRun_step {s : Int × Int × List GM} {out res : List KM} {O : List KO} {k : Nat} {x : KO} (h : iRun s out (O.drop k) = some res) (hx : O[k]? = some x) :
    ∃ s' a, iDo s.1 s.2.1 s.2.2 x = some (s', a) ∧ iRun s' (out ++ [a.to s']) (O.drop (k + 1)) = some res := by
  rw [drop_at hx, iRun] at h
  split at h
  · rename_i s' a e
    exact ⟨s', a, e, h⟩
  · cases h
theorem iDo_bd {B : Nat} {m n : Int} {G : List GM} {o : KO} {s : Int × Int × List GM} {a : KM} (hb : GBd B G) (h : iDo m n G o = some (s, a)) : GBd (B + 1) s.2.2 := by
  by_cases h1 : o.kind = 1
  · obtain ⟨_, rfl, _⟩ := iDo_put h1 h
    exact iPut_bd hb
  · by_cases h2 : o.kind = 2
    · obtain ⟨⟨_, h0⟩, ⟨_, rfl, _⟩ | ⟨_, _, rfl, _⟩⟩ := iDo_end h2 h
      · exact hb.up
      · exact iEnd_bd hb h0
    · by_cases h5 : o.kind = 5
      · obtain ⟨_, rfl, _⟩ := iDo_get h5 h
        exact hb.up
      · by_cases h6 : o.kind = 6
        · obtain ⟨_, rfl, _⟩ := iDo_since h6 h
          exact hb.up
        · by_cases h7 : o.kind = 7
          · obtain ⟨_, rfl, _⟩ := iDo_compact h7 h
            exact (iCompact_bd hb).up
          · by_cases h8 : o.kind = 8
            · obtain ⟨_, rfl, _⟩ := iDo_keep h8 h
              exact hb.up
            · rw [iDo_no h1 h2 h5 h6 h7 h8] at h; cases h


set_option maxHeartbeats 16000000 in
theorem kKeyLoop (R : HP) (ob ub zb kb : Nat) (ka : Option Addr) (kl kc : Nat) (m0 n0 : Int) (gv0 lv0 ov : Value) (N1 T1 : List GN) (l1 : List RV) (O : List KO) (B : Nat) (res : List KM) (hO : RS R 7 ov (List.length O) (O.flatMap KO.cells)) (hol : O.length ≤ 1000) (hT1 : Tlk T1 lv0 l1) (hTN1 : T1 = [] → N1 = []) (hN1 : ∀ x ∈ N1, GOk R x) (hbd1 : GBd B ((N1 ++ T1).map GN.m)) (hB : B ≤ 10000) (hrun1 : iRun (m0, n0, (N1 ++ T1).map GN.m) [] O = some res) :
    TriG Try.prog 22 #[(vP (some ⟨ob, 0, none⟩)), (vP (some ⟨ub, 0, none⟩)), (vP (some ⟨zb, 0, none⟩))] R [cl ob 22 [ov], cl ub 24 [(vS none 0 0)], cl zb 55 [(vP (some ⟨kb, 0, none⟩))], cl kb 104 [(vS ka kl kc), (vI .i64 m0), (vI .i64 n0), gv0], sl 106 4 gv0 (List.length (N1 ++ T1)) ((N1 ++ T1).flatMap GN.cells), sl 58 2 lv0 (List.length l1) (l1.flatMap RV.cells)] (fun R' v__ post__ => ∃ (av : Value) (A : List KA), v__ = (vT #[]) ∧ post__ = [cl ub 24 [av]] ∧ (RS R' 10 av (List.length A) (A.flatMap KA.cells)) ∧ (∀ x ∈ A, KOk R' x) ∧ (A.map KA.m = res)) := by
 refine TriG.into (n := 19) (al := [(vP (some ⟨ob, 0, none⟩)), (vP (some ⟨ub, 0, none⟩)), (vP (some ⟨zb, 0, none⟩))]) Try.func22 rfl Try.ntmps22 rfl rfl fun w F H => ?_
 refine C_seq (fun K1_ hK1_ => C_reg ?_)
 refine sv (v := (vI .i64 0)) (x_assign rfl) ?_
 refine wpList_nil (X_then (hK1_ _ _ ?_))
 clear hK1_
 refine C_block ?_
 have H2_ : Holds w (sl 43 10 (vS none 0 0) (List.length ([] : List KA)) (([] : List KA).flatMap KA.cells) :: ro R :: cl ob 22 [ov] :: cl ub 24 [(vS none 0 0)] :: cl zb 55 [(vP (some ⟨kb, 0, none⟩))] :: cl kb 104 [(vS ka kl kc), (vI .i64 m0), (vI .i64 n0), gv0] :: sl 106 4 gv0 (List.length (N1 ++ T1)) ((N1 ++ T1).flatMap GN.cells) :: sl 58 2 lv0 (List.length l1) (l1.flatMap RV.cells) :: F) := Holds.add_nil H 43 10
 have H3_ := Holds.recl H2_ 3 rfl ((lcons (rfl : (vS none 0 0) = ((vS none 0 0))) rfl) : [(vS none 0 0)] = [((vS none 0 0))])
 refine C_loop (γ := HP × Nat × Int × Int × Value × Value × Value × (List GN) × (List GN) × (List RV) × (List KA)) (fun x__ a__ w1__ => match x__ with | ⟨R1, k, m, n, gv, lv, av, N0, T, ll, A⟩ => ∃ h : Env, a__ = mkA 19 (upd (upd (upd (upd h 0 (vP (some ⟨ob, 0, none⟩))) 1 (vP (some ⟨ub, 0, none⟩))) 2 (vP (some ⟨zb, 0, none⟩))) 3 (vI .i64 (k : Int))) [] ∧ Holds w1__ (sl 43 10 av (List.length A) (A.flatMap KA.cells) :: ro R1 :: cl ob 22 [ov] :: cl ub 24 [av] :: cl zb 55 [(vP (some ⟨kb, 0, none⟩))] :: cl kb 104 [(vS ka kl kc), (vI .i64 m), (vI .i64 n), gv] :: sl 106 4 gv (List.length (N0 ++ T)) ((N0 ++ T).flatMap GN.cells) :: sl 58 2 lv (List.length ll) (ll.flatMap RV.cells) :: F) ∧ Same w w1__ ∧ (Sub R R1) ∧ (k ≤ O.length) ∧ (Tlk T lv ll) ∧ (T = [] → N0 = []) ∧ (∀ x ∈ N0, GOk R1 x) ∧ (GBd (B + k) ((N0 ++ T).map GN.m)) ∧ (∀ x ∈ A, KOk R1 x) ∧ (A.length = k) ∧ (iRun (m, n, (N0 ++ T).map GN.m) (A.map KA.m) (O.drop k) = some res)) (fun x__ => match x__ with | ⟨R1, k, m, n, gv, lv, av, N0, T, ll, A⟩ => O.length - k) (⟨R, 0, m0, n0, gv0, lv0, (vS none 0 0), N1, T1, l1, ([] : List KA)⟩) ⟨_, congrArg (fun e => mkA 19 e []) (ch (ch (ch (ch rfl rfl) rfl) rfl) (congrArg (vI .i64) ((by first | rfl | omega | (simp; done) | (simp; omega)) : 0 = (0 : Int)))), H3_, (Same.refl w), (Sub.rfl' _), (by first | assumption | omega | exact rfl), (hT1), (hTN1), (hN1), (hbd1), (fun x hx => by cases hx), (rfl), (hrun1)⟩ ?_
 rintro ⟨R1, k, m, n, gv, lv, av, N0, T, ll, A⟩ _ w4_ ⟨h, rfl, H5_, S6_, hsR1, hk, hT, hTN, hN, hbd, hA, hAk, hrun⟩
 refine C_seq (fun K7_ hK7_ => ?_)
 refine C_seq (fun K8_ hK8_ => C_reg ?_)
 refine sv (v := (vI .i64 (k : Int))) (x_move rfl) ?_
 refine sv (v := ov) (x_load1 rfl Try.underlying22 rfl ((Holds.rd H5_ 2 rfl) 0 ov rfl)) ?_
 refine sv (v := (vI .i64 ((List.length O) : Int))) (x_lenRS rfl (RS.mono hO hsR1) Try.underlying22) ?_
 refine sv (v := (vB (decide ((k : Int) < ((List.length O) : Int))))) (x_bin rfl rfl rfl) ?_
 refine wpList_nil (X_then (hK8_ _ _ ?_))
 clear hK8_
 refine C_cond (b := decide ((k : Int) < ((List.length O) : Int))) rfl (fun c9_t => ?_) (fun c9_f => ?_)
 ·have c9_tp : (k : Int) < ((List.length O) : Int) := of_decide_eq_true c9_t
  refine C_skip (X_then (hK7_ _ _ ?_))
  clear hK7_
  refine C_seq (fun K10_ hK10_ => ?_)
  refine C_block ?_
  refine A_start (S := fun w => Rd ob [ov] w ∧ Rd zb [(vP (some ⟨kb, 0, none⟩))] w ∧ Sub R1 (hp w)) (N := 10) foll rfl rfl ?_
  have H11_ := Holds.drew_ H5_
  have hq12_ := And.intro (Holds.rd H11_ 2 rfl) (And.intro (Holds.rd H11_ 4 rfl) ((Holds.ro_at H11_ 1 rfl)))
  refine A_tk 1 (v := (vA #[(vP (some ⟨kb, 0, none⟩))])) rfl (by kernel_rfl) (fun w hS => x_loadN (vs := [(vP (some ⟨kb, 0, none⟩))]) rfl Try.underlying55 rfl z55 rfl (Rd.cells hS.2.1 0 rfl)) hq12_ ?_
  refine A_tk 2 (v := ov) rfl (by kernel_rfl) (fun w hS => x_load1 rfl Try.underlying22 rfl (hS.1 0 ov rfl)) hq12_ ?_
  refine A_tk 3 (v := (vI .i64 (k : Int))) rfl (by kernel_rfl) (fun w hS => x_move rfl) hq12_ ?_
  obtain ⟨x13_, hx14_, hm15_⟩ := elem_at O k (by omega)
  refine A_tk 4 (v := (vP (some ⟨(sb ov), so ov + (k * 7 + 0), none⟩))) rfl (by kernel_rfl) (fun w hS => x_idxRS (v := ov) rfl (RS.mono hO hsR1) rfl Try.underlying22 z39 (by omega) (by omega) (by omega : _ = k) rfl) hq12_ ?_
  refine A_tk 5 (v := (vA #[(vI .i64 x13_.kind), (vI .i64 x13_.rev_Main), (vI .i64 x13_.rev_Sub), (vI .i64 x13_.created_Main), (vI .i64 x13_.created_Sub), (vI .i64 x13_.ver), (vI .i64 x13_.at_)])) rfl (by kernel_rfl) (fun w hS => x_loadN (vs := [(vI .i64 x13_.kind), (vI .i64 x13_.rev_Main), (vI .i64 x13_.rev_Sub), (vI .i64 x13_.created_Main), (vI .i64 x13_.created_Sub), (vI .i64 x13_.ver), (vI .i64 x13_.at_)]) rfl Try.underlying39 rfl z39 rfl (RC.cells (RS.rc (RS.mono hO hsR1)) hS.2.2 (k * 7 + 0) (fm_cells KO.len hx14_ (i := 0) rfl))) hq12_ ?_
  refine A_ready (i := 0) (rs := [6]) (by kernel_rfl) ?_
  refine AllR.cons ?_ ?_
  ·skip
   refine A_op (ls' := #[true, true, true, true, true, true, false, false, false, false]) rfl (by kernel_rfl) (T_val (v := av) (x_load1 rfl Try.underlying24 rfl ((Holds.rd H11_ 3 rfl) 0 av rfl)) ?_)
   refine ⟨⟨Holds.rd H11_ 2 rfl, Holds.rd H11_ 4 rfl, (Holds.ro_at H11_ 1 rfl)⟩, ?_⟩
   refine A_ready (i := 6) (rs := []) (by kernel_rfl) ?_
   refine AllR.cons ?_ AllR.nil
   obtain ⟨s1_, a1_, hd_, hr_⟩ := iRun_step hrun hx14_
   have hbd3_ := iDo_bd hbd hd_
   have H42_ := ((Holds.bring (Holds.bring (Holds.bring (Holds.bring H11_ 7 rfl) 7 rfl) 7 rfl) 4 rfl) :)
   refine A_op (ls' := #[true, true, true, true, true, true, true, false, false, false]) rfl (by kernel_rfl) (T_callG (al := [(vA #[(vP (some ⟨kb, 0, none⟩))]), (vA #[(vI .i64 x13_.kind), (vI .i64 x13_.rev_Main), (vI .i64 x13_.rev_Sub), (vI .i64 x13_.created_Main), (vI .i64 x13_.created_Sub), (vI .i64 x13_.ver), (vI .i64 x13_.at_)])]) (pre := [cl kb 104 [(vS ka kl kc), (vI .i64 m), (vI .i64 n), gv], sl 106 4 gv (List.length (N0 ++ T)) ((N0 ++ T).flatMap GN.cells), sl 58 2 lv (List.length ll) (ll.flatMap RV.cells)]) rfl rfl cb23 (kKeyed R1 kb ka kl kc m n gv lv N0 T ll x13_ (B + k) s1_ a1_ (by first | assumption | omega) (by first | assumption | omega) (hN) (by first | assumption | omega) (by omega) (hd_)) H42_ ?_)
   rintro R17_ v18_ p46_ w43_ hs16_ ⟨gv19_, lv20_, N021_, T22_, ll23_, xo24_, x125_, x226_, x327_, x428_, x529_, xr30_, xm31_, xn32_, xg33_, rl34_, gl35_, rfl, rfl, he36_, he37_, he38_, he39_, he40_, he41_⟩ S45_ H44_
   have S47_ := Same.trans (Same.trans S6_ (Same.drew _)) S45_
   have hz_R_R17_ := Sub.trans' hsR1 hs16_
   refine ⟨⟨Holds.rd H44_ 5 rfl, Holds.rd H44_ 7 rfl, (Sub.trans' hs16_ (Holds.ro_at H44_ 0 rfl))⟩, ?_⟩
   refine A_ready (i := 7) (rs := []) (by kernel_rfl) ?_
   refine AllR.cons ?_ AllR.nil
   refine A_op (ls' := #[true, true, true, true, true, true, true, true, false, false]) rfl (by kernel_rfl) (T_new (obj := .cells #[(vB xo24_), (vI .i64 x125_), (vI .i64 x226_), (vI .i64 x327_), (vI .i64 x428_), (vI .i64 x529_), xr30_, (vI .i64 xm31_), (vI .i64 xn32_), xg33_] 43) (f := fun b__ => .slice (some ⟨b__, 0, none⟩) 1 1) (A := fun b__ => cl b__ 43 [(vB xo24_), (vI .i64 x125_), (vI .i64 x226_), (vI .i64 x327_), (vI .i64 x428_), (vI .i64 x529_), xr30_, (vI .i64 xm31_), (vI .i64 xn32_), xg33_]) (by kernel_rfl) (fun l h => h.alloc _ _) H44_ ?_)
   intro b48_ w49_ S51_ H50_
   have S52_ := Same.trans S47_ S51_
   refine ⟨⟨Holds.rd H50_ 6 rfl, Holds.rd H50_ 8 rfl, (Sub.trans' hs16_ (Holds.ro_at H50_ 1 rfl))⟩, ?_⟩
   refine A_ready (i := 8) (rs := []) (by kernel_rfl) ?_
   refine AllR.cons ?_ AllR.nil
   refine A_op (ls' := #[true, true, true, true, true, true, true, true, true, false]) rfl (by kernel_rfl) (T_append rfl rfl Try.underlying24 z43 rfl (by decide) H50_ 5 rfl (Holds.cl_src H50_ 0 rfl Try.underlying24 (List.forall_mem_cons.2 ⟨rfl, (List.forall_mem_cons.2 ⟨rfl, (List.forall_mem_cons.2 ⟨rfl, (List.forall_mem_cons.2 ⟨rfl, (List.forall_mem_cons.2 ⟨rfl, (List.forall_mem_cons.2 ⟨rfl, (List.forall_mem_cons.2 ⟨(RS.one he40_.1), (List.forall_mem_cons.2 ⟨rfl, (List.forall_mem_cons.2 ⟨rfl, (List.forall_mem_cons.2 ⟨(RS.one he40_.2.1), (fun _ h__ => by cases h__)⟩)⟩)⟩)⟩)⟩)⟩)⟩)⟩)⟩)⟩) rfl) (by omega) ?_)
   intro v53_ w54_ S56_ H55_
   have S57_ := Same.trans S52_ S56_
   refine ⟨⟨Holds.rd H55_ 6 rfl, Holds.rd H55_ 8 rfl, (Sub.trans' hs16_ (Holds.ro_at H55_ 1 rfl))⟩, ?_⟩
   refine A_ready (i := 9) (rs := []) (by kernel_rfl) ?_
   refine AllR.cons ?_ AllR.nil
   refine A_op0 (ls' := #[true, true, true, true, true, true, true, true, true, true]) rfl (by kernel_rfl) (T_store1 (v := v53_) rfl rfl z24 (Holds.sl_one H55_ 5 rfl) H55_ 7 rfl (Nat.le_of_ble_eq_true (by rfl)) ?_)
   intro w58_ S60_ H59_
   have S61_ := Same.trans S57_ S60_
   refine ⟨⟨Holds.rd H59_ 6 rfl, Holds.rd H59_ 8 rfl, (Sub.trans' hs16_ (Holds.ro_at H59_ 1 rfl))⟩, ?_⟩
   refine A_done (by kernel_rfl) ?_
   refine (X_blkN (X_then (hK10_ _ _ ?_)))
   clear hK10_
   refine C_reg ?_
   refine sv (v := (vI .i64 (k : Int))) (x_move rfl) ?_
   refine sv (v := (vI .i64 ((k : Int) + 1))) (x_bin rfl rfl (ib_add (IntWalk.i64_in _ (by omega)))) ?_
   refine sv (v := (vI .i64 ((k : Int) + 1))) (x_assign rfl) ?_
   refine wpList_nil (X_then ?_)
   have H62_ := Holds.resl H59_ 5 rfl (by simp [KA.cells] : (A.flatMap KA.cells) ++ [(vB xo24_), (vI .i64 x125_), (vI .i64 x226_), (vI .i64 x327_), (vI .i64 x428_), (vI .i64 x529_), xr30_, (vI .i64 xm31_), (vI .i64 xn32_), xg33_] = (A ++ [(⟨xo24_, x125_, x226_, x327_, x428_, x529_, xr30_, xm31_, xn32_, xg33_, rl34_, gl35_⟩ : KA)]).flatMap KA.cells) (by simp : (List.length A) + 1 = (List.length (A ++ [(⟨xo24_, x125_, x226_, x327_, x428_, x529_, xr30_, xm31_, xn32_, xg33_, rl34_, gl35_⟩ : KA)])))
   have H63_ : Holds w58_ (sl 43 10 v53_ (List.length (A ++ [(⟨xo24_, x125_, x226_, x327_, x428_, x529_, xr30_, xm31_, xn32_, xg33_, rl34_, gl35_⟩ : KA)])) ((A ++ [(⟨xo24_, x125_, x226_, x327_, x428_, x529_, xr30_, xm31_, xn32_, xg33_, rl34_, gl35_⟩ : KA)]).flatMap KA.cells) :: ro R17_ :: cl ob 22 [ov] :: cl ub 24 [v53_] :: cl zb 55 [(vP (some ⟨kb, 0, none⟩))] :: cl kb 104 [(vS ka kl kc), (vI .i64 s1_.1), (vI .i64 s1_.2.1), gv19_] :: sl 106 4 gv19_ (List.length (N021_ ++ T22_)) ((N021_ ++ T22_).flatMap GN.cells) :: sl 58 2 lv20_ (List.length ll23_) (ll23_.flatMap RV.cells) :: F) := (Holds.pkF H62_ [5, 1, 4, 4, 4, 1, 1, 1] 1 :)
   exact ⟨⟨R17_, k + 1, s1_.1, s1_.2.1, gv19_, lv20_, v53_, N021_, T22_, ll23_, (A ++ [(⟨xo24_, x125_, x226_, x327_, x428_, x529_, xr30_, xm31_, xn32_, xg33_, rl34_, gl35_⟩ : KA)])⟩, ⟨_, congrArg (fun e => mkA 19 e []) (ch (ch (ch (ch rfl rfl) rfl) rfl) (congrArg (vI .i64) ((by first | rfl | omega | (simp; done) | (simp; omega)) : (k : Int) + 1 = ((k + 1 : Nat) : Int)))), H63_, S61_, (hz_R_R17_), (by first | assumption | omega | exact rfl), (he37_), (he38_), (he39_), (by rw [he36_]; exact hbd3_), (all_snoc (fun x hx => (hA x hx).mono hs16_) he40_), (by simp; omega), (by rw [he36_, List.map_append, List.map_singleton, he41_]; exact hr_)⟩, by first | omega | (dsimp only; omega) | (simp; omega)⟩
  refine AllR.cons ?_ AllR.nil
  obtain ⟨s1_, a1_, hd_, hr_⟩ := iRun_step hrun hx14_
  have hbd3_ := iDo_bd hbd hd_
  have H90_ := ((Holds.bring (Holds.bring (Holds.bring (Holds.bring H11_ 7 rfl) 7 rfl) 7 rfl) 4 rfl) :)
  refine A_op (ls' := #[false, true, true, true, true, true, true, false, false, false]) rfl (by kernel_rfl) (T_callG (al := [(vA #[(vP (some ⟨kb, 0, none⟩))]), (vA #[(vI .i64 x13_.kind), (vI .i64 x13_.rev_Main), (vI .i64 x13_.rev_Sub), (vI .i64 x13_.created_Main), (vI .i64 x13_.created_Sub), (vI .i64 x13_.ver), (vI .i64 x13_.at_)])]) (pre := [cl kb 104 [(vS ka kl kc), (vI .i64 m), (vI .i64 n), gv], sl 106 4 gv (List.length (N0 ++ T)) ((N0 ++ T).flatMap GN.cells), sl 58 2 lv (List.length ll) (ll.flatMap RV.cells)]) rfl rfl cb23 (kKeyed R1 kb ka kl kc m n gv lv N0 T ll x13_ (B + k) s1_ a1_ (by first | assumption | omega) (by first | assumption | omega) (hN) (by first | assumption | omega) (by omega) (hd_)) H90_ ?_)
  rintro R65_ v66_ p94_ w91_ hs64_ ⟨gv67_, lv68_, N069_, T70_, ll71_, xo72_, x173_, x274_, x375_, x476_, x577_, xr78_, xm79_, xn80_, xg81_, rl82_, gl83_, rfl, rfl, he84_, he85_, he86_, he87_, he88_, he89_⟩ S93_ H92_
  have S95_ := Same.trans (Same.trans S6_ (Same.drew _)) S93_
  have hz_R_R65_ := Sub.trans' hsR1 hs64_
  refine ⟨⟨Holds.rd H92_ 5 rfl, Holds.rd H92_ 7 rfl, (Sub.trans' hs64_ (Holds.ro_at H92_ 0 rfl))⟩, ?_⟩
  refine A_ready (i := 0) (rs := [7]) (by kernel_rfl) ?_
  refine AllR.cons ?_ ?_
  ·skip
   refine A_op (ls' := #[true, true, true, true, true, true, true, false, false, false]) rfl (by kernel_rfl) (T_val (v := av) (x_load1 rfl Try.underlying24 rfl ((Holds.rd H92_ 6 rfl) 0 av rfl)) ?_)
   refine ⟨⟨Holds.rd H92_ 5 rfl, Holds.rd H92_ 7 rfl, (Sub.trans' hs64_ (Holds.ro_at H92_ 0 rfl))⟩, ?_⟩
   refine A_ready (i := 7) (rs := []) (by kernel_rfl) ?_
   refine AllR.cons ?_ AllR.nil
   refine A_op (ls' := #[true, true, true, true, true, true, true, true, false, false]) rfl (by kernel_rfl) (T_new (obj := .cells #[(vB xo72_), (vI .i64 x173_), (vI .i64 x274_), (vI .i64 x375_), (vI .i64 x476_), (vI .i64 x577_), xr78_, (vI .i64 xm79_), (vI .i64 xn80_), xg81_] 43) (f := fun b__ => .slice (some ⟨b__, 0, none⟩) 1 1) (A := fun b__ => cl b__ 43 [(vB xo72_), (vI .i64 x173_), (vI .i64 x274_), (vI .i64 x375_), (vI .i64 x476_), (vI .i64 x577_), xr78_, (vI .i64 xm79_), (vI .i64 xn80_), xg81_]) (by kernel_rfl) (fun l h => h.alloc _ _) H92_ ?_)
   intro b96_ w97_ S99_ H98_
   have S100_ := Same.trans S95_ S99_
   refine ⟨⟨Holds.rd H98_ 6 rfl, Holds.rd H98_ 8 rfl, (Sub.trans' hs64_ (Holds.ro_at H98_ 1 rfl))⟩, ?_⟩
   refine A_ready (i := 8) (rs := []) (by kernel_rfl) ?_
   refine AllR.cons ?_ AllR.nil
   refine A_op (ls' := #[true, true, true, true, true, true, true, true, true, false]) rfl (by kernel_rfl) (T_append rfl rfl Try.underlying24 z43 rfl (by decide) H98_ 5 rfl (Holds.cl_src H98_ 0 rfl Try.underlying24 (List.forall_mem_cons.2 ⟨rfl, (List.forall_mem_cons.2 ⟨rfl, (List.forall_mem_cons.2 ⟨rfl, (List.forall_mem_cons.2 ⟨rfl, (List.forall_mem_cons.2 ⟨rfl, (List.forall_mem_cons.2 ⟨rfl, (List.forall_mem_cons.2 ⟨(RS.one he88_.1), (List.forall_mem_cons.2 ⟨rfl, (List.forall_mem_cons.2 ⟨rfl, (List.forall_mem_cons.2 ⟨(RS.one he88_.2.1), (fun _ h__ => by cases h__)⟩)⟩)⟩)⟩)⟩)⟩)⟩)⟩)⟩)⟩) rfl) (by omega) ?_)
   intro v101_ w102_ S104_ H103_
   have S105_ := Same.trans S100_ S104_
   refine ⟨⟨Holds.rd H103_ 6 rfl, Holds.rd H103_ 8 rfl, (Sub.trans' hs64_ (Holds.ro_at H103_ 1 rfl))⟩, ?_⟩
   refine A_ready (i := 9) (rs := []) (by kernel_rfl) ?_
   refine AllR.cons ?_ AllR.nil
   refine A_op0 (ls' := #[true, true, true, true, true, true, true, true, true, true]) rfl (by kernel_rfl) (T_store1 (v := v101_) rfl rfl z24 (Holds.sl_one H103_ 5 rfl) H103_ 7 rfl (Nat.le_of_ble_eq_true (by rfl)) ?_)
   intro w106_ S108_ H107_
   have S109_ := Same.trans S105_ S108_
   refine ⟨⟨Holds.rd H107_ 6 rfl, Holds.rd H107_ 8 rfl, (Sub.trans' hs64_ (Holds.ro_at H107_ 1 rfl))⟩, ?_⟩
   refine A_done (by kernel_rfl) ?_
   refine (X_blkN (X_then (hK10_ _ _ ?_)))
   clear hK10_
   refine C_reg ?_
   refine sv (v := (vI .i64 (k : Int))) (x_move rfl) ?_
   refine sv (v := (vI .i64 ((k : Int) + 1))) (x_bin rfl rfl (ib_add (IntWalk.i64_in _ (by omega)))) ?_
   refine sv (v := (vI .i64 ((k : Int) + 1))) (x_assign rfl) ?_
   refine wpList_nil (X_then ?_)
   have H110_ := Holds.resl H107_ 5 rfl (by simp [KA.cells] : (A.flatMap KA.cells) ++ [(vB xo72_), (vI .i64 x173_), (vI .i64 x274_), (vI .i64 x375_), (vI .i64 x476_), (vI .i64 x577_), xr78_, (vI .i64 xm79_), (vI .i64 xn80_), xg81_] = (A ++ [(⟨xo72_, x173_, x274_, x375_, x476_, x577_, xr78_, xm79_, xn80_, xg81_, rl82_, gl83_⟩ : KA)]).flatMap KA.cells) (by simp : (List.length A) + 1 = (List.length (A ++ [(⟨xo72_, x173_, x274_, x375_, x476_, x577_, xr78_, xm79_, xn80_, xg81_, rl82_, gl83_⟩ : KA)])))
   have H111_ : Holds w106_ (sl 43 10 v101_ (List.length (A ++ [(⟨xo72_, x173_, x274_, x375_, x476_, x577_, xr78_, xm79_, xn80_, xg81_, rl82_, gl83_⟩ : KA)])) ((A ++ [(⟨xo72_, x173_, x274_, x375_, x476_, x577_, xr78_, xm79_, xn80_, xg81_, rl82_, gl83_⟩ : KA)]).flatMap KA.cells) :: ro R65_ :: cl ob 22 [ov] :: cl ub 24 [v101_] :: cl zb 55 [(vP (some ⟨kb, 0, none⟩))] :: cl kb 104 [(vS ka kl kc), (vI .i64 s1_.1), (vI .i64 s1_.2.1), gv67_] :: sl 106 4 gv67_ (List.length (N069_ ++ T70_)) ((N069_ ++ T70_).flatMap GN.cells) :: sl 58 2 lv68_ (List.length ll71_) (ll71_.flatMap RV.cells) :: F) := (Holds.pkF H110_ [5, 1, 4, 4, 4, 1, 1, 1] 1 :)
   exact ⟨⟨R65_, k + 1, s1_.1, s1_.2.1, gv67_, lv68_, v101_, N069_, T70_, ll71_, (A ++ [(⟨xo72_, x173_, x274_, x375_, x476_, x577_, xr78_, xm79_, xn80_, xg81_, rl82_, gl83_⟩ : KA)])⟩, ⟨_, congrArg (fun e => mkA 19 e []) (ch (ch (ch (ch rfl rfl) rfl) rfl) (congrArg (vI .i64) ((by first | rfl | omega | (simp; done) | (simp; omega)) : (k : Int) + 1 = ((k + 1 : Nat) : Int)))), H111_, S109_, (hz_R_R65_), (by first | assumption | omega | exact rfl), (he85_), (he86_), (he87_), (by rw [he84_]; exact hbd3_), (all_snoc (fun x hx => (hA x hx).mono hs64_) he88_), (by simp; omega), (by rw [he84_, List.map_append, List.map_singleton, he89_]; exact hr_)⟩, by first | omega | (dsimp only; omega) | (simp; omega)⟩
  refine AllR.cons ?_ AllR.nil
  refine A_op (ls' := #[false, true, true, true, true, true, true, true, false, false]) rfl (by kernel_rfl) (T_new (obj := .cells #[(vB xo72_), (vI .i64 x173_), (vI .i64 x274_), (vI .i64 x375_), (vI .i64 x476_), (vI .i64 x577_), xr78_, (vI .i64 xm79_), (vI .i64 xn80_), xg81_] 43) (f := fun b__ => .slice (some ⟨b__, 0, none⟩) 1 1) (A := fun b__ => cl b__ 43 [(vB xo72_), (vI .i64 x173_), (vI .i64 x274_), (vI .i64 x375_), (vI .i64 x476_), (vI .i64 x577_), xr78_, (vI .i64 xm79_), (vI .i64 xn80_), xg81_]) (by kernel_rfl) (fun l h => h.alloc _ _) H92_ ?_)
  intro b112_ w113_ S115_ H114_
  have S116_ := Same.trans S95_ S115_
  refine ⟨⟨Holds.rd H114_ 6 rfl, Holds.rd H114_ 8 rfl, (Sub.trans' hs64_ (Holds.ro_at H114_ 1 rfl))⟩, ?_⟩
  refine A_ready (i := 0) (rs := []) (by kernel_rfl) ?_
  refine AllR.cons ?_ AllR.nil
  refine A_op (ls' := #[true, true, true, true, true, true, true, true, false, false]) rfl (by kernel_rfl) (T_val (v := av) (x_load1 rfl Try.underlying24 rfl ((Holds.rd H114_ 7 rfl) 0 av rfl)) ?_)
  refine ⟨⟨Holds.rd H114_ 6 rfl, Holds.rd H114_ 8 rfl, (Sub.trans' hs64_ (Holds.ro_at H114_ 1 rfl))⟩, ?_⟩
  refine A_ready (i := 8) (rs := []) (by kernel_rfl) ?_
  refine AllR.cons ?_ AllR.nil
  refine A_op (ls' := #[true, true, true, true, true, true, true, true, true, false]) rfl (by kernel_rfl) (T_append rfl rfl Try.underlying24 z43 rfl (by decide) H114_ 5 rfl (Holds.cl_src H114_ 0 rfl Try.underlying24 (List.forall_mem_cons.2 ⟨rfl, (List.forall_mem_cons.2 ⟨rfl, (List.forall_mem_cons.2 ⟨rfl, (List.forall_mem_cons.2 ⟨rfl, (List.forall_mem_cons.2 ⟨rfl, (List.forall_mem_cons.2 ⟨rfl, (List.forall_mem_cons.2 ⟨(RS.one he88_.1), (List.forall_mem_cons.2 ⟨rfl, (List.forall_mem_cons.2 ⟨rfl, (List.forall_mem_cons.2 ⟨(RS.one he88_.2.1), (fun _ h__ => by cases h__)⟩)⟩)⟩)⟩)⟩)⟩)⟩)⟩)⟩)⟩) rfl) (by omega) ?_)
  intro v117_ w118_ S120_ H119_
  have S121_ := Same.trans S116_ S120_
  refine ⟨⟨Holds.rd H119_ 6 rfl, Holds.rd H119_ 8 rfl, (Sub.trans' hs64_ (Holds.ro_at H119_ 1 rfl))⟩, ?_⟩
  refine A_ready (i := 9) (rs := []) (by kernel_rfl) ?_
  refine AllR.cons ?_ AllR.nil
  refine A_op0 (ls' := #[true, true, true, true, true, true, true, true, true, true]) rfl (by kernel_rfl) (T_store1 (v := v117_) rfl rfl z24 (Holds.sl_one H119_ 5 rfl) H119_ 7 rfl (Nat.le_of_ble_eq_true (by rfl)) ?_)
  intro w122_ S124_ H123_
  have S125_ := Same.trans S121_ S124_
  refine ⟨⟨Holds.rd H123_ 6 rfl, Holds.rd H123_ 8 rfl, (Sub.trans' hs64_ (Holds.ro_at H123_ 1 rfl))⟩, ?_⟩
  refine A_done (by kernel_rfl) ?_
  refine (X_blkN (X_then (hK10_ _ _ ?_)))
  clear hK10_
  refine C_reg ?_
  refine sv (v := (vI .i64 (k : Int))) (x_move rfl) ?_
  refine sv (v := (vI .i64 ((k : Int) + 1))) (x_bin rfl rfl (ib_add (IntWalk.i64_in _ (by omega)))) ?_
  refine sv (v := (vI .i64 ((k : Int) + 1))) (x_assign rfl) ?_
  refine wpList_nil (X_then ?_)
  have H126_ := Holds.resl H123_ 5 rfl (by simp [KA.cells] : (A.flatMap KA.cells) ++ [(vB xo72_), (vI .i64 x173_), (vI .i64 x274_), (vI .i64 x375_), (vI .i64 x476_), (vI .i64 x577_), xr78_, (vI .i64 xm79_), (vI .i64 xn80_), xg81_] = (A ++ [(⟨xo72_, x173_, x274_, x375_, x476_, x577_, xr78_, xm79_, xn80_, xg81_, rl82_, gl83_⟩ : KA)]).flatMap KA.cells) (by simp : (List.length A) + 1 = (List.length (A ++ [(⟨xo72_, x173_, x274_, x375_, x476_, x577_, xr78_, xm79_, xn80_, xg81_, rl82_, gl83_⟩ : KA)])))
  have H127_ : Holds w122_ (sl 43 10 v117_ (List.length (A ++ [(⟨xo72_, x173_, x274_, x375_, x476_, x577_, xr78_, xm79_, xn80_, xg81_, rl82_, gl83_⟩ : KA)])) ((A ++ [(⟨xo72_, x173_, x274_, x375_, x476_, x577_, xr78_, xm79_, xn80_, xg81_, rl82_, gl83_⟩ : KA)]).flatMap KA.cells) :: ro R65_ :: cl ob 22 [ov] :: cl ub 24 [v117_] :: cl zb 55 [(vP (some ⟨kb, 0, none⟩))] :: cl kb 104 [(vS ka kl kc), (vI .i64 s1_.1), (vI .i64 s1_.2.1), gv67_] :: sl 106 4 gv67_ (List.length (N069_ ++ T70_)) ((N069_ ++ T70_).flatMap GN.cells) :: sl 58 2 lv68_ (List.length ll71_) (ll71_.flatMap RV.cells) :: F) := (Holds.pkF H126_ [5, 1, 4, 4, 4, 1, 1, 1] 1 :)
  exact ⟨⟨R65_, k + 1, s1_.1, s1_.2.1, gv67_, lv68_, v117_, N069_, T70_, ll71_, (A ++ [(⟨xo72_, x173_, x274_, x375_, x476_, x577_, xr78_, xm79_, xn80_, xg81_, rl82_, gl83_⟩ : KA)])⟩, ⟨_, congrArg (fun e => mkA 19 e []) (ch (ch (ch (ch rfl rfl) rfl) rfl) (congrArg (vI .i64) ((by first | rfl | omega | (simp; done) | (simp; omega)) : (k : Int) + 1 = ((k + 1 : Nat) : Int)))), H127_, S125_, (hz_R_R65_), (by first | assumption | omega | exact rfl), (he85_), (he86_), (he87_), (by rw [he84_]; exact hbd3_), (all_snoc (fun x hx => (hA x hx).mono hs64_) he88_), (by simp; omega), (by rw [he84_, List.map_append, List.map_singleton, he89_]; exact hr_)⟩, by first | omega | (dsimp only; omega) | (simp; omega)⟩
 ·have c9_fp : ¬ ((k : Int) < ((List.length O) : Int)) := of_decide_eq_false c9_f
  refine C_exit (X_thenX (X_thenX (X_blkHit ?_)))
  refine R_0 rfl ?_
  have H128_ := ((Holds.bring H5_ 1 rfl) :)
  obtain ⟨R129_, hs130_, ⟨R131_, ha132_, hs133_⟩, H134_⟩ := Holds.gift H128_
  have hz_R_R129_ := Sub.trans' hsR1 hs130_
  have hr135_ : RS R129_ 10 av (List.length A) (A.flatMap KA.cells) := (sl_RS ha132_ (Sub.rfl' _)).mono hs133_
  have hk3_ : k = O.length := (by omega)
  rw [hk3_, List.drop_length, iRun] at hrun
  have H136_ : Holds w4_ (ro R129_ :: cl ub 24 [av] :: F) := (Holds.pkF H134_ [0, 1] 5 :)
  exact ⟨R129_, _, _, rfl, hz_R_R129_, ⟨av, A, rfl, rfl, (hr135_), (fun x hx => (hA x hx).mono hs130_), (Option.some.inj hrun)⟩, S6_, H136_⟩
end Go.Proofs.Ytiblemgccgbhoaa
set_option linter.unusedVariables false
set_option linter.unusedSimpArgs false
namespace Go.Proofs.Ytiblemgccgbhoaa
open Go Go.RowKit Gw
open Go.Value renaming int → vI, bool → vB, slice → vS, pointer → vP, agg → vA, tuple → vT

set_option maxHeartbeats 8000000 in
theorem kKey (R : HP) (key : ByteArray) (m n : Int) (v : Value) (oa : Option Addr) (ol oc : Nat) (N : List GN) (O : List KO) (B : Nat) (res : List KM) (h1 : RS R 4 v (List.length N) (N.flatMap GN.cells)) (hg1 : ∀ x ∈ N, GOk R x) (hO : RS R 7 (vS oa ol oc) (List.length O) (O.flatMap KO.cells)) (hol : O.length ≤ 1000) (hbd : GBd B (N.map GN.m)) (hB : B ≤ 10000) (hrun : iRun (m, n, N.map GN.m) [] O = some res) :
    TriG Try.prog 8 #[(Value.string key), (vA #[(vI .i64 m), (vI .i64 n), v]), (vS oa ol oc)] R [] (fun R' v__ post__ => ∃ (av : Value) (A : List KA), v__ = (vT #[av, (vB true)]) ∧ post__ = [] ∧ (RS R' 10 av (List.length A) (A.flatMap KA.cells)) ∧ (∀ x ∈ A, KOk R' x) ∧ (A.map KA.m = res)) := by
 refine TriG.into (n := 20) (al := [(Value.string key), (vA #[(vI .i64 m), (vI .i64 n), v]), (vS oa ol oc)]) Try.func8 rfl Try.ntmps8 rfl rfl fun w F H => ?_
 refine C_seq (fun K1_ hK1_ => C_reg ?_)
 refine S_list (T_box (v := (vA #[(vI .i64 m), (vI .i64 n), v])) rfl H ?_)
 intro b2_ w3_ S5_ H4_
 have S6_ := Same.trans (Same.refl w) S5_
 refine S_list (T_box (v := (vS oa ol oc)) rfl H4_ ?_)
 intro b7_ w8_ S10_ H9_
 have S11_ := Same.trans S6_ S10_
 refine sv (v := (vS none 0 0)) (x_assign rfl) ?_
 refine sv (v := (vB false)) (x_assign rfl) ?_
 refine wpList_nil (X_then (hK1_ _ _ ?_))
 clear hK1_
 refine C_seq (fun K12_ hK12_ => C_reg ?_)
 refine sv (v := (Value.string key)) (x_move rfl) ?_
 refine S_list (T_s2b rfl Try.underlying9 Try.underlying57 Try.underlying5 H9_ ?_)
 intro b13_ cp14_ w15_ S17_ hc18_ H16_
 have S19_ := Same.trans S11_ S17_
 have H20_ := Holds.resl H16_ 0 rfl (byteCells_bytesV _ : byteCells key = bytesV (ints key)) rfl
 have H21_ := Holds.resl H20_ 0 rfl (rfl : bytesV (ints key) = bytesV (ints key)) ((ints_length _).symm : key.size = (List.length (ints key)))
 refine sv (v := (vA #[(vI .i64 m), (vI .i64 n), v])) (x_loadN (vs := [(vI .i64 m), (vI .i64 n), v]) rfl Try.underlying34 rfl z34 rfl (Rd.cells (Holds.rd H21_ 2 rfl) 0 rfl)) ?_
 have H30_ := ((Holds.bring H21_ 3 rfl) :)
 refine S_list (T_callG (al := [(vA #[(vI .i64 m), (vI .i64 n), v])]) (pre := []) rfl rfl cb20 (kDumpIn R m n v N h1 (hg1) (by have := hbd.of.1; omega) (hbd.l (by omega))) H30_ ?_)
 rintro R23_ v24_ p34_ w31_ hs22_ ⟨v25_, N26_, rfl, rfl, he27_, he28_, he29_⟩ S33_ H32_
 have S35_ := Same.trans S19_ S33_
 have hdl_ := map_m_len he27_
 have hda_ := map_m_all he27_ (hbd.l (show B ≤ 100000 by omega))
 refine S_list (T_callW (al := [(vS (some ⟨b13_, 0, none⟩) key.size cp14_), (vA #[(vI .i64 m), (vI .i64 n), v25_])]) rfl rfl cb19 (Calls.into (n := 9) (al := [(vS (some ⟨b13_, 0, none⟩) key.size cp14_), (vA #[(vI .i64 m), (vI .i64 n), v25_])]) Try.func19 rfl Try.ntmps19 rfl rfl ?_))
 refine C_seq (fun K36_ hK36_ => C_reg ?_)
 refine S_list (T_box (v := (vA #[(vI .i64 m), (vI .i64 n), v25_])) rfl H32_ ?_)
 intro b37_ w38_ S40_ H39_
 have S41_ := Same.trans S35_ S40_
 refine S_list (T_alloc z55 H39_ ?_)
 intro b42_ w43_ S45_ H44_
 have S46_ := Same.trans S41_ S45_
 refine wpList_nil (X_then (hK36_ _ _ ?_))
 clear hK36_
 refine C_seq (fun K47_ hK47_ => C_reg ?_)
 refine sv (v := (vS (some ⟨b13_, 0, none⟩) key.size cp14_)) (x_move rfl) ?_
 refine sv (v := (vA #[(vI .i64 m), (vI .i64 n), v25_])) (x_loadN (vs := [(vI .i64 m), (vI .i64 n), v25_]) rfl Try.underlying61 rfl z61 rfl (Rd.cells (Holds.rd H44_ 1 rfl) 0 rfl)) ?_
 have H61_ := ((Holds.bring H44_ 2 rfl) :)
 refine S_list (T_callG (al := [(vS (some ⟨b13_, 0, none⟩) key.size cp14_), (vA #[(vI .i64 m), (vI .i64 n), v25_])]) (pre := []) rfl rfl cb32 (kZzIn R23_ (some ⟨b13_, 0, none⟩) key.size cp14_ m n v25_ N26_ he28_ (he29_) (by have := hbd.of.1; omega) (hda_)) H61_ ?_)
 rintro R49_ v50_ p65_ w62_ hs48_ ⟨kb51_, gv52_, lv53_, N054_, T55_, ll56_, rfl, rfl, he57_, he58_, he59_, he60_⟩ S64_ H63_
 have S66_ := Same.trans S46_ S64_
 have hz_R_R49_ := Sub.trans' hs22_ hs48_
 have hm3_ := he57_.trans he27_
 refine sv (v := (vA #[(vP (some ⟨kb51_, 0, none⟩))])) (by kernel_rfl) ?_
 refine S_list0 (T_storeN (vs := [(vP (some ⟨kb51_, 0, none⟩))]) rfl rfl z55 rfl (by simp [Value.oneCell']) H63_ 4 rfl (Nat.le_of_ble_eq_true (by rfl)) ?_)
 intro w67_ S69_ H68_
 have S70_ := Same.trans S66_ S69_
 refine wpList_nil (X_then (hK47_ _ _ ?_))
 clear hK47_
 refine C_ret ?_
 refine R_any (v := (vA #[(vP (some ⟨kb51_, 0, none⟩))])) (run_results1 rfl ⟨_, rfl, load_resN Try.underlying55 rfl z55 rfl (vs := [(vP (some ⟨kb51_, 0, none⟩))]) (Holds.cl_cells H68_ 4 rfl 0 rfl)⟩) ⟨_, rfl, ?_⟩
 refine S_list (T_alloc z55 H68_ ?_)
 intro b71_ w72_ S74_ H73_
 have S75_ := Same.trans S70_ S74_
 refine S_list0 (T_storeN (vs := [(vP (some ⟨kb51_, 0, none⟩))]) rfl rfl z55 rfl (by simp [Value.oneCell']) H73_ 0 rfl (Nat.le_of_ble_eq_true (by rfl)) ?_)
 intro w76_ S78_ H77_
 have S79_ := Same.trans S75_ S78_
 refine wpList_nil (X_then (hK12_ _ _ ?_))
 clear hK12_
 refine C_seq (fun K80_ hK80_ => C_reg ?_)
 refine S_list (T_alloc z24 H77_ ?_)
 intro b81_ w82_ S84_ H83_
 have S85_ := Same.trans S79_ S84_
 refine wpList_nil (X_then (hK80_ _ _ ?_))
 clear hK80_
 refine C_seq (fun K86_ hK86_ => C_reg ?_)
 refine sv (v := (Value.func (.func 22) #[] #[(vP (some ⟨b7_, 0, none⟩)), (vP (some ⟨b81_, 0, none⟩)), (vP (some ⟨b71_, 0, none⟩))])) (by kernel_rfl) ?_
 have H87_ := Holds.recl H83_ 9 rfl ((lcons (rfl : (vS oa ol oc) = ((vS oa ol oc))) rfl) : [(vS oa ol oc)] = [((vS oa ol oc))])
 have H96_ := ((Holds.bring (Holds.bring (Holds.bring (Holds.bring (Holds.bring (Holds.bring (Holds.bring H87_ 5 rfl) 5 rfl) 5 rfl) 4 rfl) 4 rfl) 9 rfl) 6 rfl) :)
 refine S_list (T_callG (al := [(Value.func (.func 22) #[] #[(vP (some ⟨b7_, 0, none⟩)), (vP (some ⟨b81_, 0, none⟩)), (vP (some ⟨b71_, 0, none⟩))])]) (pre := [cl b7_ 22 [((vS oa ol oc))], cl b81_ 24 [(vS none 0 0)], cl b71_ 55 [(vP (some ⟨kb51_, 0, none⟩))], cl kb51_ 104 [(vS (some ⟨b13_, 0, none⟩) key.size cp14_), (vI .i64 m), (vI .i64 n), gv52_], sl 106 4 gv52_ (List.length (N054_ ++ T55_)) ((N054_ ++ T55_).flatMap GN.cells), sl 58 2 lv53_ (List.length ll56_) (ll56_.flatMap RV.cells)]) rfl rfl cb21 (fine_retG 22 [(vP (some ⟨b7_, 0, none⟩)), (vP (some ⟨b81_, 0, none⟩)), (vP (some ⟨b71_, 0, none⟩))] R49_ [cl b7_ 22 [((vS oa ol oc))], cl b81_ 24 [(vS none 0 0)], cl b71_ 55 [(vP (some ⟨kb51_, 0, none⟩))], cl kb51_ 104 [(vS (some ⟨b13_, 0, none⟩) key.size cp14_), (vI .i64 m), (vI .i64 n), gv52_], sl 106 4 gv52_ (List.length (N054_ ++ T55_)) ((N054_ ++ T55_).flatMap GN.cells), sl 58 2 lv53_ (List.length ll56_) (ll56_.flatMap RV.cells)] _ cb22 (kKeyLoop R49_ b7_ b81_ b71_ kb51_ (some ⟨b13_, 0, none⟩) key.size cp14_ m n gv52_ lv53_ (vS oa ol oc) N054_ T55_ ll56_ O B res (RS.mono hO hz_R_R49_) (by first | assumption | omega) (he59_) (he60_) (he58_) (by rw [hm3_]; exact hbd) (by first | assumption | omega) (by rw [hm3_]; exact hrun))) H96_ ?_)
 rintro R89_ v90_ p100_ w97_ hs88_ ⟨rfl, _, ⟨av91_, A92_, rfl, rfl, he93_, he94_, he95_⟩⟩ S99_ H98_
 have S101_ := Same.trans S85_ S99_
 have hz_R_R89_ := Sub.trans' hz_R_R49_ hs88_
 have hz_R23__R89_ := Sub.trans' hs48_ hs88_
 refine sv (v := (vB true)) (x_assign rfl) ?_
 refine wpList_nil (X_then (hK86_ _ _ ?_))
 clear hK86_
 refine C_seq (fun K102_ hK102_ => C_reg ?_)
 refine sv (v := av91_) (x_load1 rfl Try.underlying24 rfl ((Holds.rd H98_ 1 rfl) 0 av91_ rfl)) ?_
 refine sv (v := (vB true)) (x_move rfl) ?_
 refine sv (v := av91_) (x_assign rfl) ?_
 refine sv (v := (vB true)) (x_assign rfl) ?_
 refine wpList_nil (X_then (hK102_ _ _ ?_))
 clear hK102_
 refine C_ret ?_
 refine R_any (v := (vT #[av91_, (vB true)])) (run_results2 rfl rfl rfl) ?_
 have H103_ : Holds w97_ (ro R89_ :: F) := (Holds.pkF H98_ [0] 5 :)
 exact ⟨R89_, _, _, rfl, hz_R_R89_, ⟨av91_, A92_, rfl, rfl, (he93_), (he94_), (he95_)⟩, S101_, H103_⟩
end Go.Proofs.Ytiblemgccgbhoaa
set_option linter.unusedVariables false
set_option linter.unusedSimpArgs false
namespace Go.Proofs.Ytiblemgccgbhoaa
open Go Go.RowKit Gw
open Go.Value renaming int → vI, bool → vB, slice → vS, pointer → vP, agg → vA, tuple → vT

def liveO : List KO := [⟨1, 2, 0, 0, 0, 0, 0⟩, ⟨5, 0, 0, 0, 0, 0, 2⟩]
def liveR : List KM := [⟨true, 0, 0, 0, 0, 0, [], 2, 0, [⟨1, 2, 0, [⟨2, 0⟩]⟩]⟩, ⟨true, 2, 0, 2, 0, 1, [], 2, 0, [⟨1, 2, 0, [⟨2, 0⟩]⟩]⟩]
theorem live_run : iRun (0, 0, ([] : List GN).map GN.m) [] liveO = some liveR := by
  simp [iRun, liveO, liveR, iDo, vLessB, iPut, iNew, iAdd, gLast, iEmp, iGet, iFind, iFindN, gBeg, gEnd, rLastN, kmGet, KM.to, kmOk]
theorem live_at {A : List KA} (h : A.map KA.m = liveR) : A.length = 2 ∧ ∀ x, A[1]? = some x → x.oK = true ∧ x.ver = 1 ∧ x.mod_Main = 2 ∧ x.mod_Sub = 0 := by
  refine ⟨by have := congrArg List.length h; simpa [liveR] using this, fun x hx => ?_⟩
  have e := congrArg (·[1]?) h
  simp only [List.getElem?_map, hx, Option.map_some] at e
  have e2 : x.m = ⟨true, 2, 0, 2, 0, 1, [], 2, 0, [⟨1, 2, 0, [⟨2, 0⟩]⟩]⟩ := Option.some.inj e
  exact ⟨congrArg KM.ok e2, congrArg KM.ver e2, congrArg KM.mm e2, congrArg KM.ms e2⟩

set_option maxHeartbeats 1600000 in
theorem kLive (R : HP) :
    Tri Try.prog 7 #[] R [] (fun v__ post__ => v__ = (vB true) ∧ post__ = []) := by
 refine Tri.into (n := 39) (al := []) Try.func7 rfl Try.ntmps7 rfl rfl fun w F H => ?_
 refine C_seq (fun K1_ hK1_ => C_reg ?_)
 refine sv (v := (vB false)) (x_assign rfl) ?_
 refine wpList_nil (X_then (hK1_ _ _ ?_))
 clear hK1_
 refine C_seq (fun K2_ hK2_ => C_reg ?_)
 refine sv (v := (vA #[(vI .i64 0), (vI .i64 0), (vS none 0 0)])) (by kernel_rfl) ?_
 refine sv (v := (vA #[(vI .i64 2), (vI .i64 0)])) (by kernel_rfl) ?_
 refine sv (v := (vA #[(vI .i64 1), (vI .i64 2), (vI .i64 0), (vI .i64 0), (vI .i64 0), (vI .i64 0), (vI .i64 0)])) (by kernel_rfl) ?_
 refine sv (v := (vA #[(vI .i64 5), (vI .i64 0), (vI .i64 0), (vI .i64 0), (vI .i64 0), (vI .i64 0), (vI .i64 2)])) (by kernel_rfl) ?_
 refine S_list (T_new (obj := .cells #[(vI .i64 1), (vI .i64 2), (vI .i64 0), (vI .i64 0), (vI .i64 0), (vI .i64 0), (vI .i64 0), (vI .i64 5), (vI .i64 0), (vI .i64 0), (vI .i64 0), (vI .i64 0), (vI .i64 0), (vI .i64 2)] 39) (f := fun b__ => .slice (some ⟨b__, 0, none⟩) 2 2) (A := fun b__ => cl b__ 39 [(vI .i64 1), (vI .i64 2), (vI .i64 0), (vI .i64 0), (vI .i64 0), (vI .i64 0), (vI .i64 0), (vI .i64 5), (vI .i64 0), (vI .i64 0), (vI .i64 0), (vI .i64 0), (vI .i64 0), (vI .i64 2)]) (by kernel_rfl) (fun l h => h.alloc _ _) H ?_)
 intro b3_ w4_ S6_ H5_
 have S7_ := Same.trans (Same.refl w) S6_
 have H8_ := ((Holds.bring H5_ 1 rfl) :)
 obtain ⟨R9_, hs10_, ⟨R11_, ha12_, hs13_⟩, H14_⟩ := Holds.gift H8_
 have hr15_ : RS R9_ 7 (vS (some ⟨b3_, 0, none⟩) 2 2) 2 [(vI .i64 1), (vI .i64 2), (vI .i64 0), (vI .i64 0), (vI .i64 0), (vI .i64 0), (vI .i64 0), (vI .i64 5), (vI .i64 0), (vI .i64 0), (vI .i64 0), (vI .i64 0), (vI .i64 0), (vI .i64 2)] := (RS.set_ (cl_RSn (sz := 7) ha12_ (Sub.rfl' _) (by rfl) (by omega)) rfl rfl).mono hs13_
 refine S_list (T_callG (al := [(Value.string (ByteArray.mk #[107])), (vA #[(vI .i64 0), (vI .i64 0), ((vS none 0 0))]), (vS (some ⟨b3_, 0, none⟩) 2 2)]) (pre := []) rfl (lcons rfl (lcons (congrArg (fun l => vA (List.toArray l)) (lcons rfl (lcons rfl (lcons (rfl : (vS none 0 0) = ((vS none 0 0))) rfl)))) rfl)) cb8 (kKey R9_ (ByteArray.mk #[107]) 0 0 (vS none 0 0) (some ⟨b3_, 0, none⟩) 2 2 ([] : List GN) liveO 0 liveR (RS.nil R9_ 4) (fun x hx => by cases hx) hr15_ (by decide) (⟨Nat.le_refl 0, fun g hg => by cases hg⟩) (by first | assumption | omega) (live_run)) H14_ ?_)
 rintro R17_ v18_ p27_ w24_ hs16_ ⟨av19_, A20_, rfl, rfl, he21_, he22_, he23_⟩ S26_ H25_
 have S28_ := Same.trans S7_ S26_
 have hz_R_R17_ := Sub.trans' hs10_ hs16_
 obtain ⟨hal_, hax_⟩ := live_at he23_
 refine sv (v := (vT #[av19_, (vB true)])) (x_move rfl) ?_
 refine sv (v := av19_) (by kernel_rfl) ?_
 refine sv (v := (vB true)) (by kernel_rfl) ?_
 refine sv (v := av19_) (x_assign rfl) ?_
 refine sv (v := (vB true)) (x_assign rfl) ?_
 refine wpList_nil (X_then (hK2_ _ _ ?_))
 clear hK2_
 refine C_seq (fun K29_ hK29_ => C_reg ?_)
 refine sv (v := (vB true)) (x_move rfl) ?_
 refine sv (v := (vB true)) (x_move rfl) ?_
 refine S_yes (j := 1) (dj := 13) (b := true) rfl rfl rfl (T_val (v := av19_) (x_move rfl) ?_)
 refine S_yes (j := 1) (dj := 13) (b := true) rfl rfl rfl (T_val (v := (vI .i64 ((List.length A20_) : Int))) (x_lenRS rfl he21_ Try.underlying24) ?_)
 refine S_yes (j := 1) (dj := 13) (b := true) rfl rfl rfl (T_val (v := (vB (decide (((List.length A20_) : Int) = 2)))) (x_bin rfl rfl rfl) ?_)
 refine S_list (T_pickT (v := (vB (decide (((List.length A20_) : Int) = 2)))) rfl rfl ?_)
 refine sv (v := (vB (decide (((List.length A20_) : Int) = 2)))) (x_move rfl) ?_
 rcases Bool.eq_false_or_eq_true (decide (((List.length A20_) : Int) = 2)) with c30_t | c30_f
 ·have c30_tp : ((List.length A20_) : Int) = 2 := of_decide_eq_true c30_t
  refine S_yes (j := 6) (dj := 18) (b := true) rfl rfl (congrArg vB c30_t) (T_val (v := av19_) (x_move rfl) ?_)
  obtain ⟨x31_, hx32_, hm33_⟩ := elem_at A20_ 1 (by omega)
  have hp34_ := he22_ x31_ hm33_
  obtain ⟨hx1_, hx2_, hx3_, hx4_⟩ := hax_ x31_ hx32_
  refine S_yes (j := 6) (dj := 18) (b := true) rfl rfl (congrArg vB c30_t) (T_val (v := (vP (some ⟨(sb av19_), so av19_ + (10 + 0), none⟩))) (x_idxRS (v := av19_) rfl he21_ rfl Try.underlying24 z43 (by omega) (by omega) (by omega : _ = 1) rfl) ?_)
  refine S_yes (j := 6) (dj := 18) (b := true) rfl rfl (congrArg vB c30_t) (T_val (v := (vP (some ⟨(sb av19_), so av19_ + (10 + 0), none⟩))) (by kernel_rfl) ?_)
  refine S_yes (j := 6) (dj := 18) (b := true) rfl rfl (congrArg vB c30_t) (T_val (v := (vB x31_.oK)) (x_load1 rfl Try.underlying4 rfl (RC.cell (RS.rc he21_) (Holds.ro_at H25_ 0 rfl) (j := 10 + 0) (u := (vB x31_.oK)) (fm_cell KA.len hx32_ (i := 0) rfl))) ?_)
  refine S_list (T_pickT (v := (vB x31_.oK)) (congrArg vB c30_t) rfl ?_)
  refine sv (v := (vB x31_.oK)) (x_move rfl) ?_
  rcases Bool.eq_false_or_eq_true (x31_.oK) with c35_t | c35_f
  ·skip
   refine S_yes (j := 12) (dj := 24) (b := true) rfl rfl (congrArg vB c35_t) (T_val (v := av19_) (x_move rfl) ?_)
   refine S_yes (j := 12) (dj := 24) (b := true) rfl rfl (congrArg vB c35_t) (T_val (v := (vP (some ⟨(sb av19_), so av19_ + (10 + 0), none⟩))) (x_idxRS (v := av19_) rfl he21_ rfl Try.underlying24 z43 (by omega) (by omega) (by omega : _ = 1) rfl) ?_)
   refine S_yes (j := 12) (dj := 24) (b := true) rfl rfl (congrArg vB c35_t) (T_val (v := (vP (some ⟨(sb av19_), so av19_ + (10 + 5), none⟩))) (by kernel_rfl) ?_)
   refine S_yes (j := 12) (dj := 24) (b := true) rfl rfl (congrArg vB c35_t) (T_val (v := (vI .i64 x31_.ver)) (x_load1 rfl Try.underlying2 rfl (RC.cell (RS.rc he21_) (Holds.ro_at H25_ 0 rfl) (j := 10 + 5) (u := (vI .i64 x31_.ver)) (fm_cell KA.len hx32_ (i := 5) rfl))) ?_)
   refine S_yes (j := 12) (dj := 24) (b := true) rfl rfl (congrArg vB c35_t) (T_val (v := (vB (decide (x31_.ver = 1)))) (x_bin rfl rfl rfl) ?_)
   refine S_list (T_pickT (v := (vB (decide (x31_.ver = 1)))) (congrArg vB c35_t) rfl ?_)
   refine sv (v := (vB (decide (x31_.ver = 1)))) (x_move rfl) ?_
   rcases Bool.eq_false_or_eq_true (decide (x31_.ver = 1)) with c36_t | c36_f
   ·have c36_tp : x31_.ver = 1 := of_decide_eq_true c36_t
    refine S_yes (j := 19) (dj := 31) (b := true) rfl rfl (congrArg vB c36_t) (T_val (v := av19_) (x_move rfl) ?_)
    refine S_yes (j := 19) (dj := 31) (b := true) rfl rfl (congrArg vB c36_t) (T_val (v := (vP (some ⟨(sb av19_), so av19_ + (10 + 0), none⟩))) (x_idxRS (v := av19_) rfl he21_ rfl Try.underlying24 z43 (by omega) (by omega) (by omega : _ = 1) rfl) ?_)
    refine S_yes (j := 19) (dj := 31) (b := true) rfl rfl (congrArg vB c36_t) (T_val (v := (vP (some ⟨(sb av19_), so av19_ + (10 + 1), none⟩))) (by kernel_rfl) ?_)
    refine S_yes (j := 19) (dj := 31) (b := true) rfl rfl (congrArg vB c36_t) (T_val (v := (vA #[(vI .i64 x31_.mod_Main), (vI .i64 x31_.mod_Sub)])) (x_loadN (vs := [(vI .i64 x31_.mod_Main), (vI .i64 x31_.mod_Sub)]) rfl Try.underlying31 rfl z31 rfl (RC.cells (RS.rc he21_) (Holds.ro_at H25_ 0 rfl) (10 + 1) (fm_cells KA.len hx32_ (i := 1) rfl))) ?_)
    refine S_yes (j := 19) (dj := 31) (b := true) rfl rfl (congrArg vB c36_t) (T_val (v := (vA #[(vI .i64 2), (vI .i64 0)])) (by kernel_rfl) ?_)
    refine S_yes (j := 19) (dj := 31) (b := true) rfl rfl (congrArg vB c36_t) (T_val (v := (vB ((decide (x31_.mod_Main = 2)) && ((decide (x31_.mod_Sub = 0)) && (true))))) (x_eqS rfl rfl (by kernel_rfl) (eq_struct Try.underlying31 (by kernel_rfl) (eqf_cons rfl (run_part1 Try.underlying2 rfl rfl) (run_part1 Try.underlying2 rfl rfl) (eq_int Try.underlying2) (eqf_cons rfl (run_part1 Try.underlying2 rfl rfl) (run_part1 Try.underlying2 rfl rfl) (eq_int Try.underlying2) (eqf_nil))))) ?_)
    refine S_list (T_pickT (v := (vB ((decide (x31_.mod_Main = 2)) && ((decide (x31_.mod_Sub = 0)) && (true))))) (congrArg vB c36_t) rfl ?_)
    refine sv (v := (vB ((decide (x31_.mod_Main = 2)) && ((decide (x31_.mod_Sub = 0)) && (true))))) (x_assign rfl) ?_
    refine wpList_nil (X_then (hK29_ _ _ ?_))
    clear hK29_
    refine C_ret ?_
    refine R_any (v := (vB ((decide (x31_.mod_Main = 2)) && ((decide (x31_.mod_Sub = 0)) && (true))))) (run_results1 rfl rfl) ?_
    have H37_ : Holds w24_ (ro R :: F) := Holds.ro_less H25_ hz_R_R17_
    exact ⟨_, _, rfl, ⟨(congrArg vB ((by simp_all) : ((decide (x31_.mod_Main = 2)) && ((decide (x31_.mod_Sub = 0)) && (true))) = true)), rfl⟩, S28_, H37_⟩
   ·have c36_fp : ¬ (x31_.ver = 1) := of_decide_eq_false c36_f
    simp_all
  ·skip
   simp_all
 ·have c30_fp : ¬ (((List.length A20_) : Int) = 2) := of_decide_eq_false c30_f
  simp_all
end Go.Proofs.Ytiblemgccgbhoaa
set_option linter.unusedVariables false
set_option linter.unusedSimpArgs false
namespace Go.Proofs.Ytiblemgccgbhoaa
open Go Go.RowKit Gw
def rLt (r : RV) (m n : Int) : Prop := r.main < m ∨ (r.main = m ∧ r.sub < n)
/-- What is true of a key's changes: they rise, from 1, 0 on; and those ahead of a life are ahead of its beginning. -/
structure vOk (l : List VR) : Prop where
  lt : ∀ (i j : Nat) (x y : VR), i < j → l[i]? = some x → l[j]? = some y → rLt x.rv y.rev_Main y.rev_Sub
  pos : ∀ x ∈ l, 1 ≤ x.rev_Main ∧ 0 ≤ x.rev_Sub
  life : ∀ (i j : Nat) (x y z : VR), i ≤ j → l[i]? = some x → l[j]? = some y → l[j + 1]? = some z → y.gone = true → rLt x.rv z.created_Main z.created_Sub
def sinceC (at_ : Int) : List VR → List RV
  | [] => []
  | x :: r => (if at_ ≤ x.rev_Main ∧ (∀ y, r.head? = some y → y.rev_Main ≠ x.rev_Main) then [x.rv] else []) ++ sinceC at_ r
instance (x : VR) (r : List VR) : Decidable (∀ y, r.head? = some y → y.rev_Main ≠ x.rev_Main) := by
  cases r with
  | nil => exact isTrue (fun y h => by cases h)
  | cons a r => exact decidable_of_iff (a.rev_Main ≠ x.rev_Main) ⟨fun h y e => by cases e; exact h, fun h => h a rfl⟩
theorem since_from (l : List VR) (at_ : Int) : ∀ (d k : Nat), k + d = l.length → (vSieve l (vSinceP l at_) l.length).map VR.rv = (vSieve l (vSinceP l at_) k).map VR.rv ++ sinceC at_ (l.drop k) := by
  intro d
  induction d with
  | zero => intro k hk; rw [show k = l.length by omega, List.drop_length, sinceC, List.append_nil]
  | succ d ih =>
    intro k hk
    rw [ih (k + 1) (by omega)]
    obtain ⟨x, hx⟩ : ∃ x, l[k]? = some x := ⟨l[k], List.getElem?_eq_getElem (by omega)⟩
    rw [drop_at hx, sinceC, ← List.append_assoc]
    congr 1
    have hh : (l.drop (k + 1)).head? = l[k + 1]? := by rw [List.head?_drop]
    by_cases hp : vSinceP l at_ k x = true
    · rw [vSieve_yes hx hp, List.map_append, List.map_singleton]
      congr 1
      unfold vSinceP at hp
      rw [if_pos]
      refine ⟨by simp at hp; exact hp.1, fun y hy => ?_⟩
      rw [hh] at hy
      rw [hy] at hp
      simp at hp
      exact hp.2
    · have hp' : vSinceP l at_ k x = false := by simpa using hp
      rw [vSieve_no hx hp', if_neg, List.append_nil]
      rintro ⟨h1, h2⟩
      apply hp
      unfold vSinceP
      rw [decide_eq_true h1, Bool.true_and]
      cases hn : l[k + 1]? with
      | none => rfl
      | some y => exact decide_eq_true (h2 y (by rw [hh, hn]))
theorem vSince_C (l : List VR) (at_ : Int) : vSince l at_ = sinceC at_ l := by
  unfold vSince
  have h := since_from l at_ l.length 0 (by omega)
  rw [h]
  simp [vSieve]
theorem foldl_since (at_ : Int) : ∀ (l : List VR) (out : List RV) (la : Int), (∀ x ∈ l, la ≤ x.rev_Main ∧ 0 ≤ x.rev_Sub) → (∀ (i j : Nat) (x y : VR), i < j → l[i]? = some x → l[j]? = some y → x.rev_Main ≤ y.rev_Main) →
    ((l.map VR.rv).foldl (sStep at_) (out, la)).1 = (if ∃ y, l.head? = some y ∧ at_ ≤ y.rev_Main ∧ y.rev_Main = la then out.dropLast else out) ++ sinceC at_ l := by
  intro l
  induction l with
  | nil => intro out la _ _; simp [sinceC]
  | cons x r ih =>
    intro out la hp hm
    have hx := hp x (List.mem_cons_self ..)
    have hr : ∀ y ∈ r, x.rev_Main ≤ y.rev_Main ∧ 0 ≤ y.rev_Sub := fun y hy => by
      obtain ⟨j, hj⟩ := List.getElem?_of_mem hy
      exact ⟨hm 0 (j + 1) x y (by omega) rfl (by simpa using hj), (hp y (List.mem_cons_of_mem _ hy)).2⟩
    have hm2 : ∀ (i j : Nat) (a b : VR), i < j → r[i]? = some a → r[j]? = some b → a.rev_Main ≤ b.rev_Main := fun i j a b h1 h2 h3 => hm (i + 1) (j + 1) a b (by omega) (by simpa using h2) (by simpa using h3)
    rw [List.map_cons, List.foldl_cons, sinceC]
    by_cases hlt : x.rev_Main < at_
    · have e : sStep at_ (out, la) x.rv = (out, la) := by
        unfold sStep
        rw [if_pos]
        unfold vLessB
        exact decide_eq_true (.inl hlt)
      rw [e, ih out la (fun y hy => ⟨by have := hr y hy; omega, (hr y hy).2⟩) hm2]
      rw [if_neg (show ¬ (∃ y, (x :: r).head? = some y ∧ at_ ≤ y.rev_Main ∧ y.rev_Main = la) from by rintro ⟨y, hy, h1, h2⟩; cases hy; omega)]
      rw [if_neg (show ¬ (at_ ≤ x.rev_Main ∧ _) from fun h => by omega), List.nil_append]
      congr 1
      rw [if_neg]
      rintro ⟨y, hy, h1, h2⟩
      have := hr y (List.mem_of_mem_head? hy)
      omega
    · have e : sStep at_ (out, la) x.rv = ((if x.rev_Main = la then out.dropLast else out) ++ [x.rv], x.rev_Main) := by
        unfold sStep
        rw [if_neg]
        · by_cases h : x.rev_Main = la
          · rw [if_pos (show x.rv.main = la from h), if_pos h, h]
          · rw [if_neg (show ¬ x.rv.main = la from h), if_neg h]; rfl
        · unfold vLessB
          rw [decide_eq_true_eq]
          show ¬ (x.rev_Main < at_ ∨ (x.rev_Main = at_ ∧ x.rev_Sub < 0))
          omega
      rw [e, ih _ _ hr hm2]
      have hb : (if ∃ y, (x :: r).head? = some y ∧ at_ ≤ y.rev_Main ∧ y.rev_Main = la then out.dropLast else out) = (if x.rev_Main = la then out.dropLast else out) := by
        by_cases h : x.rev_Main = la
        · rw [if_pos h, if_pos ⟨x, rfl, by omega, h⟩]
        · rw [if_neg h, if_neg]
          rintro ⟨y, hy, _, h2⟩
          cases hy
          exact h h2
      rw [hb]
      by_cases hn : ∀ y, r.head? = some y → y.rev_Main ≠ x.rev_Main
      · rw [if_neg (show ¬ (∃ y, r.head? = some y ∧ at_ ≤ y.rev_Main ∧ y.rev_Main = x.rev_Main) from by rintro ⟨y, hy, _, h2⟩; exact hn y hy h2)]
        rw [if_pos (show at_ ≤ x.rev_Main ∧ (∀ y, r.head? = some y → y.rev_Main ≠ x.rev_Main) from ⟨by omega, hn⟩), List.append_assoc]
      · have hn2 : ∃ y, r.head? = some y ∧ y.rev_Main = x.rev_Main := by
          by_cases h : ∃ y, r.head? = some y ∧ y.rev_Main = x.rev_Main
          · exact h
          · exact absurd (fun y hy e => h ⟨y, hy, e⟩) hn
        obtain ⟨y, hy, h2⟩ := hn2
        rw [if_pos (⟨y, hy, by omega, h2⟩ : ∃ y, r.head? = some y ∧ at_ ≤ y.rev_Main ∧ y.rev_Main = x.rev_Main)]
        rw [if_neg (show ¬ (at_ ≤ x.rev_Main ∧ (∀ y, r.head? = some y → y.rev_Main ≠ x.rev_Main)) from fun h => hn h.2), List.dropLast_concat, List.nil_append]
theorem since_all {l : List VR} (h : vOk l) (at_ : Int) : ((l.map VR.rv).foldl (sStep at_) ([], 0)).1 = vSince l at_ := by
  rw [foldl_since at_ l [] 0 (fun x hx => by have := h.pos x hx; omega) (fun i j x y hij hx hy => (h.lt i j x y hij hx hy).elim (fun h1 => Int.le_of_lt h1) (fun h1 => Int.le_of_eq h1.1)), vSince_C]
  split <;> simp
def GOrd (G : List GM) : Prop := G.Pairwise fun a b => b.l ≠ [] → ∀ r ∈ a.l, rLt r b.cm b.cs
theorem last_split {G : List GM} (h : G ≠ []) : G.dropLast ++ [gLast G] = G := by
  unfold gLast
  rw [List.getLast?_eq_some_getLast h]
  exact List.dropLast_concat_getLast h
theorem flat_add (G : List GM) (v : VR) : (G.dropLast ++ [gAdd (gLast G) v]).flatMap GM.l = G.flatMap GM.l ++ [v.rv] := by
  by_cases h : G = []
  · subst h; rfl
  · conv => rhs; rw [← last_split h]
    rw [List.flatMap_append, List.flatMap_append, List.flatMap_singleton, List.flatMap_singleton, List.append_assoc]; rfl
theorem dGo_flat (l : List VR) : (dGo l).1.flatMap GM.l = l.map VR.rv := by
  suffices h : ∀ (r l : List VR) (s : List GM × Bool), s.1.flatMap GM.l = l.map VR.rv → (r.foldl dStep s).1.flatMap GM.l = (l ++ r).map VR.rv by
    have := h l [] ([], false) rfl
    exact this
  intro r
  induction r with
  | nil => intro l s h; rw [List.append_nil]; exact h
  | cons v r ih =>
    intro l s h
    rw [List.foldl_cons, show l ++ v :: r = (l ++ [v]) ++ r by simp]
    refine ih (l ++ [v]) _ ?_
    unfold dStep
    dsimp only
    rw [flat_add, List.map_append]
    split
    · rw [h]; rfl
    · rw [List.flatMap_append, h]; simp
theorem dGens_flat (l : List VR) : (dGens l).flatMap GM.l = l.map VR.rv := by
  unfold dGens
  rw [List.flatMap_append, dGo_flat]
  split <;> simp
theorem GOrd.add {G : List GM} (v : VR) (h : GOrd G) (hG : G ≠ []) (hn : (gLast G).l ≠ [] ∨ ∀ a ∈ G.dropLast, ∀ r ∈ a.l, rLt r (gLast G).cm (gLast G).cs) : GOrd (G.dropLast ++ [gAdd (gLast G) v]) := by
  have h2 : GOrd (G.dropLast ++ [gLast G]) := by rw [last_split hG]; exact h
  unfold GOrd at h2 ⊢
  rw [List.pairwise_append] at h2 ⊢
  refine ⟨h2.1, List.pairwise_singleton _ _, fun a ha b hb _ r hr => ?_⟩
  rcases List.mem_singleton.1 hb with rfl
  rcases hn with hn | hn
  · exact h2.2.2 a ha _ (List.mem_singleton.2 rfl) hn r hr
  · exact hn a ha r hr
theorem dGo_take {l : List VR} (h : vOk l) : ∀ n, n ≤ l.length → GOrd (dGo (l.take n)).1 ∧ (∀ g ∈ (dGo (l.take n)).1, g.l ≠ []) ∧ (0 < n → (dGo (l.take n)).1 ≠ [] ∧ ∃ y, l[n - 1]? = some y ∧ (dGo (l.take n)).2 = !y.gone) := by
  intro n
  induction n with
  | zero => intro _; exact ⟨List.Pairwise.nil, (fun g hg => by cases hg), fun h => absurd h (by omega)⟩
  | succ n ih =>
    intro hn
    obtain ⟨h1, h2, h3⟩ := ih (by omega)
    obtain ⟨x, hx⟩ : ∃ x, l[n]? = some x := ⟨l[n], List.getElem?_eq_getElem (by omega)⟩
    have hflat := dGo_flat (l.take n)
    rw [rv_take_snoc hx, dGo_snoc]
    generalize hs : dGo (l.take n) = s at h1 h2 h3 hflat
    obtain ⟨G, b⟩ := s
    simp only at h1 h2 h3 hflat
    have hne : ∀ g ∈ (dStep (G, b) x).1, g.l ≠ [] := by
      intro g hg
      unfold dStep at hg
      dsimp only at hg
      rcases List.mem_append.1 hg with hg | hg
      · split at hg
        · exact h2 g (List.dropLast_subset _ hg)
        · rw [List.dropLast_concat] at hg; exact h2 g hg
      · rcases List.mem_singleton.1 hg with rfl
        unfold gAdd
        simp
    refine ⟨?_, hne, fun _ => ⟨by unfold dStep; simp, x, by simpa using hx, rfl⟩⟩
    unfold dStep
    dsimp only
    by_cases hb : b = true
    · rw [if_pos hb]
      have hG : G ≠ [] := by
        rcases Nat.eq_zero_or_pos n with h0 | h0
        · subst h0
          have : (G, b) = ([], false) := hs.symm
          cases this; cases hb
        · exact (h3 h0).1
      exact h1.add x hG (.inl (h2 _ (gLast_mem hG)))
    · rw [if_neg hb]
      have e : gLast (G ++ [(⟨0, x.created_Main, x.created_Sub, []⟩ : GM)]) = ⟨0, x.created_Main, x.created_Sub, []⟩ := by simp [gLast]
      refine GOrd.add x ?_ (by simp) (.inr ?_)
      · unfold GOrd
        rw [List.pairwise_append]
        exact ⟨h1, List.pairwise_singleton _ _, fun a ha c hc hcl => by rcases List.mem_singleton.1 hc with rfl; exact absurd rfl hcl⟩
      · rw [List.dropLast_concat, e]
        intro a ha r hr
        have hr2 : r ∈ G.flatMap GM.l := List.mem_flatMap.2 ⟨a, ha, hr⟩
        rw [hflat] at hr2
        obtain ⟨y, hy, rfl⟩ := List.mem_map.1 hr2
        obtain ⟨i, hi⟩ := List.getElem?_of_mem hy
        have hin : i < n := by
          have := (List.getElem?_eq_some_iff.1 hi).1
          rw [List.length_take] at this; omega
        have hi2 : l[i]? = some y := by rw [List.getElem?_take_of_lt hin] at hi; exact hi
        obtain ⟨_, z, hz, hbz⟩ := h3 (by omega)
        have hzg : z.gone = true := by
          cases hg : z.gone with
          | true => rfl
          | false => rw [hg] at hbz; exact absurd hbz hb
        exact h.life i (n - 1) y z x (by omega) hi2 hz (by rw [show n - 1 + 1 = n by omega]; exact hx) hzg
theorem foldl_skip {at_ : Int} (p q : List RV) (s : List RV × Int) (h : ∀ r ∈ p, vLessB r.main r.sub at_ 0 = true) : (p ++ q).foldl (sStep at_) s = q.foldl (sStep at_) s := by
  induction p with
  | nil => rfl
  | cons a p ih =>
    rw [List.cons_append, List.foldl_cons, show sStep at_ s a = s from if_pos (h a (List.mem_cons_self ..))]
    exact ih fun r hr => h r (List.mem_cons_of_mem _ hr)
theorem sStart_spec (G : List GM) (at_ : Int) : ∀ n, sStartN G at_ n = 0 ∨ ∃ g, G[sStartN G at_ n]? = some g ∧ g.l ≠ [] ∧ vLessB g.cm g.cs at_ 0 = true
  | 0 => .inl rfl
  | n + 1 => by
    unfold sStartN
    cases hg : G[n + 1]? with
    | none => exact sStart_spec G at_ n
    | some g =>
      dsimp only
      split
      · exact sStart_spec G at_ n
      · split
        · rename_i h1 h2
          exact .inr ⟨g, hg, fun e => h1 (by rw [e]; rfl), h2⟩
        · exact sStart_spec G at_ n
theorem iSince_dGens {l : List VR} (h : vOk l) (at_ : Int) : iSince (dGens l) at_ = vSince l at_ := by
  rw [← since_all h, ← dGens_flat]
  unfold iSince
  generalize hc : sStartN (dGens l) at_ ((dGens l).length - 1) = c
  conv => rhs; rw [← List.take_append_drop c (dGens l), List.flatMap_append]
  rw [foldl_skip]
  intro r hr
  rcases sStart_spec (dGens l) at_ ((dGens l).length - 1) with h0 | ⟨g, hg, hgl, hlt⟩
  · rw [hc] at h0; subst h0; simp at hr
  · rw [hc] at hg
    obtain ⟨a, ha, hra⟩ := List.mem_flatMap.1 hr
    have hord : GOrd (dGens l) := by
      have h2 := (dGo_take h l.length (Nat.le_refl _)).1
      rw [List.take_length] at h2
      unfold dGens GOrd
      split
      · rw [List.pairwise_append]
        exact ⟨h2, List.pairwise_singleton _ _, fun a ha c hc hcl => by rcases List.mem_singleton.1 hc with rfl; exact absurd rfl hcl⟩
      · rw [List.append_nil]; exact h2
    obtain ⟨i, hi⟩ := List.getElem?_of_mem ha
    have hin : i < c := by
      have := (List.getElem?_eq_some_iff.1 hi).1
      rw [List.length_take] at this; omega
    rw [List.getElem?_take_of_lt hin] at hi
    obtain ⟨h3, h4⟩ := List.getElem?_eq_some_iff.1 hi
    obtain ⟨h5, h6⟩ := List.getElem?_eq_some_iff.1 hg
    have h7 := List.pairwise_iff_getElem.1 hord i c h3 h5 hin (by rw [h6]; exact hgl) r (by rw [h4]; exact hra)
    rw [h6] at h7
    have h8 : g.cm < at_ ∨ (g.cm = at_ ∧ g.cs < 0) := of_decide_eq_true hlt
    refine decide_eq_true ?_
    rcases h7 with h7 | h7 <;> omega
theorem rLt.trans {a : RV} {b : RV} {m n : Int} (h1 : rLt a b.main b.sub) (h2 : rLt b m n) : rLt a m n := by
  unfold rLt at *
  omega
theorem vOk_nil : vOk [] := ⟨(fun i j x y _ h _ => by simp at h), (fun x h => by cases h), (fun i j x y z _ h _ _ _ => by simp at h)⟩
theorem vLast_get {l : List VR} {y : VR} {j : Nat} (h : l[j]? = some y) (hj : j + 1 = l.length) : vLast l = y := vLast_at h hj
theorem vOk_drop {l : List VR} (h : vOk l) (n : Nat) : vOk (l.drop n) := by
  refine ⟨fun i j x y hij hx hy => ?_, fun x hx => h.pos x (List.mem_of_mem_drop hx), fun i j x y z hij hx hy hz hg => ?_⟩
  · rw [List.getElem?_drop] at hx hy
    exact h.lt _ _ x y (by omega) hx hy
  · rw [List.getElem?_drop] at hx hy hz
    exact h.life (n + i) (n + j) x y z (by omega) hx hy (by rw [Nat.add_assoc]; exact hz) hg
theorem vOk_snoc {l : List VR} (h : vOk l) {x : VR} (hlt : l ≠ [] → rLt (vLast l).rv x.rev_Main x.rev_Sub) (hp : 1 ≤ x.rev_Main ∧ 0 ≤ x.rev_Sub)
    (hl : l ≠ [] → (vLast l).gone = true → x.created_Main = x.rev_Main ∧ x.created_Sub = x.rev_Sub) : vOk (l ++ [x]) := by
  have hall : ∀ (i : Nat) (a : VR), l[i]? = some a → rLt a.rv x.rev_Main x.rev_Sub := by
    intro i a ha
    have hi := (List.getElem?_eq_some_iff.1 ha).1
    have hne : l ≠ [] := fun e => by rw [e] at hi; exact absurd hi (by simp)
    by_cases he : i + 1 = l.length
    · rw [← vLast_get ha he]; exact hlt hne
    · obtain ⟨b, hb⟩ : ∃ b, l[l.length - 1]? = some b := ⟨l[l.length - 1], List.getElem?_eq_getElem (by omega)⟩
      have h1 := h.lt i (l.length - 1) a b (by omega) ha hb
      have h2 := hlt hne
      rw [vLast_get hb (by omega)] at h2
      exact rLt.trans (b := b.rv) h1 h2
  have hgl : ∀ (i : Nat) (a : VR), i < l.length → (l ++ [x])[i]? = some a → l[i]? = some a := fun i a hi ha => by rw [List.getElem?_append_left hi] at ha; exact ha
  have hgx : ∀ (i : Nat) (a : VR), ¬ i < l.length → (l ++ [x])[i]? = some a → i = l.length ∧ a = x := fun i a hi ha => by
    have h3 := (List.getElem?_eq_some_iff.1 ha).1
    rw [List.length_append] at h3
    have h4 : i = l.length := by simp at h3; omega
    subst h4
    rw [List.getElem?_append_right (Nat.le_refl _), Nat.sub_self] at ha
    exact ⟨rfl, by cases ha; rfl⟩
  refine ⟨fun i j a b hij ha hb => ?_, fun a ha => ?_, fun i j a b c hij ha hb hc hg => ?_⟩
  · by_cases hj : j < l.length
    · exact h.lt i j a b hij (hgl i a (by omega) ha) (hgl j b hj hb)
    · obtain ⟨rfl, rfl⟩ := hgx j b hj hb
      exact hall i a (hgl i a hij ha)
  · rcases List.mem_append.1 ha with ha | ha
    · exact h.pos a ha
    · rcases List.mem_singleton.1 ha with rfl
      exact hp
  · by_cases hj : j + 1 < l.length
    · exact h.life i j a b c hij (hgl i a (by omega) ha) (hgl j b (by omega) hb) (hgl (j + 1) c hj hc) hg
    · obtain ⟨he, rfl⟩ := hgx (j + 1) c hj hc
      have hb2 := hgl j b (by omega) hb
      have hne : l ≠ [] := fun e => by rw [e] at he; simp at he
      obtain ⟨h1, h2⟩ := hl hne (by rw [vLast_get hb2 he]; exact hg)
      rw [h1, h2]
      exact hall i a (hgl i a (by omega) ha)
theorem vLastN_above (l : List VR) (at_ : Int) : ∀ (n k : Nat) (x : VR), vLastN l at_ n ≤ k → k < n → l[k]? = some x → at_ < x.rev_Main := by
  intro n
  induction n with
  | zero => intro k x _ h; omega
  | succ n ih =>
    intro k x h1 h2 hx
    by_cases hk : k = n
    · subst hk
      by_cases hv : x.rev_Main ≤ at_
      · rw [vLastN_yes hx hv] at h1; omega
      · omega
    · obtain ⟨y, hy⟩ : ∃ y, vLastN l at_ (n + 1) = y := ⟨_, rfl⟩
      refine ih k x ?_ (by omega) hx
      cases hn : l[n]? with
      | none => have : vLastN l at_ (n + 1) = vLastN l at_ n := by simp [vLastN, hn]
                omega
      | some v =>
        by_cases hv : v.rev_Main ≤ at_
        · rw [vLastN_yes hn hv] at h1; omega
        · rw [vLastN_no hn hv] at h1; exact h1
theorem vLastN_below (l : List VR) (at_ : Int) : ∀ n, 0 < vLastN l at_ n → ∃ x, l[vLastN l at_ n - 1]? = some x ∧ x.rev_Main ≤ at_ := by
  intro n
  induction n with
  | zero => intro h; exact absurd h (by simp [vLastN])
  | succ n ih =>
    intro h
    cases hn : l[n]? with
    | none =>
      have e : vLastN l at_ (n + 1) = vLastN l at_ n := by simp [vLastN, hn]
      rw [e] at h ⊢; exact ih h
    | some v =>
      by_cases hv : v.rev_Main ≤ at_
      · rw [vLastN_yes hn hv]; exact ⟨v, by simpa using hn, hv⟩
      · rw [vLastN_no hn hv] at h ⊢; exact ih h
theorem vSieve_thr {l : List VR} {p : Nat → VR → Bool} {n : Nat} (h : ∀ k x, l[k]? = some x → (p k x = true ↔ n ≤ k)) : ∀ m, m ≤ l.length → vSieve l p m = (l.take m).drop n := by
  intro m
  induction m with
  | zero => intro _; simp [vSieve]
  | succ m ih =>
    intro hm
    obtain ⟨x, hx⟩ : ∃ x, l[m]? = some x := ⟨l[m], List.getElem?_eq_getElem (by omega)⟩
    rw [rv_take_snoc hx]
    by_cases hp : n ≤ m
    · rw [vSieve_yes hx ((h m x hx).2 hp), ih (by omega), List.drop_append_of_le_length (by rw [List.length_take]; omega)]
    · have hf : p m x = false := by
        cases he : p m x with
        | false => rfl
        | true => exact absurd ((h m x hx).1 he) hp
      rw [vSieve_no hx hf, ih (by omega), List.drop_eq_nil_of_le (by rw [List.length_take]; omega), List.drop_eq_nil_of_le (by rw [List.length_append, List.length_take]; simp; omega)]
theorem vCompact_drop {l : List VR} (h : vOk l) (at_ : Int) : ∃ n, vCompact l at_ = l.drop n := by
  have hle := vLastN_le l at_ l.length
  have key : ∀ n, (∀ k x, l[k]? = some x → (vStay l at_ k x = true ↔ n ≤ k)) → vCompact l at_ = l.drop n := fun n hn => by
    unfold vCompact
    rw [vSieve_thr hn l.length (Nat.le_refl _), List.take_length]
  have hab : ∀ k x, l[k]? = some x → vLastN l at_ l.length ≤ k → at_ < x.rev_Main := fun k x hx hk => vLastN_above l at_ l.length k x hk (List.getElem?_eq_some_iff.1 hx).1 hx
  have hbe : ∀ k x, l[k]? = some x → k < vLastN l at_ l.length → x.rev_Main ≤ at_ := fun k x hx hk => by
    obtain ⟨y, hy, hya⟩ := vLastN_below l at_ l.length (by omega)
    by_cases he : k = vLastN l at_ l.length - 1
    · rw [← he, hx] at hy; cases hy; exact hya
    · rcases h.lt k _ x y (by omega) hx hy with h1 | h1
      · have : x.rev_Main < y.rev_Main := h1
        omega
      · have : x.rev_Main = y.rev_Main := h1.1
        omega
  by_cases hz : ∃ x, l[vLastN l at_ l.length - 1]? = some x ∧ 0 < vLastN l at_ l.length ∧ (x.gone = false ∨ x.rev_Main = at_)
  · obtain ⟨x, hx, h0, hs⟩ := hz
    refine ⟨vLastN l at_ l.length - 1, key _ fun k y hy => ?_⟩
    unfold vStay
    rw [decide_eq_true_eq]
    constructor
    · rintro (h1 | ⟨h1, _⟩)
      · by_cases hk : k < vLastN l at_ l.length
        · have := hbe k y hy hk; omega
        · omega
      · omega
    · intro hk
      by_cases he : k = vLastN l at_ l.length - 1
      · rw [he, hx] at hy; cases hy
        exact .inr ⟨by omega, hs⟩
      · exact .inl (hab k y hy (by omega))
  · refine ⟨vLastN l at_ l.length, key _ fun k y hy => ?_⟩
    unfold vStay
    rw [decide_eq_true_eq]
    constructor
    · rintro (h1 | ⟨h1, h2⟩)
      · by_cases hk : k < vLastN l at_ l.length
        · have := hbe k y hy hk; omega
        · omega
      · exact absurd ⟨y, by rw [show vLastN l at_ l.length - 1 = k by omega]; exact hy, by omega, h2⟩ hz
    · intro hk
      exact .inl (hab k y hy hk)
theorem rLt_of {l : List VR} {m n : Int} (h : vLessB (vLast l).rev_Main (vLast l).rev_Sub m n = true) : rLt (vLast l).rv m n := vLessB_gt h
theorem kDo_ok {l m : List VR} {o : KO} {a : KM} {i : Nat} (h : vOk l) (hc : kChk i l o) (hd : kDo l o = some (m, a)) : vOk m := by
  unfold kDo at hd
  split at hd
  · rename_i hk
    split at hd
    · rename_i hl
      cases hd
      have hp := hc.2.2.1 (by omega)
      refine vOk_snoc h (fun _ => ?_) ?_ fun _ hg => ?_
      · have := rLt_of hl
        unfold vPut
        split <;> exact this
      · unfold vPut
        split <;> exact hp
      · unfold vPut
        rw [if_pos hg]
        exact ⟨rfl, rfl⟩
    · cases hd
  · split at hd
    · rename_i hk
      split at hd
      · cases hd; exact h
      · rename_i hg
        split at hd
        · rename_i hl
          cases hd
          exact vOk_snoc h (fun _ => rLt_of hl) (hc.2.2.1 (by omega)) fun _ hg2 => absurd hg2 hg
        · cases hd
    · split at hd
      · cases hd; exact h
      · split at hd
        · cases hd; exact h
        · split at hd
          · cases hd
            obtain ⟨n, e⟩ := vCompact_drop h o.at_
            rw [e]; exact vOk_drop h n
          · split at hd <;> (cases hd; exact h)
end Go.Proofs.Ytiblemgccgbhoaa
set_option linter.unusedVariables false
set_option linter.unusedSimpArgs false
namespace Go.Proofs.Ytiblemgccgbhoaa
open Go Go.RowKit Gw
theorem dGo_last {l : List VR} {x : VR} : gLast (dGo (l ++ [x])).1 = gAdd (gLast (if (dGo l).2 then (dGo l).1 else (dGo l).1 ++ [⟨0, x.created_Main, x.created_Sub, []⟩])) x ∧ (dGo (l ++ [x])).2 = !x.gone := by
  rw [dGo_snoc]
  unfold dStep
  exact ⟨by simp [gLast], rfl⟩
theorem snoc_cases (l : List VR) : l = [] ∨ ∃ p x, l = p ++ [x] := by
  by_cases h : l = []
  · exact .inl h
  · exact .inr ⟨l.dropLast, l.getLast h, (List.dropLast_concat_getLast h).symm⟩
theorem dGo_flag (l : List VR) : (dGo l).2 = (decide (0 < l.length) && !(vLast l).gone) := by
  rcases snoc_cases l with rfl | ⟨p, x, rfl⟩
  · rfl
  · rw [dGo_last.2, vLast_snoc]; simp
theorem dGo_lver {l : List VR} (h : 0 < l.length) : (gLast (dGo l).1).ver = (vLast l).ver ∧ (gLast (dGo l).1).l ≠ [] ∧ (dGo l).1 ≠ [] := by
  rcases snoc_cases l with rfl | ⟨p, x, rfl⟩
  · exact absurd h (by simp)
  · rw [dGo_last.1, vLast_snoc]
    refine ⟨rfl, by unfold gAdd; simp, ?_⟩
    rw [dGo_snoc]; unfold dStep; simp
theorem dGens_put (l : List VR) (m s : Int) : dGens (l ++ [vPut l m s]) = iPut (dGens l) m s := by
  have hg : (vPut l m s).gone = false := by unfold vPut; split <;> rfl
  have e1 : dGens (l ++ [vPut l m s]) = (dGo (l ++ [vPut l m s])).1 := by
    unfold dGens
    rw [vLast_snoc, hg]; simp
  rw [e1, dGo_snoc]
  rcases Nat.eq_zero_or_pos l.length with h0 | h0
  · have : l = [] := List.eq_nil_of_length_eq_zero h0
    subst this
    simp [dStep, dGo, dGens, iPut, iNew, iAdd, gLast, gAdd, vPut, vLast, vNone, VR.rv]
  · obtain ⟨h1, h2, h3⟩ := dGo_lver h0
    cases hgn : (vLast l).gone with
    | true =>
      have e2 : dGens l = (dGo l).1 ++ [⟨0, 0, 0, []⟩] := by unfold dGens; rw [if_pos ⟨h0, hgn⟩]
      have e3 : (dGo l).2 = false := by rw [dGo_flag, hgn]; simp
      rw [e2]
      simp [dStep, e3, iPut, iNew, iAdd, gLast, gAdd, vPut, hgn, VR.rv]
    | false =>
      have e2 : dGens l = (dGo l).1 := by unfold dGens; rw [if_neg (by simp [hgn]), List.append_nil]
      have e3 : (dGo l).2 = true := by rw [dGo_flag, hgn]; simp [h0]
      have h5 : ¬ (gLast (dGo l).1).l.length = 0 := fun e => h2 (List.eq_nil_of_length_eq_zero e)
      have h4 : ¬ (dGo l).1.length = 0 := fun e => h3 (List.eq_nil_of_length_eq_zero e)
      rw [e2]
      simp [dStep, e3, iPut, iNew, iAdd, gAdd, vPut, hgn, VR.rv, h1, h2, h3]
theorem dGens_end {l : List VR} (m s : Int) (hgn : (vLast l).gone = false) : dGens (l ++ [vEnd l m s]) = iPut (dGens l) m s ++ [⟨0, 0, 0, []⟩] := by
  have h0 : 0 < l.length := vLast_pos (by rw [hgn]; rfl)
  have hg : (vEnd l m s).gone = true := rfl
  have e1 : dGens (l ++ [vEnd l m s]) = (dGo (l ++ [vEnd l m s])).1 ++ [⟨0, 0, 0, []⟩] := by
    unfold dGens
    rw [vLast_snoc, hg]; simp
  rw [e1, dGo_snoc]
  obtain ⟨h1, h2, h3⟩ := dGo_lver h0
  have e2 : dGens l = (dGo l).1 := by unfold dGens; rw [if_neg (by simp [hgn]), List.append_nil]
  have e3 : (dGo l).2 = true := by rw [dGo_flag, hgn]; simp [h0]
  have h5 : ¬ (gLast (dGo l).1).l.length = 0 := fun e => h2 (List.eq_nil_of_length_eq_zero e)
  have h4 : ¬ (dGo l).1.length = 0 := fun e => h3 (List.eq_nil_of_length_eq_zero e)
  rw [e2]
  simp [dStep, e3, iPut, iNew, iAdd, gAdd, vEnd, VR.rv, h1, h2, h3]
end Go.Proofs.Ytiblemgccgbhoaa
set_option linter.unusedVariables false
set_option linter.unusedSimpArgs false
namespace Go.Proofs.Ytiblemgccgbhoaa
open Go Go.RowKit Gw
def vLf (l : List VR) : Prop := ∀ (j : Nat) (x y : VR), l[j]? = some x → l[j + 1]? = some y → x.gone = false → y.created_Main = x.created_Main ∧ y.created_Sub = x.created_Sub ∧ y.ver = x.ver + 1
theorem vLf_nil : vLf [] := fun j x y h => by simp at h
theorem vLf_drop {l : List VR} (h : vLf l) (n : Nat) : vLf (l.drop n) := fun j x y hx hy hg => by
  rw [List.getElem?_drop] at hx hy
  exact h (n + j) x y hx (by rw [Nat.add_assoc]; exact hy) hg
theorem vLf_snoc {l : List VR} (h : vLf l) {z : VR} (hz : l ≠ [] → (vLast l).gone = false → z.created_Main = (vLast l).created_Main ∧ z.created_Sub = (vLast l).created_Sub ∧ z.ver = (vLast l).ver + 1) : vLf (l ++ [z]) := fun j x y hx hy hg => by
  have h3 := (List.getElem?_eq_some_iff.1 hy).1
  rw [List.length_append] at h3
  simp only [List.length_cons, List.length_nil] at h3
  rw [List.getElem?_append_left (by omega)] at hx
  by_cases hj : j + 1 < l.length
  · rw [List.getElem?_append_left hj] at hy
    exact h j x y hx hy hg
  · have he : j + 1 = l.length := by omega
    rw [he, List.getElem?_append_right (Nat.le_refl _), Nat.sub_self] at hy
    cases hy
    have hne : l ≠ [] := fun e => by rw [e] at he; simp at he
    have hl := vLast_get hx he
    have := hz hne (by rw [hl]; exact hg)
    rwa [hl] at this
theorem kDo_lf {l m : List VR} {o : KO} {a : KM} (h : vOk l) (hf : vLf l) (hd : kDo l o = some (m, a)) : vLf m := by
  unfold kDo at hd
  split at hd
  · split at hd
    · cases hd
      refine vLf_snoc hf fun _ hg => ?_
      unfold vPut
      rw [if_neg (by rw [hg]; decide)]
      exact ⟨rfl, rfl, rfl⟩
    · cases hd
  · split at hd
    · split at hd
      · cases hd; exact hf
      · split at hd
        · cases hd
          exact vLf_snoc hf fun _ _ => ⟨rfl, rfl, rfl⟩
        · cases hd
    · split at hd
      · cases hd; exact hf
      · split at hd
        · cases hd; exact hf
        · split at hd
          · cases hd
            obtain ⟨n, e⟩ := vCompact_drop h o.at_
            rw [e]; exact vLf_drop hf n
          · split at hd <;> (cases hd; exact hf)
end Go.Proofs.Ytiblemgccgbhoaa
set_option linter.unusedVariables false
set_option linter.unusedSimpArgs false
namespace Go.Proofs.Ytiblemgccgbhoaa
open Go Go.RowKit Gw
/-- Behind an end a greater number comes. -/
def vSt (l : List VR) : Prop := ∀ (j : Nat) (x y : VR), l[j]? = some x → l[j + 1]? = some y → x.gone = true → x.rev_Main < y.rev_Main
theorem vSt_nil : vSt [] := fun j x y h => by simp at h
theorem vSt_drop {l : List VR} (h : vSt l) (n : Nat) : vSt (l.drop n) := fun j x y hx hy hg => by
  rw [List.getElem?_drop] at hx hy
  exact h (n + j) x y hx (by rw [Nat.add_assoc]; exact hy) hg
theorem vSt_snoc {l : List VR} (h : vSt l) {z : VR} (hz : l ≠ [] → (vLast l).gone = true → (vLast l).rev_Main < z.rev_Main) : vSt (l ++ [z]) := fun j x y hx hy hg => by
  have h3 := (List.getElem?_eq_some_iff.1 hy).1
  rw [List.length_append] at h3
  simp only [List.length_cons, List.length_nil] at h3
  rw [List.getElem?_append_left (by omega)] at hx
  by_cases hj : j + 1 < l.length
  · rw [List.getElem?_append_left hj] at hy
    exact h j x y hx hy hg
  · have he : j + 1 = l.length := by omega
    rw [he, List.getElem?_append_right (Nat.le_refl _), Nat.sub_self] at hy
    cases hy
    have hne : l ≠ [] := fun e => by rw [e] at he; simp at he
    have hl := vLast_get hx he
    have := hz hne (by rw [hl]; exact hg)
    rwa [hl] at this
theorem kDo_st {l m : List VR} {o : KO} {a : KM} {i : Nat} (h : vOk l) (hf : vSt l) (hc : kChk i l o) (hd : kDo l o = some (m, a)) : vSt m := by
  unfold kDo at hd
  split at hd
  · rename_i hk
    split at hd
    · rename_i hl
      cases hd
      refine vSt_snoc hf fun hne hg => ?_
      have h1 := rLt_of hl
      have h2 : (vPut l o.rev_Main o.rev_Sub).rev_Main = o.rev_Main := by unfold vPut; split <;> rfl
      rw [h2]
      have h3 := hc.2.2.2
      have h4 : 0 < l.length := List.length_pos_iff.2 hne
      rcases h1 with h1 | h1
      · exact h1
      · exact absurd ⟨hk, h4, hg, h1.1⟩ h3
    · cases hd
  · split at hd
    · split at hd
      · cases hd; exact hf
      · rename_i hg
        split at hd
        · cases hd
          exact vSt_snoc hf fun _ hg2 => absurd hg2 hg
        · cases hd
    · split at hd
      · cases hd; exact hf
      · split at hd
        · cases hd; exact hf
        · split at hd
          · cases hd
            obtain ⟨n, e⟩ := vCompact_drop h o.at_
            rw [e]; exact vSt_drop hf n
          · split at hd <;> (cases hd; exact hf)
structure vGood (l : List VR) : Prop where
  ok : vOk l
  lf : vLf l
  st : vSt l
theorem vGood_nil : vGood [] := ⟨vOk_nil, vLf_nil, vSt_nil⟩
theorem kStep_good {i : Nat} {l m : List VR} {o : KO} {a : KM} (h : vGood l) (hs : kStep i l o = some (m, a)) : vGood m := by
  have hs0 := hs
  unfold kStep at hs
  split at hs
  · rename_i hc
    cases hd : kDo l o with
    | none => rw [hd] at hs; cases hs
    | some q =>
      obtain ⟨m3, b⟩ := q
      rw [hd] at hs
      dsimp only at hs
      split at hs
      · cases hs
      · cases hs; exact ⟨kDo_ok h.ok hc hd, kDo_lf h.ok h.lf hd, kDo_st h.ok h.st hc hd⟩
  · cases hs
theorem kRun_good : ∀ (ops : List KO) (l m : List VR) (out res : List KM), vGood l → kRun l out ops = some (m, res) → vGood m := by
  intro ops
  induction ops with
  | nil => intro l m out res h e; rw [kRun] at e; cases e; exact h
  | cons o r ih =>
    intro l m out res h e
    rw [kRun] at e
    cases hs : kStep out.length l o with
    | none => rw [hs] at e; cases e
    | some p =>
      obtain ⟨m2, a⟩ := p
      rw [hs] at e
      exact ih m2 m _ _ (kStep_good h hs) e
theorem kLife_good {l m : List VR} {ops : List KO} {res : List KM} (h : vGood l) (e : kLife l ops = some (m, res)) : vGood m := by
  unfold kLife at e
  split at e
  · exact kRun_good ops l m [] res h e
  · cases e
/-! ### Lives -/
def Opn (p : List VR) : Prop := p ≠ [] ∧ ∀ y ∈ p, y.gone = false
def Clo (p : List VR) : Prop := ∃ q x, p = q ++ [x] ∧ x.gone = true ∧ ∀ y ∈ q, y.gone = false
theorem Clo.ne {p : List VR} (h : Clo p) : p ≠ [] := by obtain ⟨q, x, rfl, _⟩ := h; simp
theorem Clo.last {p : List VR} (h : Clo p) : (vLast p).gone = true := by obtain ⟨q, x, rfl, h, _⟩ := h; rw [vLast_snoc]; exact h
theorem Opn.last {p : List VR} (h : Opn p) : (vLast p).gone = false := h.2 _ (vLast_mem h.1)
theorem lives_ind {P : List VR → Prop} (ho : ∀ p, Opn p → P p) (hc : ∀ p, Clo p → P p) (hs : ∀ p r, Clo p → r ≠ [] → P r → P (p ++ r)) : ∀ l, l ≠ [] → P l := by
  have key : ∀ (n : Nat) (l : List VR), l.length ≤ n → l ≠ [] → P l := by
    intro n
    induction n with
    | zero => intro l hl hne; exact absurd (List.eq_nil_of_length_eq_zero (by omega)) hne
    | succ n ih =>
      intro l hl hne
      have e := List.takeWhile_append_dropWhile (p := fun x : VR => !x.gone) (l := l)
      have hq : ∀ y ∈ l.takeWhile (fun x : VR => !x.gone), y.gone = false := fun y hy => by simpa using List.all_eq_true.1 (List.all_takeWhile (p := fun x : VR => !x.gone) (l := l)) y hy
      cases hd : l.dropWhile (fun x : VR => !x.gone) with
      | nil =>
        rw [hd, List.append_nil] at e
        exact ho l ⟨hne, e ▸ hq⟩
      | cons x r =>
        have hx : x.gone = true := by
          have h1 : (l.dropWhile (fun x : VR => !x.gone)) ≠ [] := by rw [hd]; simp
          have h2 := List.head_dropWhile_not (p := fun x : VR => !x.gone) (w := h1)
          have h3 : (l.dropWhile (fun x : VR => !x.gone)).head h1 = x := by simp [hd]
          rw [h3] at h2
          simpa using h2
        have e2 : l = (l.takeWhile (fun x : VR => !x.gone) ++ [x]) ++ r := by rw [List.append_assoc, List.singleton_append, ← hd, e]
        have hclo : Clo (l.takeWhile (fun x : VR => !x.gone) ++ [x]) := ⟨_, x, rfl, hx, hq⟩
        rw [e2]
        by_cases hr : r = []
        · rw [hr, List.append_nil]; exact hc _ hclo
        · refine hs _ r hclo hr (ih r ?_ hr)
          have := congrArg List.length e2
          simp only [List.length_append, List.length_cons, List.length_nil] at this
          omega
  exact fun l hne => key l.length l (Nat.le_refl _) hne
def lifeOf (p : List VR) : GM := ⟨(vLast p).ver, (p.head?.getD vNone).created_Main, (p.head?.getD vNone).created_Sub, p.map VR.rv⟩
theorem dGo_life : ∀ (n : Nat) (p : List VR), p.length = n → p ≠ [] → (∀ y ∈ p.dropLast, y.gone = false) → dGo p = ([lifeOf p], !(vLast p).gone) := by
  intro n
  induction n with
  | zero => intro p hn hne; exact absurd (List.eq_nil_of_length_eq_zero hn) hne
  | succ n ih =>
    intro p hn hne hy
    obtain ⟨q, x, rfl⟩ : ∃ q x, p = q ++ [x] := ⟨p.dropLast, p.getLast hne, (List.dropLast_concat_getLast hne).symm⟩
    rw [dGo_snoc, vLast_snoc]
    rw [List.dropLast_concat] at hy
    by_cases hq : q = []
    · subst hq; rfl
    · have hql : (vLast q).gone = false := hy _ (vLast_mem hq)
      rw [ih q (by simp at hn; omega) hq (fun y h => hy y (List.dropLast_subset _ h)), hql]
      unfold dStep
      obtain ⟨a, r, rfl⟩ : ∃ a r, q = a :: r := by
        cases q with
        | nil => exact absurd rfl hq
        | cons a r => exact ⟨a, r, rfl⟩
      have e1 : vLast (a :: r ++ [x]) = x := vLast_snoc _ _
      unfold lifeOf
      rw [e1]
      simp [gLast, gAdd]
theorem dStep_pre (A G : List GM) (b : Bool) (v : VR) (h : b = true → G ≠ []) : dStep (A ++ G, b) v = (A ++ (dStep (G, b) v).1, (dStep (G, b) v).2) ∧ (dStep (G, b) v).1 ≠ [] := by
  have key : ∀ H : List GM, H ≠ [] → (A ++ H).dropLast ++ [gAdd (gLast (A ++ H)) v] = A ++ (H.dropLast ++ [gAdd (gLast H) v]) := by
    intro H hH
    have e1 : (A ++ H).dropLast = A ++ H.dropLast := by rw [List.dropLast_append_of_ne_nil hH]
    have e2 : gLast (A ++ H) = gLast H := by
      unfold gLast
      rw [List.getLast?_append, List.getLast?_eq_some_getLast hH]; rfl
    rw [e1, e2, List.append_assoc]
  unfold dStep
  cases b with
  | true => exact ⟨by simp only [if_true]; rw [key G (h rfl)], by simp⟩
  | false =>
    refine ⟨?_, by simp⟩
    simp only [Bool.false_eq_true, if_false]
    rw [List.append_assoc, key _ (by simp)]
theorem dGo_pre (A : List GM) : ∀ (r : List VR) (G : List GM) (b : Bool), (b = true → G ≠ []) → r.foldl dStep (A ++ G, b) = (A ++ (r.foldl dStep (G, b)).1, (r.foldl dStep (G, b)).2)
  | [], G, b, _ => rfl
  | v :: r, G, b, h => by
    obtain ⟨h1, h2⟩ := dStep_pre A G b v h
    rw [List.foldl_cons, List.foldl_cons, h1]
    exact dGo_pre A r (dStep (G, b) v).1 (dStep (G, b) v).2 fun _ => h2
theorem Clo.go {p : List VR} (h : Clo p) : dGo p = ([lifeOf p], false) := by
  have hl := h.last
  obtain ⟨q, x, rfl, hx, hq⟩ := h
  rw [dGo_life _ _ rfl (by simp) (by rw [List.dropLast_concat]; exact hq), hl]; rfl
theorem Opn.go {p : List VR} (h : Opn p) : dGo p = ([lifeOf p], true) := by
  rw [dGo_life _ _ rfl h.1 (fun y hy => h.2 y (List.dropLast_subset _ hy)), h.last]; rfl
theorem dGens_opn {p : List VR} (h : Opn p) : dGens p = [lifeOf p] := by
  unfold dGens
  rw [h.go, if_neg (by rw [h.last]; simp)]; rfl
theorem dGens_clo {p : List VR} (h : Clo p) : dGens p = [lifeOf p, gZero] := by
  unfold dGens
  rw [h.go, if_pos ⟨List.length_pos_iff.2 h.ne, h.last⟩]; rfl
theorem vLast_app {p r : List VR} (h : r ≠ []) : vLast (p ++ r) = vLast r := by
  unfold vLast
  rw [List.getLast?_append, List.getLast?_eq_some_getLast h]; rfl
theorem dGens_app {p r : List VR} (h : Clo p) (hr : r ≠ []) : dGens (p ++ r) = lifeOf p :: dGens r := by
  have hl : 0 < r.length := List.length_pos_iff.2 hr
  have e : dGo (p ++ r) = ([lifeOf p] ++ (dGo r).1, (dGo r).2) := by
    unfold dGo
    rw [List.foldl_append, show p.foldl dStep ([], false) = ([lifeOf p] ++ [], false) from h.go]
    exact dGo_pre _ r [] false (fun h => by cases h)
  unfold dGens
  rw [e, vLast_app hr]
  simp only [List.length_append]
  by_cases hg : (vLast r).gone = true
  · rw [if_pos ⟨by omega, hg⟩, if_pos ⟨hl, hg⟩]; rfl
  · rw [if_neg (fun h => hg h.2), if_neg (fun h => hg h.2)]; simp
/-! ### Orders -/
theorem app_l {p r : List VR} {i : Nat} {x : VR} (h : p[i]? = some x) : (p ++ r)[i]? = some x := by
  rw [List.getElem?_append_left (List.getElem?_eq_some_iff.1 h).1]; exact h
theorem app_r {p r : List VR} {i : Nat} {x : VR} (h : r[i]? = some x) : (p ++ r)[p.length + i]? = some x := by
  rw [List.getElem?_append_right (by omega), Nat.add_sub_cancel_left]; exact h
theorem vGood.left {p r : List VR} (h : vGood (p ++ r)) : vGood p :=
  ⟨⟨fun i j x y hij hx hy => h.ok.lt i j x y hij (app_l hx) (app_l hy), fun x hx => h.ok.pos x (List.mem_append_left _ hx), fun i j x y z hij hx hy hz hg => h.ok.life i j x y z hij (app_l hx) (app_l hy) (app_l hz) hg⟩,
    fun j x y hx hy hg => h.lf j x y (app_l hx) (app_l hy) hg, fun j x y hx hy hg => h.st j x y (app_l hx) (app_l hy) hg⟩
theorem vGood.drop {l : List VR} (h : vGood l) (n : Nat) : vGood (l.drop n) := ⟨vOk_drop h.ok n, vLf_drop h.lf n, vSt_drop h.st n⟩
theorem vGood.right {p r : List VR} (h : vGood (p ++ r)) : vGood r := by
  have := h.drop p.length
  rwa [List.drop_left] at this
theorem vGood.mono {l : List VR} (h : vGood l) {i j : Nat} {x y : VR} (hij : i ≤ j) (hx : l[i]? = some x) (hy : l[j]? = some y) : x.rev_Main ≤ y.rev_Main := by
  rcases Nat.lt_or_ge i j with h1 | h1
  · have := h.ok.lt i j x y h1 hx hy
    unfold rLt VR.rv at this
    simp only at this
    omega
  · obtain rfl : i = j := by omega
    rw [hx] at hy; cases hy; exact Int.le_refl _
theorem last_at {p : List VR} (h : p ≠ []) : p[p.length - 1]? = some (vLast p) := by
  unfold vLast
  rw [List.getLast?_eq_getElem?]
  obtain ⟨x, hx⟩ : ∃ x, p[p.length - 1]? = some x := ⟨p[p.length - 1]'(by have := List.length_pos_iff.2 h; omega), List.getElem?_eq_getElem _⟩
  rw [hx]; rfl
theorem vGood.apart {p r : List VR} (h : vGood (p ++ r)) (hc : Clo p) {i j : Nat} {x y : VR} (hx : p[i]? = some x) (hy : r[j]? = some y) : x.rev_Main < y.rev_Main := by
  have hil := (List.getElem?_eq_some_iff.1 hx).1
  have h0 : ∃ z, r[0]? = some z := ⟨r[0]'(by have := (List.getElem?_eq_some_iff.1 hy).1; omega), List.getElem?_eq_getElem _⟩
  obtain ⟨z, hz⟩ := h0
  have h1 := h.left.mono (i := i) (j := p.length - 1) (by omega) hx (last_at hc.ne)
  have hp : 0 < p.length := List.length_pos_iff.2 hc.ne
  have h2 := h.st (p.length - 1) (vLast p) z (app_l (last_at hc.ne)) (by rw [show p.length - 1 + 1 = p.length + 0 by omega]; exact app_r hz) hc.last
  have h3 := h.right.mono (Nat.zero_le j) hz hy
  omega
/-! ### The last one at or below a number -/
theorem rLastN_map (p : List VR) (at_ : Int) : ∀ n, rLastN (p.map VR.rv) at_ n = vLastN p at_ n
  | 0 => rfl
  | n + 1 => by
    unfold rLastN vLastN
    rw [List.getElem?_map]
    cases p[n]? with
    | none => exact rLastN_map p at_ n
    | some v => simp only [Option.map_some, VR.rv]; rw [rLastN_map p at_ n]
theorem vLastN_pre (p r : List VR) (at_ : Int) : ∀ n, n ≤ p.length → vLastN (p ++ r) at_ n = vLastN p at_ n
  | 0, _ => rfl
  | n + 1, h => by
    unfold vLastN
    rw [List.getElem?_append_left (by omega), vLastN_pre p r at_ n (by omega)]
theorem vLastN_app (p r : List VR) (at_ : Int) : ∀ k, k ≤ r.length → vLastN (p ++ r) at_ (p.length + k) = if vLastN r at_ k = 0 then vLastN p at_ p.length else p.length + vLastN r at_ k
  | 0, _ => by rw [Nat.add_zero, vLastN_pre p r at_ _ (Nat.le_refl _)]; rfl
  | k + 1, h => by
    have hk : k < r.length := by omega
    have ih := vLastN_app p r at_ k (by omega)
    rw [← Nat.add_assoc]
    by_cases hv : (r[k]'hk).rev_Main ≤ at_
    · rw [vLastN_yes (app_r (List.getElem?_eq_getElem hk)) hv, vLastN_yes (List.getElem?_eq_getElem hk) hv, if_neg (by omega)]; omega
    · rw [vLastN_no (app_r (List.getElem?_eq_getElem hk)) hv, vLastN_no (List.getElem?_eq_getElem hk) hv, ih]
theorem vLastN_zero {l : List VR} {at_ : Int} (h : ∀ x ∈ l, at_ < x.rev_Main) : ∀ n, vLastN l at_ n = 0
  | 0 => rfl
  | n + 1 => by
    cases hn : l[n]? with
    | none => simp [vLastN, hn, vLastN_zero h n]
    | some v => rw [vLastN_no hn (by have := h v (List.mem_of_getElem? hn); omega), vLastN_zero h n]
theorem vLastN_pos {l : List VR} {at_ : Int} {x : VR} (hx : l[0]? = some x) (h : x.rev_Main ≤ at_) : 0 < vLastN l at_ l.length := by
  rcases Nat.eq_zero_or_pos (vLastN l at_ l.length) with h0 | h0
  · have := vLastN_above l at_ l.length 0 x (by omega) ((List.getElem?_eq_some_iff.1 hx).1) hx
    omega
  · exact h0
theorem vLastN_all {p : List VR} {at_ : Int} (hp : p ≠ []) (h : (vLast p).rev_Main ≤ at_) : vLastN p at_ p.length = p.length := by
  have hl := last_at hp
  have h0 : 0 < p.length := List.length_pos_iff.2 hp
  obtain ⟨n, hn⟩ : ∃ n, p.length = n + 1 := ⟨p.length - 1, by omega⟩
  rw [hn] at hl ⊢
  exact vLastN_yes hl h
/-! ### What holds at a number -/
def getIn (g : GM) (at_ : Int) : Option (Int × Int × Int × Int × Int) :=
  if g.l.length = 0 then none else if rLastN g.l at_ g.l.length = 0 then none else match g.l[rLastN g.l at_ g.l.length - 1]? with
    | none => none
    | some r => some (r.main, r.sub, g.cm, g.cs, g.ver - ((g.l.length : Int) - rLastN g.l at_ g.l.length))
def gx (at_ : Int) : List GM → Option (Option (Int × Int × Int × Int × Int))
  | [] => none
  | g :: r => match gx at_ r with
    | some z => some z
    | none => if g.l.length = 0 then none else if r.length ≠ 0 ∧ gEnd g ≤ at_ then some none else if gBeg g ≤ at_ then some (getIn g at_) else none
def fN (G : List GM) (at_ : Int) : Nat → Option (Option Nat)
  | 0 => none
  | c + 1 => match G[c]? with
    | none => none
    | some g => if g.l.length = 0 then fN G at_ c else if c + 1 ≠ G.length ∧ gEnd g ≤ at_ then some none else if gBeg g ≤ at_ then some (some c) else fN G at_ c
theorem iFindN_fN (G : List GM) (at_ : Int) : ∀ c, iFindN G at_ c = (fN G at_ c).join
  | 0 => rfl
  | c + 1 => by
    have ih := iFindN_fN G at_ c
    rw [iFindN, fN]
    cases G[c]? with
    | none => rfl
    | some g =>
      simp only []
      by_cases h1 : g.l.length = 0
      · rw [if_pos h1, if_pos h1]; exact ih
      · rw [if_neg h1, if_neg h1]
        by_cases h2 : c + 1 ≠ G.length ∧ gEnd g ≤ at_
        · rw [if_pos h2, if_pos h2]; rfl
        · rw [if_neg h2, if_neg h2]
          by_cases h3 : gBeg g ≤ at_
          · rw [if_pos h3, if_pos h3]; rfl
          · rw [if_neg h3, if_neg h3]; exact ih
def fStep (g : GM) (r : List GM) (at_ : Int) : Option (Option Nat) := if g.l.length = 0 then none else if r.length ≠ 0 ∧ gEnd g ≤ at_ then some none else if gBeg g ≤ at_ then some (some 0) else none
theorem fN_cons (g : GM) (r : List GM) (at_ : Int) : ∀ c, c ≤ r.length → fN (g :: r) at_ (c + 1) = match fN r at_ c with | some z => some (z.map (· + 1)) | none => fStep g r at_
  | 0, _ => by
    unfold fN fStep
    simp only [List.getElem?_cons_zero, List.length_cons]
    have h1 : (0 + 1 ≠ r.length + 1) = (r.length ≠ 0) := propext ⟨fun h e => h (by omega), fun h e => h (by omega)⟩
    simp only [h1]
    split
    · rfl
    · split
      · rfl
      · split <;> rfl
  | c + 1, h => by
    have hc : c < r.length := by omega
    have ih := fN_cons g r at_ c (by omega)
    rw [fN, List.getElem?_cons_succ, List.getElem?_eq_getElem hc]
    conv => rhs; rw [fN, List.getElem?_eq_getElem hc]
    simp only [List.length_cons]
    have h1 : (c + 1 + 1 ≠ r.length + 1) = (c + 1 ≠ r.length) := propext ⟨fun h e => h (by omega), fun h e => h (by omega)⟩
    simp only [h1]
    split
    · rw [ih]
    · split
      · rfl
      · split
        · rfl
        · rw [ih]
theorem gx_fN (at_ : Int) : ∀ G : List GM, gx at_ G = (fN G at_ G.length).map fun o => o.bind fun j => (G[j]?).bind fun g => getIn g at_
  | [] => rfl
  | g :: r => by
    have ih := gx_fN at_ r
    rw [List.length_cons, fN_cons g r at_ _ (Nat.le_refl _), gx, ih]
    cases fN r at_ r.length with
    | some z =>
      simp only [Option.map_some]
      cases z <;> simp
    | none =>
      simp only [Option.map_none]
      unfold fStep
      split
      · rfl
      · split
        · rfl
        · split
          · simp
          · rfl
theorem iGet_gx (G : List GM) (at_ : Int) : iGet G at_ = (gx at_ G).join := by
  have h : iFind G at_ = (fN G at_ G.length).join := iFindN_fN G at_ G.length
  unfold iGet
  rw [h, gx_fN]
  cases fN G at_ G.length with
  | none => rfl
  | some z =>
    cases z with
    | none => rfl
    | some j =>
      simp only [Option.join_some, Option.map_some, Option.bind_some]
      cases G[j]? with
      | none => rfl
      | some g => rfl
def holdT (l : List VR) (at_ : Int) : Option (Int × Int × Int × Int × Int) := (vHoldX l at_).map fun v => (v.rev_Main, v.rev_Sub, v.created_Main, v.created_Sub, v.ver)
def Lif (p : List VR) : Prop := p ≠ [] ∧ ∀ (i : Nat) (x : VR), p[i]? = some x → i + 1 < p.length → x.gone = false
theorem Opn.lif {p : List VR} (h : Opn p) : Lif p := ⟨h.1, fun i x hx _ => h.2 x (List.mem_of_getElem? hx)⟩
theorem Clo.lif {p : List VR} (h : Clo p) : Lif p := by
  refine ⟨h.ne, fun i x hx hi => ?_⟩
  obtain ⟨q, z, rfl, hz, hq⟩ := h
  rw [List.length_append] at hi
  simp only [List.length_cons, List.length_nil] at hi
  rw [List.getElem?_append_left (by omega)] at hx
  exact hq x (List.mem_of_getElem? hx)
theorem Lif.at {p : List VR} (h : Lif p) (hf : vLf p) {a : VR} (ha : p[0]? = some a) : ∀ (i : Nat) (x : VR), p[i]? = some x → x.created_Main = a.created_Main ∧ x.created_Sub = a.created_Sub ∧ x.ver = a.ver + i
  | 0, x, hx => by rw [ha] at hx; cases hx; exact ⟨rfl, rfl, by simp⟩
  | i + 1, x, hx => by
    have hl := (List.getElem?_eq_some_iff.1 hx).1
    obtain ⟨y, hy⟩ : ∃ y, p[i]? = some y := ⟨p[i]'(by omega), List.getElem?_eq_getElem _⟩
    obtain ⟨e1, e2, e3⟩ := h.at hf ha i y hy
    obtain ⟨f1, f2, f3⟩ := hf i y x hy hx (h.2 i y hy hl)
    exact ⟨f1.trans e1, f2.trans e2, by rw [f3, e3]; push_cast; omega⟩
theorem Lif.head {p : List VR} (h : Lif p) : ∃ a, p[0]? = some a ∧ p.head?.getD vNone = a := by
  obtain ⟨hne, _⟩ := h
  cases p with
  | nil => exact absurd rfl hne
  | cons a r => exact ⟨a, rfl, rfl⟩
theorem lifeOf_len (p : List VR) : (lifeOf p).l.length = p.length := by simp [lifeOf]
theorem lifeOf_last (p : List VR) (at_ : Int) : rLastN (lifeOf p).l at_ (lifeOf p).l.length = vLastN p at_ p.length := by
  rw [lifeOf_len]; exact rLastN_map p at_ _
theorem lifeOf_end {p : List VR} (h : p ≠ []) : gEnd (lifeOf p) = (vLast p).rev_Main := by
  unfold gEnd lifeOf
  simp only [List.getLast?_eq_getElem?, List.length_map, List.getElem?_map, last_at h]
  rfl
theorem lifeOf_beg {p : List VR} {a : VR} (h : p[0]? = some a) : gBeg (lifeOf p) = a.rev_Main := by
  unfold gBeg lifeOf
  simp only [List.head?_eq_getElem?, List.getElem?_map, h]
  rfl
theorem getIn_life {p : List VR} {at_ : Int} (h : Lif p) (hf : vLf p) (hg : ∀ x, p[vLastN p at_ p.length - 1]? = some x → 0 < vLastN p at_ p.length → x.gone = false) : getIn (lifeOf p) at_ = holdT p at_ := by
  obtain ⟨a, ha, hh⟩ := h.head
  have hp : 0 < p.length := List.length_pos_iff.2 h.1
  unfold getIn holdT vHoldX
  rw [if_neg (by rw [lifeOf_len]; omega), lifeOf_last, lifeOf_len]
  by_cases h0 : vLastN p at_ p.length = 0
  · rw [if_pos h0, if_pos h0]; rfl
  · rw [if_neg h0, if_neg h0]
    have hle := vLastN_le p at_ p.length
    obtain ⟨x, hx⟩ : ∃ x, p[vLastN p at_ p.length - 1]? = some x := ⟨p[vLastN p at_ p.length - 1]'(by omega), List.getElem?_eq_getElem _⟩
    have hx2 : (lifeOf p).l[vLastN p at_ p.length - 1]? = some x.rv := by unfold lifeOf; rw [List.getElem?_map, hx]; rfl
    have hxg := hg x hx (by omega)
    obtain ⟨e1, e2, e3⟩ := h.at hf ha _ x hx
    obtain ⟨f1, f2, f3⟩ := h.at hf ha _ _ (last_at h.1)
    have c1 : (lifeOf p).cm = x.created_Main := by show (p.head?.getD vNone).created_Main = _; rw [hh, e1]
    have c2 : (lifeOf p).cs = x.created_Sub := by show (p.head?.getD vNone).created_Sub = _; rw [hh, e2]
    have c3 : (lifeOf p).ver = (vLast p).ver := rfl
    rw [hx2, hx]
    simp only [Option.bind_some, hxg, Bool.false_eq_true, if_false, Option.map_some, Option.some.injEq, Prod.mk.injEq, c1, c2, c3, VR.rv, true_and]
    rw [f3, e3]
    omega
theorem holdT_app_l {p r : List VR} {at_ : Int} (h : vLastN r at_ r.length = 0) : holdT (p ++ r) at_ = holdT p at_ := by
  have hl := vLastN_app p r at_ r.length (Nat.le_refl _)
  rw [if_pos h] at hl
  have hle := vLastN_le p at_ p.length
  unfold holdT vHoldX
  rw [List.length_append, hl]
  by_cases h0 : vLastN p at_ p.length = 0
  · rw [if_pos h0, if_pos h0]
  · have hp0 : vLastN p at_ p.length - 1 < p.length := by omega
    rw [if_neg h0, if_neg h0, List.getElem?_append_left hp0]
theorem holdT_app_r {p r : List VR} {at_ : Int} (h : 0 < vLastN r at_ r.length) : holdT (p ++ r) at_ = holdT r at_ := by
  have hl := vLastN_app p r at_ r.length (Nat.le_refl _)
  rw [if_neg (by omega)] at hl
  unfold holdT vHoldX
  rw [List.length_append, hl, if_neg (by omega), if_neg (by omega), List.getElem?_append_right (by omega), show p.length + vLastN r at_ r.length - 1 - p.length = vLastN r at_ r.length - 1 by omega]
theorem holdT_gone {p : List VR} {at_ : Int} (hp : p ≠ []) (hg : (vLast p).gone = true) (h : (vLast p).rev_Main ≤ at_) : holdT p at_ = none := by
  unfold holdT vHoldX
  have h0 : 0 < p.length := List.length_pos_iff.2 hp
  rw [vLastN_all hp h, if_neg (by omega), last_at hp]
  simp [hg]
theorem Clo.notgone {p : List VR} (h : Clo p) {at_ : Int} (hl : ¬ (vLast p).rev_Main ≤ at_) : ∀ x, p[vLastN p at_ p.length - 1]? = some x → 0 < vLastN p at_ p.length → x.gone = false := fun x hx h0 => by
  have hle := vLastN_le p at_ p.length
  refine h.lif.2 _ x hx ?_
  rcases Nat.lt_or_ge (vLastN p at_ p.length - 1 + 1) p.length with h1 | h1
  · exact h1
  · exfalso
    obtain ⟨y, hy, hya⟩ := vLastN_below p at_ p.length h0
    rw [show vLastN p at_ p.length - 1 = p.length - 1 by omega, last_at h.ne] at hy
    cases hy
    exact hl hya
theorem gx_get {l : List VR} (hne : l ≠ []) : vGood l → ∀ at_ a, l[0]? = some a → gx at_ (dGens l) = if a.rev_Main ≤ at_ then some (holdT l at_) else none := by
  refine lives_ind (P := fun l => vGood l → ∀ at_ a, l[0]? = some a → gx at_ (dGens l) = if a.rev_Main ≤ at_ then some (holdT l at_) else none) (fun p hp hv at_ a ha => ?_) (fun p hp hv at_ a ha => ?_) (fun p r hp hr ih hv at_ a ha => ?_) l hne
  · rw [dGens_opn hp, gx, gx]
    simp only [List.length_nil, ne_eq, not_true, false_and, if_false]
    rw [if_neg (by rw [lifeOf_len]; have := List.length_pos_iff.2 hp.1; omega), lifeOf_beg ha, getIn_life hp.lif hv.lf (fun x hx _ => hp.2 x (List.mem_of_getElem? hx))]
  · have hpl : 0 < p.length := List.length_pos_iff.2 hp.ne
    rw [dGens_clo hp, gx, gx, gx]
    simp only [show gZero.l.length = 0 from rfl, if_true, List.length_cons, List.length_nil]
    rw [if_neg (by rw [lifeOf_len]; omega), lifeOf_beg ha, lifeOf_end hp.ne]
    have hm := hv.mono (i := 0) (j := p.length - 1) (by omega) ha (last_at hp.ne)
    by_cases he : (vLast p).rev_Main ≤ at_
    · rw [if_pos ⟨by omega, he⟩, if_pos (by omega), holdT_gone hp.ne hp.last he]
    · rw [if_neg (fun h => he h.2), getIn_life hp.lif hv.lf (hp.notgone he)]
  · have hpl : 0 < p.length := List.length_pos_iff.2 hp.ne
    have ha2 : p[0]? = some a := by rw [List.getElem?_append_left hpl] at ha; exact ha
    obtain ⟨b, hb⟩ : ∃ b, r[0]? = some b := ⟨r[0]'(List.length_pos_iff.2 hr), List.getElem?_eq_getElem _⟩
    have hd : (dGens r).length ≠ 0 := by
      have := dGo_lver (List.length_pos_iff.2 hr)
      unfold dGens
      rw [List.length_append]
      have := List.length_pos_iff.2 this.2.2
      omega
    rw [dGens_app hp hr, gx, ih hv.right at_ b hb]
    have hab := hv.apart hp ha2 hb
    by_cases hbt : b.rev_Main ≤ at_
    · rw [if_pos hbt]
      simp only []
      rw [if_pos (by omega), holdT_app_r (vLastN_pos hb hbt)]
    · rw [if_neg hbt]
      have h0 : vLastN r at_ r.length = 0 := vLastN_zero (fun x hx => by
        obtain ⟨j, hj⟩ := List.mem_iff_getElem?.1 hx
        have := hv.right.mono (Nat.zero_le j) hb hj
        omega) _
      rw [holdT_app_l h0]
      simp only
      rw [if_neg (by rw [lifeOf_len]; omega), lifeOf_beg ha2, lifeOf_end hp.ne]
      have hm := hv.left.mono (i := 0) (j := p.length - 1) (by omega) ha2 (last_at hp.ne)
      by_cases he : (vLast p).rev_Main ≤ at_
      · rw [if_pos ⟨hd, he⟩, if_pos (by omega), holdT_gone hp.ne hp.last he]
      · rw [if_neg (fun h => he h.2), getIn_life hp.lif hv.left.lf (hp.notgone he)]
theorem iGet_dGens {l : List VR} (hv : vGood l) (hne : l ≠ []) (at_ : Int) : iGet (dGens l) at_ = holdT l at_ := by
  obtain ⟨a, ha⟩ : ∃ a, l[0]? = some a := ⟨l[0]'(List.length_pos_iff.2 hne), List.getElem?_eq_getElem _⟩
  rw [iGet_gx, gx_get hne hv at_ a ha]
  by_cases h : a.rev_Main ≤ at_
  · rw [if_pos h]; rfl
  · rw [if_neg h]
    have h0 : vLastN l at_ l.length = 0 := vLastN_zero (fun x hx => by
      obtain ⟨j, hj⟩ := List.mem_iff_getElem?.1 hx
      have := hv.mono (Nat.zero_le j) ha hj
      omega) _
    unfold holdT vHoldX
    rw [if_pos h0]; rfl
theorem kmGet_hold (l : List VR) (at_ : Int) : kmGet (holdT l at_) = ⟨vHoldB l at_, (vHold l at_).rev_Main, (vHold l at_).rev_Sub, (vHold l at_).created_Main, (vHold l at_).created_Sub, (vHold l at_).ver, [], 0, 0, []⟩ := by
  unfold holdT vHoldB vHold
  cases vHoldX l at_ <;> rfl
end Go.Proofs.Ytiblemgccgbhoaa
set_option linter.unusedVariables false
set_option linter.unusedSimpArgs false
namespace Go.Proofs.Ytiblemgccgbhoaa
open Go Go.RowKit Gw
def cutIn (g : GM) (at_ : Int) : GM := ⟨g.ver, g.cm, g.cs, g.l.drop (rLastN g.l at_ g.l.length - 1)⟩
def keptIn (g : GM) (at_ : Int) : List RV := if rLastN g.l at_ g.l.length = 0 then [] else (g.l[rLastN g.l at_ g.l.length - 1]?).toList
theorem cIdx_cons (g : GM) {r : List GM} (hr : r ≠ []) (at_ : Int) : cIdx (g :: r) at_ = if at_ ≤ gEnd g then 0 else cIdx r at_ + 1 := by
  cases r with
  | nil => exact absurd rfl hr
  | cons h t => rfl
theorem iCompact_one (g : GM) (at_ : Int) : iCompact [g] at_ = [cutIn g at_] := rfl
theorem iCompact_cons (g : GM) {r : List GM} (hr : r ≠ []) (at_ : Int) : iCompact (g :: r) at_ = if at_ ≤ gEnd g then cutIn g at_ :: r else iCompact r at_ := by
  unfold iCompact
  rw [cIdx_cons g hr]
  by_cases h : at_ ≤ gEnd g
  · rw [if_pos h, if_pos h]; rfl
  · rw [if_neg h, if_neg h, List.drop_succ_cons]
theorem iKeptC_one (g : GM) (at_ : Int) : iKeptC [g] at_ = keptIn g at_ := rfl
theorem iKeptC_cons (g : GM) {r : List GM} (hr : r ≠ []) (at_ : Int) : iKeptC (g :: r) at_ = if at_ ≤ gEnd g then keptIn g at_ else iKeptC r at_ := by
  unfold iKeptC
  rw [cIdx_cons g hr]
  by_cases h : at_ ≤ gEnd g
  · rw [if_pos h, if_pos h]; rfl
  · rw [if_neg h, if_neg h, List.getElem?_cons_succ]
theorem iKeptK_eq (G : List GM) (at_ : Int) : iKeptK G at_ = match G[cIdx G at_]? with
  | none => []
  | some g => if rLastN g.l at_ g.l.length = g.l.length ∧ cIdx G at_ + 1 ≠ G.length then [] else iKeptC G at_ := by
  unfold iKeptK
  by_cases h : iEmp G = true
  · rw [if_pos h]
    match G, h with
    | [z], h =>
      have h0 : z.l.length = 0 := of_decide_eq_true h
      have h1 : z.l = [] := List.eq_nil_of_length_eq_zero h0
      simp [cIdx, iKeptC, h1, rLastN]
  · rw [if_neg h]; rfl
theorem iKeptK_one (g : GM) (at_ : Int) : iKeptK [g] at_ = keptIn g at_ := by
  rw [iKeptK_eq]
  simp [cIdx, iKeptC_one]
theorem iKeptK_cons (g : GM) {r : List GM} (hr : r ≠ []) (at_ : Int) : iKeptK (g :: r) at_ = if at_ ≤ gEnd g then (if rLastN g.l at_ g.l.length = g.l.length then [] else keptIn g at_) else iKeptK r at_ := by
  have hl : 0 < r.length := List.length_pos_iff.2 hr
  rw [iKeptK_eq, cIdx_cons g hr, iKeptC_cons g hr]
  by_cases h : at_ ≤ gEnd g
  · simp only [if_pos h, List.getElem?_cons_zero, List.length_cons]
    by_cases h1 : rLastN g.l at_ g.l.length = g.l.length
    · rw [if_pos ⟨h1, by omega⟩, if_pos h1]
    · rw [if_neg (fun h2 => h1 h2.1), if_neg h1]
  · simp only [if_neg h, List.getElem?_cons_succ, List.length_cons]
    rw [iKeptK_eq r]
    cases r[cIdx r at_]? with
    | none => rfl
    | some x =>
      simp only []
      by_cases h1 : rLastN x.l at_ x.l.length = x.l.length ∧ cIdx r at_ + 1 ≠ r.length
      · rw [if_pos ⟨h1.1, by omega⟩, if_pos h1]
      · rw [if_neg (fun h2 => h1 ⟨h2.1, by omega⟩), if_neg h1]
/-! ### Sieves -/
theorem vSieve_congr {l : List VR} {p q : Nat → VR → Bool} : ∀ n, (∀ (i : Nat) (x : VR), l[i]? = some x → p i x = q i x) → vSieve l p n = vSieve l q n
  | 0, _ => rfl
  | n + 1, h => by
    unfold vSieve
    rw [vSieve_congr n h]
    cases hn : l[n]? with
    | none => rfl
    | some v => simp only []; rw [h n v hn]
theorem vSieve_pre (p r : List VR) (f : Nat → VR → Bool) : ∀ n, n ≤ p.length → vSieve (p ++ r) f n = vSieve p f n
  | 0, _ => rfl
  | n + 1, h => by
    unfold vSieve
    rw [List.getElem?_append_left (by omega), vSieve_pre p r f n (by omega)]
theorem vSieve_app (p r : List VR) (f : Nat → VR → Bool) : ∀ k, k ≤ r.length → vSieve (p ++ r) f (p.length + k) = vSieve p f p.length ++ vSieve r (fun i => f (p.length + i)) k
  | 0, _ => by rw [Nat.add_zero, vSieve_pre p r f _ (Nat.le_refl _)]; simp [vSieve]
  | k + 1, h => by
    rw [← Nat.add_assoc]
    conv => lhs; unfold vSieve
    conv => rhs; rhs; unfold vSieve
    rw [vSieve_app p r f k (by omega), List.getElem?_append_right (by omega), Nat.add_sub_cancel_left, List.append_assoc]
theorem vSieve_none {l : List VR} {p : Nat → VR → Bool} : ∀ n, (∀ (i : Nat) (x : VR), l[i]? = some x → p i x = false) → vSieve l p n = []
  | 0, _ => rfl
  | n + 1, h => by
    unfold vSieve
    rw [vSieve_none n h]
    cases hn : l[n]? with
    | none => rfl
    | some v => simp [h n v hn]
theorem vSieve_all {l : List VR} {p : Nat → VR → Bool} (h : ∀ (i : Nat) (x : VR), l[i]? = some x → p i x = true) : vSieve l p l.length = l := by
  have := vSieve_thr (n := 0) (fun k x hx => ⟨fun _ => Nat.zero_le _, fun _ => h k x hx⟩) l.length (Nat.le_refl _)
  rwa [List.take_length, List.drop_zero] at this
theorem vSieve_one {l : List VR} {p : Nat → VR → Bool} {c : Nat} {x : VR} (hx : l[c]? = some x) (h : ∀ (k : Nat) (y : VR), l[k]? = some y → (p k y = true ↔ k = c)) : vSieve l p l.length = [x] := by
  have hc := (List.getElem?_eq_some_iff.1 hx).1
  have key : ∀ n, n ≤ l.length → vSieve l p n = if c < n then [x] else [] := by
    intro n
    induction n with
    | zero => intro _; rfl
    | succ n ih =>
      intro hn
      have hy := List.getElem?_eq_getElem (l := l) (i := n) (by omega)
      by_cases h1 : n = c
      · subst h1
        rw [vSieve_yes hx ((h n x hx).2 rfl), ih (by omega), if_neg (by omega), if_pos (by omega)]; rfl
      · have hf : p n (l[n]'(by omega)) = false := by
          cases he : p n (l[n]'(by omega)) with
          | false => rfl
          | true => exact absurd ((h n _ hy).1 he) h1
        rw [vSieve_no hy hf, ih (by omega)]
        by_cases h2 : c < n
        · rw [if_pos h2, if_pos (by omega)]
        · rw [if_neg h2, if_neg (by omega)]
  rw [key _ (Nat.le_refl _), if_pos hc]
def keptP (l : List VR) (at_ : Int) (ends : Bool) (i : Nat) (v : VR) : Bool := decide (v.rev_Main ≤ at_) && vStay l at_ i v && (ends || !v.gone)
theorem vKept_P (l : List VR) (at_ : Int) (e : Bool) : vKept l at_ e = (vSieve l (keptP l at_ e) l.length).map VR.rv := rfl
/-! ### One life -/
section
variable {p r : List VR} {at_ : Int}
theorem stay_thr (hv : vGood p) (hs : ∀ x, p[vLastN p at_ p.length - 1]? = some x → 0 < vLastN p at_ p.length → x.gone = false ∨ x.rev_Main = at_) (k : Nat) (x : VR) (hx : p[k]? = some x) : vStay p at_ k x = true ↔ vLastN p at_ p.length - 1 ≤ k := by
  have hk := (List.getElem?_eq_some_iff.1 hx).1
  unfold vStay
  rw [decide_eq_true_eq]
  constructor
  · rintro (h1 | ⟨h1, _⟩)
    · rcases Nat.lt_or_ge k (vLastN p at_ p.length - 1) with h2 | h2
      · exfalso
        obtain ⟨y, hy, hya⟩ := vLastN_below p at_ p.length (by omega)
        have := hv.mono (Nat.le_of_lt h2) hx hy
        omega
      · exact h2
    · omega
  · intro h1
    rcases Nat.lt_or_ge k (vLastN p at_ p.length) with h2 | h2
    · have e : k = vLastN p at_ p.length - 1 := by omega
      exact .inr ⟨by omega, hs x (e ▸ hx) (by omega)⟩
    · exact .inl (vLastN_above p at_ p.length k x h2 hk hx)
theorem compact_life (hv : vGood p) (hs : ∀ x, p[vLastN p at_ p.length - 1]? = some x → 0 < vLastN p at_ p.length → x.gone = false ∨ x.rev_Main = at_) : vCompact p at_ = p.drop (vLastN p at_ p.length - 1) := by
  unfold vCompact
  rw [vSieve_thr (stay_thr hv hs) p.length (Nat.le_refl _), List.take_length]
theorem kept_none (h0 : vLastN p at_ p.length = 0) (e : Bool) : vKept p at_ e = [] := by
  rw [vKept_P, vSieve_none _ fun i x hx => ?_]; · rfl
  have := vLastN_above p at_ p.length i x (by omega) (List.getElem?_eq_some_iff.1 hx).1 hx
  unfold keptP
  rw [decide_eq_false (by omega)]; rfl
theorem kept_iff (hv : vGood p) (hs : ∀ x, p[vLastN p at_ p.length - 1]? = some x → 0 < vLastN p at_ p.length → x.gone = false ∨ x.rev_Main = at_) (h0 : 0 < vLastN p at_ p.length) (k : Nat) (x : VR) (hx : p[k]? = some x) : (decide (x.rev_Main ≤ at_) && vStay p at_ k x) = true ↔ k = vLastN p at_ p.length - 1 := by
  have hk := (List.getElem?_eq_some_iff.1 hx).1
  rw [Bool.and_eq_true, decide_eq_true_eq, stay_thr hv hs k x hx]
  constructor
  · rintro ⟨h1, h2⟩
    rcases Nat.lt_or_ge k (vLastN p at_ p.length) with h3 | h3
    · omega
    · have := vLastN_above p at_ p.length k x h3 hk hx
      omega
  · rintro rfl
    refine ⟨?_, Nat.le_refl _⟩
    obtain ⟨y, hy, hya⟩ := vLastN_below p at_ p.length h0
    rw [hx] at hy; cases hy; exact hya
theorem kept_life (hv : vGood p) (hs : ∀ x, p[vLastN p at_ p.length - 1]? = some x → 0 < vLastN p at_ p.length → x.gone = false ∨ x.rev_Main = at_) (e : Bool) (x : VR) (hx : p[vLastN p at_ p.length - 1]? = some x) (h0 : 0 < vLastN p at_ p.length) : vKept p at_ e = if e || !x.gone then [x.rv] else [] := by
  rw [vKept_P]
  by_cases h : (e || !x.gone) = true
  · rw [if_pos h, vSieve_one hx fun k y hy => ?_]; · rfl
    unfold keptP
    rw [Bool.and_eq_true, kept_iff hv hs h0 k y hy]
    refine ⟨fun h1 => h1.1, fun h1 => ⟨h1, ?_⟩⟩
    subst h1
    rw [hx] at hy; cases hy; exact h
  · rw [if_neg h, vSieve_none _ fun i y hy => ?_]; · rfl
    unfold keptP
    cases h1 : (decide (y.rev_Main ≤ at_) && vStay p at_ i y) with
    | false => rfl
    | true =>
      have := (kept_iff hv hs h0 i y hy).1 h1
      subst this
      rw [hx] at hy; cases hy
      simpa using h
theorem keptIn_life (hne : p ≠ []) : keptIn (lifeOf p) at_ = if vLastN p at_ p.length = 0 then [] else ((p[vLastN p at_ p.length - 1]?).map VR.rv).toList := by
  unfold keptIn
  rw [lifeOf_last]
  unfold lifeOf
  rw [List.getElem?_map]
theorem drop_lif (h : Lif p) (hf : vLf p) {n : Nat} (hn : n < p.length) : ∀ x, p[n]? = some x → (⟨(lifeOf p).ver, (lifeOf p).cm, (lifeOf p).cs, (lifeOf p).l.drop n⟩ : GM) = lifeOf (p.drop n) := fun x hx => by
  obtain ⟨a, ha, hh⟩ := h.head
  obtain ⟨e1, e2, _⟩ := h.at hf ha n x hx
  have hd := drop_at hx
  have hl : vLast (p.drop n) = vLast p := by
    have hne : p.drop n ≠ [] := by rw [hd]; simp
    conv => rhs; rw [← List.take_append_drop n p, vLast_app hne]
  unfold lifeOf
  rw [hl, hh, List.map_drop, hd]
  simp [e1, e2]
theorem cut_life (h : Lif p) (hf : vLf p) : cutIn (lifeOf p) at_ = lifeOf (p.drop (vLastN p at_ p.length - 1)) := by
  have hp : 0 < p.length := List.length_pos_iff.2 h.1
  have hle := vLastN_le p at_ p.length
  have hx := List.getElem?_eq_getElem (l := p) (i := vLastN p at_ p.length - 1) (by omega)
  rw [← drop_lif h hf (n := vLastN p at_ p.length - 1) (by omega) _ hx]
  unfold cutIn
  rw [lifeOf_last]
theorem Clo.drop (h : Clo p) {n : Nat} (hn : n < p.length) : Clo (p.drop n) := by
  obtain ⟨q, x, rfl, hx, hq⟩ := h
  rw [List.length_append] at hn
  simp only [List.length_cons, List.length_nil] at hn
  exact ⟨q.drop n, x, by rw [List.drop_append_of_le_length (by omega)], hx, fun y hy => hq y (List.mem_of_mem_drop hy)⟩
theorem Opn.drop (h : Opn p) {n : Nat} (hn : n < p.length) : Opn (p.drop n) :=
  ⟨fun e => by have := congrArg List.length e; rw [List.length_drop] at this; simp at this; omega, fun y hy => h.2 y (List.mem_of_mem_drop hy)⟩
theorem Clo.stays (h : Clo p) (he : at_ ≤ (vLast p).rev_Main) : ∀ x, p[vLastN p at_ p.length - 1]? = some x → 0 < vLastN p at_ p.length → x.gone = false ∨ x.rev_Main = at_ := fun x hx h0 => by
  have hle := vLastN_le p at_ p.length
  rcases Nat.lt_or_ge (vLastN p at_ p.length - 1 + 1) p.length with h1 | h1
  · exact .inl (h.lif.2 _ x hx h1)
  · right
    obtain ⟨y, hy, hya⟩ := vLastN_below p at_ p.length h0
    rw [hx] at hy; cases hy
    rw [show vLastN p at_ p.length - 1 = p.length - 1 by omega, last_at h.ne] at hx
    cases hx
    omega
/-! ### A life that is over, and others behind it -/
theorem all_above (hv : vGood (p ++ r)) (hc : Clo p) (he : at_ ≤ (vLast p).rev_Main) : ∀ x ∈ r, at_ < x.rev_Main := fun x hx => by
  obtain ⟨j, hj⟩ := List.mem_iff_getElem?.1 hx
  have := hv.apart hc (last_at hc.ne) hj
  omega
theorem stay_app_l (h0 : vLastN r at_ r.length = 0) (i : Nat) (x : VR) : vStay (p ++ r) at_ i x = vStay p at_ i x := by
  have hl := vLastN_app p r at_ r.length (Nat.le_refl _)
  rw [if_pos h0] at hl
  unfold vStay
  rw [List.length_append, hl]
theorem compact_app_l (h : ∀ x ∈ r, at_ < x.rev_Main) : vCompact (p ++ r) at_ = vCompact p at_ ++ r ∧ ∀ e, vKept (p ++ r) at_ e = vKept p at_ e := by
  have h0 : vLastN r at_ r.length = 0 := vLastN_zero h _
  have hr : vSieve r (fun i => vStay (p ++ r) at_ (p.length + i)) r.length = r := vSieve_all fun i x hx => by
    unfold vStay
    exact decide_eq_true (.inl (h x (List.mem_of_getElem? hx)))
  refine ⟨?_, fun e => ?_⟩
  · unfold vCompact
    rw [List.length_append, vSieve_app p r _ r.length (Nat.le_refl _), hr, vSieve_congr p.length fun i x _ => stay_app_l h0 i x]
  · rw [vKept_P, vKept_P, List.length_append, vSieve_app p r _ r.length (Nat.le_refl _), vSieve_none (l := r) r.length fun i x hx => ?_, List.append_nil, vSieve_congr p.length fun i x _ => ?_]
    · unfold keptP
      rw [stay_app_l h0]
    · unfold keptP
      have := h x (List.mem_of_getElem? hx)
      rw [decide_eq_false (by omega)]; rfl
theorem compact_gone (hc : Clo p) (hv : vGood p) (he : (vLast p).rev_Main < at_) : vCompact p at_ = [] ∧ ∀ e, vKept p at_ e = [] := by
  have hp : 0 < p.length := List.length_pos_iff.2 hc.ne
  have hn : vLastN p at_ p.length = p.length := vLastN_all hc.ne (by omega)
  have hno : ∀ (i : Nat) (x : VR), p[i]? = some x → vStay p at_ i x = false := fun i x hx => by
    have hi := (List.getElem?_eq_some_iff.1 hx).1
    have hm := hv.mono (i := i) (j := p.length - 1) (by omega) hx (last_at hc.ne)
    unfold vStay
    refine decide_eq_false ?_
    rw [hn]
    rintro (h1 | ⟨h1, h2⟩)
    · omega
    · rw [show i = p.length - 1 by omega, last_at hc.ne] at hx
      cases hx
      rw [hc.last] at h2
      rcases h2 with h2 | h2
      · cases h2
      · omega
  refine ⟨vSieve_none _ hno, fun e => ?_⟩
  rw [vKept_P, vSieve_none _ fun i x hx => ?_]; · rfl
  unfold keptP
  rw [hno i x hx, Bool.and_false, Bool.false_and]
theorem compact_app_r (hc : Clo p) (hv : vGood (p ++ r)) (he : (vLast p).rev_Main < at_) : vCompact (p ++ r) at_ = vCompact r at_ ∧ ∀ e, vKept (p ++ r) at_ e = vKept r at_ e := by
  by_cases h : ∀ x ∈ r, at_ < x.rev_Main
  · obtain ⟨h1, h2⟩ := compact_app_l (p := p) h
    obtain ⟨h3, h4⟩ := compact_gone hc hv.left he
    have h5 : vCompact r at_ = r := vSieve_all fun i x hx => by
      unfold vStay
      exact decide_eq_true (.inl (h x (List.mem_of_getElem? hx)))
    refine ⟨by rw [h1, h3, h5, List.nil_append], fun e => ?_⟩
    rw [h2 e, h4 e, kept_none (vLastN_zero h _) e]
  · have h0 : 0 < vLastN r at_ r.length := by
      rcases Nat.eq_zero_or_pos (vLastN r at_ r.length) with h1 | h1
      · refine absurd (fun x hx => ?_) h
        obtain ⟨j, hj⟩ := List.mem_iff_getElem?.1 hx
        exact vLastN_above r at_ r.length j x (by omega) (List.getElem?_eq_some_iff.1 hj).1 hj
      · exact h1
    have hl := vLastN_app p r at_ r.length (Nat.le_refl _)
    rw [if_neg (by omega)] at hl
    have hp1 : ∀ (i : Nat) (x : VR), p[i]? = some x → vStay (p ++ r) at_ i x = false := fun i x hx => by
      have hi := (List.getElem?_eq_some_iff.1 hx).1
      have hm := hv.left.mono (i := i) (j := p.length - 1) (by omega) hx (last_at hc.ne)
      unfold vStay
      rw [List.length_append, hl]
      exact decide_eq_false (by rintro (h1 | ⟨h1, _⟩) <;> omega)
    have hr1 : ∀ (i : Nat) (x : VR), vStay (p ++ r) at_ (p.length + i) x = vStay r at_ i x := fun i x => by
      unfold vStay
      rw [List.length_append, hl]
      refine decide_eq_decide.2 ?_
      have e1 : (p.length + i + 1 = p.length + vLastN r at_ r.length) ↔ (i + 1 = vLastN r at_ r.length) := by omega
      rw [e1]
    refine ⟨?_, fun e => ?_⟩
    · unfold vCompact
      rw [List.length_append, vSieve_app p r _ r.length (Nat.le_refl _), vSieve_none p.length hp1, List.nil_append]
      exact vSieve_congr _ fun i x _ => hr1 i x
    · rw [vKept_P, vKept_P, List.length_append, vSieve_app p r _ r.length (Nat.le_refl _), vSieve_none (l := p) p.length fun i x hx => ?_, List.nil_append, vSieve_congr r.length fun i x _ => ?_]
      · unfold keptP
        rw [hr1]
      · unfold keptP
        rw [hp1 i x hx, Bool.and_false, Bool.false_and]
theorem kept_in (hne : p ≠ []) (hv : vGood p) (hs : ∀ x, p[vLastN p at_ p.length - 1]? = some x → 0 < vLastN p at_ p.length → x.gone = false ∨ x.rev_Main = at_) : keptIn (lifeOf p) at_ = vKept p at_ true := by
  rw [keptIn_life hne]
  rcases Nat.eq_zero_or_pos (vLastN p at_ p.length) with h0 | h0
  · rw [if_pos h0, kept_none h0]
  · have hle := vLastN_le p at_ p.length
    have hx := List.getElem?_eq_getElem (l := p) (i := vLastN p at_ p.length - 1) (by omega)
    rw [if_neg (by omega), kept_life hv hs true _ hx h0, hx]; rfl
theorem kept_in_f (hc : Clo p) (hv : vGood p) (he : at_ ≤ (vLast p).rev_Main) : (if rLastN (lifeOf p).l at_ (lifeOf p).l.length = (lifeOf p).l.length then [] else keptIn (lifeOf p) at_) = vKept p at_ false := by
  rw [lifeOf_last, lifeOf_len, keptIn_life hc.ne]
  have hle := vLastN_le p at_ p.length
  have hp : 0 < p.length := List.length_pos_iff.2 hc.ne
  rcases Nat.eq_zero_or_pos (vLastN p at_ p.length) with h0 | h0
  · rw [if_neg (by omega), if_pos h0, kept_none h0]
  · obtain ⟨x, hx⟩ : ∃ x, p[vLastN p at_ p.length - 1]? = some x := ⟨_, List.getElem?_eq_getElem (l := p) (i := vLastN p at_ p.length - 1) (by omega)⟩
    rw [kept_life hv (hc.stays he) false _ hx h0]
    by_cases hf : vLastN p at_ p.length = p.length
    · rw [if_pos hf]
      have hx2 := hx
      rw [show vLastN p at_ p.length - 1 = p.length - 1 by omega, last_at hc.ne] at hx2
      have e : vLast p = x := Option.some.inj hx2
      rw [← e, hc.last]; rfl
    · rw [if_neg hf, if_neg (by omega), hx, hc.lif.2 _ _ hx (by omega)]; rfl
end
theorem dGens_ne {l : List VR} (h : l ≠ []) : dGens l ≠ [] := by
  have := (dGo_lver (List.length_pos_iff.2 h)).2.2
  unfold dGens
  simp [this]
theorem lives_compact {l : List VR} (hne : l ≠ []) : vGood l → ∀ at_, (vCompact l at_ ≠ [] → iCompact (dGens l) at_ = dGens (vCompact l at_)) ∧ iKeptC (dGens l) at_ = vKept l at_ true ∧ iKeptK (dGens l) at_ = vKept l at_ false := by
  refine lives_ind (P := fun l => vGood l → ∀ at_, (vCompact l at_ ≠ [] → iCompact (dGens l) at_ = dGens (vCompact l at_)) ∧ iKeptC (dGens l) at_ = vKept l at_ true ∧ iKeptK (dGens l) at_ = vKept l at_ false) (fun p hp hv at_ => ?_) (fun p hp hv at_ => ?_) (fun p r hp hr ih hv at_ => ?_) l hne
  · have hs : ∀ x, p[vLastN p at_ p.length - 1]? = some x → 0 < vLastN p at_ p.length → x.gone = false ∨ x.rev_Main = at_ := fun x hx _ => .inl (hp.2 x (List.mem_of_getElem? hx))
    have hpl : 0 < p.length := List.length_pos_iff.2 hp.1
    have hle := vLastN_le p at_ p.length
    rw [dGens_opn hp, iCompact_one, iKeptC_one, iKeptK_one, cut_life hp.lif hv.lf, compact_life hv hs, dGens_opn (hp.drop (by omega)), kept_in hp.1 hv hs]
    refine ⟨fun _ => rfl, rfl, ?_⟩
    rcases Nat.eq_zero_or_pos (vLastN p at_ p.length) with h0 | h0
    · rw [kept_none h0, kept_none h0]
    · have hx := List.getElem?_eq_getElem (l := p) (i := vLastN p at_ p.length - 1) (by omega)
      rw [kept_life hv hs true _ hx h0, kept_life hv hs false _ hx h0, hp.2 _ (List.mem_of_getElem? hx)]; rfl
  · have hpl : 0 < p.length := List.length_pos_iff.2 hp.ne
    have hle := vLastN_le p at_ p.length
    rw [dGens_clo hp, iCompact_cons _ (by simp), iKeptC_cons _ (by simp), iKeptK_cons _ (by simp), lifeOf_end hp.ne]
    by_cases he : at_ ≤ (vLast p).rev_Main
    · rw [if_pos he, if_pos he, if_pos he, compact_life hv (hp.stays he), dGens_clo (hp.drop (by omega)), cut_life hp.lif hv.lf]
      exact ⟨fun _ => rfl, kept_in hp.ne hv (hp.stays he), kept_in_f hp hv he⟩
    · obtain ⟨h1, h2⟩ := compact_gone hp hv (show _ < at_ by omega)
      rw [if_neg he, if_neg he, if_neg he, h1, h2, h2]
      exact ⟨fun h => absurd rfl h, rfl, by rw [iKeptK_one]; rfl⟩
  · have hpl : 0 < p.length := List.length_pos_iff.2 hp.ne
    have hle := vLastN_le p at_ p.length
    have hd := dGens_ne hr
    rw [dGens_app hp hr, iCompact_cons _ hd, iKeptC_cons _ hd, iKeptK_cons _ hd, lifeOf_end hp.ne]
    by_cases he : at_ ≤ (vLast p).rev_Main
    · obtain ⟨h1, h2⟩ := compact_app_l (p := p) (all_above hv hp he)
      rw [if_pos he, if_pos he, if_pos he, h1, h2, h2, compact_life hv.left (hp.stays he), dGens_app (hp.drop (by omega)) hr, cut_life hp.lif hv.left.lf]
      exact ⟨fun _ => rfl, kept_in hp.ne hv.left (hp.stays he), kept_in_f hp hv.left he⟩
    · obtain ⟨h1, h2⟩ := compact_app_r hp hv (show _ < at_ by omega)
      rw [if_neg he, if_neg he, if_neg he, h1, h2, h2]
      exact ih hv.right at_
end Go.Proofs.Ytiblemgccgbhoaa
set_option linter.unusedVariables false
set_option linter.unusedSimpArgs false
namespace Go.Proofs.Ytiblemgccgbhoaa
open Go Go.RowKit Gw
open Go.Value renaming int → vI, bool → vB, slice → vS, pointer → vP, agg → vA, tuple → vT

theorem dStep_bd {s : List GM × Bool} {v : VR} {n : Nat} (h : s.1.length ≤ n ∧ ∀ g ∈ s.1, g.l.length ≤ n) : (dStep s v).1.length ≤ n + 1 ∧ ∀ g ∈ (dStep s v).1, g.l.length ≤ n + 1 := by
  have h2 : ∀ G : List GM, G.length ≤ n + 1 → (∀ g ∈ G, g.l.length ≤ n) → (G.dropLast ++ [gAdd (gLast G) v]).length ≤ n + 1 ∧ ∀ g ∈ G.dropLast ++ [gAdd (gLast G) v], g.l.length ≤ n + 1 := by
    intro G h1 h2
    have h3 : (gLast G).l.length ≤ n := by
      by_cases e : G = []
      · subst e; exact Nat.zero_le _
      · exact h2 _ (gLast_mem e)
    refine ⟨by cases G with | nil => simp | cons a l => simp at h1 ⊢; omega, fun g hg => ?_⟩
    rcases List.mem_append.1 hg with hg | hg
    · have := h2 g (List.dropLast_subset _ hg); omega
    · rcases List.mem_singleton.1 hg with rfl
      show ((gLast G).l ++ [v.rv]).length ≤ n + 1
      rw [List.length_append]
      exact Nat.add_le_add_right h3 1
  unfold dStep
  dsimp only
  split
  · exact h2 _ (by omega) h.2
  · refine h2 _ (by rw [List.length_append]; exact Nat.add_le_add_right h.1 1) fun g hg => ?_
    rcases List.mem_append.1 hg with hg | hg
    · exact h.2 g hg
    · rcases List.mem_singleton.1 hg with rfl
      exact Nat.zero_le _
theorem dGo_bd (l : List VR) : (dGo l).1.length ≤ l.length ∧ ∀ g ∈ (dGo l).1, g.l.length ≤ l.length := by
  suffices h : ∀ (l : List VR) (s : List GM × Bool) (n : Nat), s.1.length ≤ n ∧ (∀ g ∈ s.1, g.l.length ≤ n) → (l.foldl dStep s).1.length ≤ n + l.length ∧ ∀ g ∈ (l.foldl dStep s).1, g.l.length ≤ n + l.length by
    have := h l ([], false) 0 ⟨Nat.le_refl 0, fun g hg => by cases hg⟩
    rw [Nat.zero_add] at this
    exact this
  intro l
  induction l with
  | nil => intro s n h; exact h
  | cons v l ih =>
    intro s n h
    have := ih (dStep s v) (n + 1) (dStep_bd h)
    rw [List.foldl_cons, List.length_cons, show n + (l.length + 1) = n + 1 + l.length by omega]
    exact this
theorem dGens_ver {l : List VR} {n : Int} (hn : 0 ≤ n) (h : ∀ x ∈ l, 0 ≤ x.ver ∧ x.ver ≤ n) : ∀ g ∈ dGens l, 0 ≤ g.ver ∧ g.ver ≤ n := by
  have hd : ∀ (r : List VR) (s : List GM × Bool), (∀ x ∈ r, 0 ≤ x.ver ∧ x.ver ≤ n) → (∀ g ∈ s.1, 0 ≤ g.ver ∧ g.ver ≤ n) → ∀ g ∈ (r.foldl dStep s).1, 0 ≤ g.ver ∧ g.ver ≤ n := by
    intro r
    induction r with
    | nil => intro s _ h2; exact h2
    | cons v r ih =>
      intro s h1 h2
      rw [List.foldl_cons]
      refine ih _ (fun x hx => h1 x (List.mem_cons_of_mem _ hx)) fun g hg => ?_
      unfold dStep at hg
      dsimp only at hg
      rcases List.mem_append.1 hg with hg | hg
      · split at hg
        · exact h2 g (List.dropLast_subset _ hg)
        · rw [List.dropLast_concat] at hg; exact h2 g hg
      · rcases List.mem_singleton.1 hg with rfl
        exact h1 v (List.mem_cons_self ..)
  intro g hg
  unfold dGens at hg
  rcases List.mem_append.1 hg with hg | hg
  · exact hd l ([], false) h (fun g hg => by cases hg) g hg
  · split at hg
    · rcases List.mem_singleton.1 hg with rfl
      exact ⟨Int.le_refl 0, hn⟩
    · cases hg
theorem dGens_some {l : List VR} (h : vOk l) (hne : 0 < l.length) : iEmp (dGens l) = false ∧ dGens l ≠ [] ∧ gPos (dGens l) = true := by
  obtain ⟨h1, h2, h3⟩ := dGo_take h l.length (Nat.le_refl _)
  rw [List.take_length] at h1 h2 h3
  obtain ⟨hg, _⟩ := h3 hne
  have hd : dGens l ≠ [] := by unfold dGens; simp [hg]
  refine ⟨?_, hd, ?_⟩
  · cases hx : dGens l with
    | nil => exact absurd hx hd
    | cons g r =>
      cases r with
      | cons g2 r => rfl
      | nil =>
        unfold dGens at hx
        cases hG : (dGo l).1 with
        | nil => exact absurd hG hg
        | cons g3 r3 =>
          rw [hG] at hx
          have e : g3 = g := by
            cases hx' : r3 <;> simp_all
          have := h2 g3 (by rw [hG]; exact List.mem_cons_self ..)
          rw [e] at this
          show decide (g.l.length = 0) = false
          exact decide_eq_false fun e2 => this (List.eq_nil_of_length_eq_zero e2)
  · refine List.all_eq_true.2 fun g hg2 => List.all_eq_true.2 fun r hr => ?_
    have hm : r ∈ (dGens l).flatMap GM.l := List.mem_flatMap.2 ⟨g, hg2, hr⟩
    rw [dGens_flat] at hm
    obtain ⟨x, hx, rfl⟩ := List.mem_map.1 hm
    exact decide_eq_true (h.pos x hx).1
theorem dGens_bdd {l : List VR} {B : Nat} (hl : l.length ≤ B) (hv : ∀ x ∈ l, 0 ≤ x.ver ∧ x.ver ≤ (B : Int)) : GBd (B + 1) (dGens l) := by
  have hb := dGo_bd l
  have hlen : (dGens l).length ≤ l.length + 1 ∧ ∀ g ∈ dGens l, g.l.length ≤ l.length := by
    unfold dGens
    split
    · refine ⟨by rw [List.length_append]; exact Nat.add_le_add_right hb.1 1, fun g hg => ?_⟩
      rcases List.mem_append.1 hg with hg | hg
      · exact hb.2 g hg
      · rcases List.mem_singleton.1 hg with rfl
        exact Nat.zero_le _
    · rw [List.append_nil]; exact ⟨by omega, hb.2⟩
  refine ⟨by omega, fun g hg => ?_⟩
  have h1 := hlen.2 g hg
  have h2 := dGens_ver (Int.natCast_nonneg B) hv g hg
  omega
noncomputable def kRevB (K1 K2 : List RV) : Bool := @decide (K1 = K2) (Classical.propDecidable _)
theorem kRevB_t {K1 K2 : List RV} (h : K1 = K2) : kRevB K1 K2 = true := by unfold kRevB; exact @decide_eq_true _ (Classical.propDecidable _) h
theorem kRevB_f {K1 K2 : List RV} (h : ¬ K1 = K2) : kRevB K1 K2 = false := by unfold kRevB; exact @decide_eq_false _ (Classical.propDecidable _) h


theorem gFull_dGens {l : List VR} (h : vOk l) : gFull (dGens l) = true := by
  obtain ⟨_, h2, _⟩ := dGo_take h l.length (Nat.le_refl _)
  rw [List.take_length] at h2
  refine List.all_eq_true.2 fun g hg => decide_eq_true (List.length_pos_iff.2 (h2 g ?_))
  unfold dGens at hg
  split at hg
  · rw [List.dropLast_concat] at hg; exact hg
  · rw [List.append_nil] at hg; exact List.dropLast_subset _ hg
theorem gLast_dGens {l : List VR} (h : l ≠ []) : (gLast (dGens l)).l.length = 0 ↔ (vLast l).gone = true := by
  have hl := List.length_pos_iff.2 h
  unfold dGens
  by_cases hg : (vLast l).gone = true
  · rw [if_pos ⟨hl, hg⟩]
    simp [gLast, hg]
  · rw [if_neg (fun h => hg h.2), List.append_nil]
    have := (dGo_lver hl).2.1
    exact ⟨fun e => absurd (List.eq_nil_of_length_eq_zero e) this, fun e => absurd e hg⟩
theorem vLast_compact {l : List VR} (h : vOk l) (at_ : Int) (hne : vCompact l at_ ≠ []) : vLast (vCompact l at_) = vLast l := by
  obtain ⟨n, e⟩ := vCompact_drop h at_
  rw [e] at hne ⊢
  conv => rhs; rw [← List.take_append_drop n l, vLast_app hne]
theorem isEmpty_ne {α : Type} {l : List α} (h : l ≠ []) : l.isEmpty = false := by
  cases l with
  | nil => exact absurd rfl h
  | cons a l => rfl
theorem iDo_kDo {i : Nat} {l m : List VR} {o : KO} {b : KM} (hv : vGood l) (hne : l ≠ []) (hc : kChk i l o) (hd : kDo l o = some (m, b)) (hm : m ≠ []) :
    iDo (vLast l).rev_Main (vLast l).rev_Sub (dGens l) o = some (((vLast m).rev_Main, (vLast m).rev_Sub, dGens m), b) := by
  have hl := List.length_pos_iff.2 hne
  obtain ⟨s1, s2, s3⟩ := dGens_some hv.ok hl
  have s4 := isEmpty_ne s2
  have s5 := gFull_dGens hv.ok
  obtain ⟨c1, c2, c3⟩ := lives_compact hne hv o.at_
  unfold kDo at hd
  unfold iDo
  by_cases h1 : o.kind = 1
  · rw [if_pos h1] at hd ⊢
    split at hd
    · rename_i hlt
      cases hd
      rw [if_pos hlt, vLast_snoc, dGens_put]
      have e : (vPut l o.rev_Main o.rev_Sub).rev_Main = o.rev_Main ∧ (vPut l o.rev_Main o.rev_Sub).rev_Sub = o.rev_Sub := by unfold vPut; split <;> exact ⟨rfl, rfl⟩
      rw [e.1, e.2]
    · cases hd
  · rw [if_neg h1] at hd ⊢
    by_cases h2 : o.kind = 2
    · rw [if_pos h2] at hd ⊢
      rw [s1, s4, Bool.or_false, if_neg (by decide)]
      by_cases hg : (vLast l).gone = true
      · rw [if_pos hg] at hd
        cases hd
        rw [if_pos ((gLast_dGens hne).2 hg)]
      · rw [if_neg hg] at hd
        rw [if_neg (fun e => hg ((gLast_dGens hne).1 e))]
        split at hd
        · rename_i hlt
          cases hd
          rw [if_pos hlt, vLast_snoc, dGens_end _ _ (by simpa using hg)]; rfl
        · cases hd
    · rw [if_neg h2] at hd ⊢
      by_cases h5 : o.kind = 5
      · rw [if_pos h5] at hd ⊢
        cases hd
        rw [s1, if_neg (by decide), iGet_dGens hv hne, kmGet_hold]
      · rw [if_neg h5] at hd ⊢
        by_cases h6 : o.kind = 6
        · rw [if_pos h6] at hd ⊢
          cases hd
          rw [s1, s4, s3, iSince_dGens hv.ok]; rfl
        · rw [if_neg h6] at hd ⊢
          by_cases h7 : o.kind = 7
          · rw [if_pos h7] at hd ⊢
            cases hd
            rw [s1, s4, s5, c1 hm, c2, vLast_compact hv.ok _ hm]; rfl
          · rw [if_neg h7] at hd ⊢
            by_cases h8 : o.kind = 8
            · rw [if_pos h8] at hd ⊢
              cases hd
              rw [s4, s5, c3]; rfl
            · exfalso
              have := hc.1
              omega
theorem kRun_iRun : ∀ (ops : List KO) (l m : List VR) (out res : List KM), vGood l → l ≠ [] → kRun l out ops = some (m, res) → iRun ((vLast l).rev_Main, (vLast l).rev_Sub, dGens l) out ops = some res := by
  intro ops
  induction ops with
  | nil => intro l m out res h hne e; rw [kRun] at e; cases e; rfl
  | cons o r ih =>
    intro l m out res h hne e
    rw [kRun] at e
    cases hs : kStep out.length l o with
    | none => rw [hs] at e; cases e
    | some p =>
      obtain ⟨m2, a⟩ := p
      rw [hs] at e
      have hg := kStep_good h hs
      unfold kStep at hs
      split at hs
      · rename_i hc
        cases hd : kDo l o with
        | none => rw [hd] at hs; cases hs
        | some q =>
          obtain ⟨m3, b⟩ := q
          rw [hd] at hs
          dsimp only at hs
          split at hs
          · cases hs
          · rename_i h0
            cases hs
            have hm : m2 ≠ [] := fun e => h0 (by rw [e]; rfl)
            have := ih m2 m _ _ hg hm e
            rw [iRun, iDo_kDo h hne hc hd hm]
            exact this
      · cases hs
theorem kLife_iRun {l m : List VR} {ops : List KO} {res : List KM} (h : vGood l) (hne : l ≠ []) (e : kLife l ops = some (m, res)) : iRun ((vLast l).rev_Main, (vLast l).rev_Sub, dGens l) [] ops = some res := by
  unfold kLife at e
  split at e
  · exact kRun_iRun ops l m [] res h hne e
  · cases e
/-! ### Bounds of answers -/
def KBd (a : KM) : Prop := a.rl.length ≤ 100000 ∧ a.gl.length ≤ 100000 ∧ ∀ g ∈ a.gl, g.l.length ≤ 100000
theorem dGens_len (l : List VR) : (dGens l).length ≤ l.length + 1 ∧ ∀ g ∈ dGens l, g.l.length ≤ l.length := by
  have hb := dGo_bd l
  unfold dGens
  split
  · refine ⟨by rw [List.length_append]; exact Nat.add_le_add_right hb.1 1, fun g hg => ?_⟩
    rcases List.mem_append.1 hg with hg | hg
    · exact hb.2 g hg
    · rcases List.mem_singleton.1 hg with rfl
      exact Nat.zero_le _
  · rw [List.append_nil]; exact ⟨by omega, hb.2⟩
theorem kDo_rl {l m : List VR} {o : KO} {b : KM} (hd : kDo l o = some (m, b)) : b.rl.length ≤ l.length := by
  have e1 : ∀ p : Nat → VR → Bool, ((vSieve l p l.length).map VR.rv).length ≤ l.length := fun p => by rw [List.length_map]; exact vSieve_len l p l.length
  unfold kDo at hd
  split at hd
  · split at hd
    · cases hd; exact Nat.zero_le _
    · cases hd
  · split at hd
    · split at hd
      · cases hd; exact Nat.zero_le _
      · split at hd
        · cases hd; exact Nat.zero_le _
        · cases hd
    · split at hd
      · cases hd; exact Nat.zero_le _
      · split at hd
        · cases hd; exact e1 _
        · split at hd
          · cases hd; exact e1 _
          · split at hd
            · cases hd; exact e1 _
            · cases hd; exact Nat.zero_le _
theorem kRun_bd : ∀ (ops : List KO) (l m : List VR) (out res : List KM), l.length + ops.length ≤ 10000 → (∀ a ∈ out, KBd a) → kRun l out ops = some (m, res) → ∀ a ∈ res, KBd a := by
  intro ops
  induction ops with
  | nil => intro l m out res _ h e; rw [kRun] at e; cases e; exact h
  | cons o r ih =>
    intro l m out res hl h e
    rw [kRun] at e
    rw [List.length_cons] at hl
    cases hs : kStep out.length l o with
    | none => rw [hs] at e; cases e
    | some p =>
      obtain ⟨m2, a⟩ := p
      rw [hs] at e
      unfold kStep at hs
      split at hs
      · cases hd : kDo l o with
        | none => rw [hd] at hs; cases hs
        | some q =>
          obtain ⟨m3, b⟩ := q
          rw [hd] at hs
          dsimp only at hs
          split at hs
          · cases hs
          · cases hs
            have h1 := kDo_len hd
            have h2 := kDo_rl hd
            have h3 := dGens_len m2
            refine ih m2 m _ _ (by omega) (all_snoc h ⟨?_, ?_, fun g hg => ?_⟩) e
            · show b.rl.length ≤ 100000; omega
            · show (dGens m2).length ≤ 100000; omega
            · have := h3.2 g hg; omega
      · cases hs
theorem kLife_bd {l m : List VR} {ops : List KO} {res : List KM} (hl : l.length ≤ 5000) (e : kLife l ops = some (m, res)) : ∀ a ∈ res, KBd a := by
  unfold kLife at e
  split at e
  · exact kRun_bd ops l m [] res (by omega) (fun a ha => by cases ha) e
  · cases e
theorem kLife_len {l m : List VR} {ops : List KO} {res : List KM} (e : kLife l ops = some (m, res)) : ops.length ≤ 300 := by
  unfold kLife at e
  split at e
  · assumption
  · cases e
theorem mEq_at {N1 N2 : List GN} (h : N1.map GN.m = N2.map GN.m) {k : Nat} {x y : GN} (hx : N1[k]? = some x) (hy : N2[k]? = some y) : x.ver = y.ver ∧ x.created_Main = y.created_Main ∧ x.created_Sub = y.created_Sub ∧ x.l = y.l := by
  have e := congrArg (·[k]?) h
  simp only [List.getElem?_map, hx, hy, Option.map_some, Option.some.injEq] at e
  exact ⟨congrArg GM.ver e, congrArg GM.cm e, congrArg GM.cs e, congrArg GM.l e⟩
theorem kmEq {x y : KA} (e : x.m = y.m) : (x.oK = y.oK ∧ x.mod_Main = y.mod_Main ∧ x.mod_Sub = y.mod_Sub ∧ x.created_Main = y.created_Main ∧ x.created_Sub = y.created_Sub ∧ x.ver = y.ver) ∧ x.rl = y.rl ∧ x.dump_Modified_Main = y.dump_Modified_Main ∧ x.dump_Modified_Sub = y.dump_Modified_Sub ∧ x.gl.map GN.m = y.gl.map GN.m :=
  ⟨⟨congrArg KM.ok e, congrArg KM.mm e, congrArg KM.ms e, congrArg KM.cm e, congrArg KM.cs e, congrArg KM.ver e⟩, congrArg KM.rl e, congrArg KM.dm e, congrArg KM.ds e, congrArg KM.gl e⟩
theorem KBd.gl {x : KA} (h : KBd x.m) : x.rl.length ≤ 100000 ∧ x.gl.length ≤ 100000 ∧ ∀ g ∈ x.gl, g.l.length ≤ 100000 := by
  refine ⟨h.1, by have := h.2.1; rwa [show x.m.gl = x.gl.map GN.m from rfl, List.length_map] at this, fun g hg => h.2.2 g.m (List.mem_map_of_mem hg)⟩
theorem kaEq_at {A B : List KA} (h : A.map KA.m = B.map KA.m) {k : Nat} {x y : KA} (hx : A[k]? = some x) (hy : B[k]? = some y) : x.m = y.m := by
  have e := congrArg (·[k]?) h
  simpa only [List.getElem?_map, hx, hy, Option.map_some, Option.some.injEq] using e

end Go.Proofs.Ytiblemgccgbhoaa
