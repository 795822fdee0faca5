/- An operation of a key's index, with the index behind it. -/
import Derived.Test.YtiblemgccgbhoaaKyW0
set_option linter.unusedVariables false
set_option linter.unusedSimpArgs false
namespace Go.Proofs.Ytiblemgccgbhoaa
open Go Go.RowKit Gw

set_option maxHeartbeats 16000000 in
theorem kKeyed (R : HP) (kb : Nat) (ka : Option Addr) (kl kc : Nat) (m n : Int) (gv lv : Value) (N0 T : List GN) (ll : List RV) (o : KO) (B : Nat) (s' : Int × Int × List GM) (a : KM) (hT : Tlk T lv ll) (hTN : T = [] → N0 = []) (hN : ∀ x ∈ N0, GOk R x) (hbd : GBd B ((N0 ++ T).map GN.m)) (hB : B ≤ 50000) (hdo : iDo m n ((N0 ++ T).map GN.m) o = some (s', a)) :
    TriG Try.prog 23 #[(Value.agg #[(Value.pointer (some ⟨kb, 0, none⟩))]), (Value.agg #[(Value.int .i64 o.kind), (Value.int .i64 o.rev_Main), (Value.int .i64 o.rev_Sub), (Value.int .i64 o.created_Main), (Value.int .i64 o.created_Sub), (Value.int .i64 o.ver), (Value.int .i64 o.at_)])] R [cl kb 104 [(Value.slice ka kl kc), (Value.int .i64 m), (Value.int .i64 n), gv], sl 106 4 gv (List.length (N0 ++ T)) ((N0 ++ T).flatMap GN.cells), sl 58 2 lv (List.length ll) (ll.flatMap RV.cells)] (fun R' v__ post__ => ∃ (gv' lv' : Value) (N0' T' : List GN) (ll' : List RV) (xo : Bool) (x1 x2 x3 x4 x5 : Int) (xr : Value) (xm xn : Int) (xg : Value) (rl : List RV) (gl : List GN), v__ = (Value.agg #[(Value.bool xo), (Value.int .i64 x1), (Value.int .i64 x2), (Value.int .i64 x3), (Value.int .i64 x4), (Value.int .i64 x5), xr, (Value.int .i64 xm), (Value.int .i64 xn), xg]) ∧ post__ = [cl kb 104 [(Value.slice ka kl kc), (Value.int .i64 s'.1), (Value.int .i64 s'.2.1), gv'], sl 106 4 gv' (List.length (N0' ++ T')) ((N0' ++ T').flatMap GN.cells), sl 58 2 lv' (List.length ll') (ll'.flatMap RV.cells)] ∧ ((N0' ++ T').map GN.m = s'.2.2) ∧ (Tlk T' lv' ll') ∧ (T' = [] → N0' = []) ∧ (∀ x ∈ N0', GOk R' x) ∧ (KOk R' (⟨xo, x1, x2, x3, x4, x5, xr, xm, xn, xg, rl, gl⟩ : KA)) ∧ (KA.m (⟨xo, x1, x2, x3, x4, x5, xr, xm, xn, xg, rl, gl⟩ : KA) = a.to s')) := by
 refine TriG.into (n := 104) (al := [(Value.agg #[(Value.pointer (some ⟨kb, 0, none⟩))]), (Value.agg #[(Value.int .i64 o.kind), (Value.int .i64 o.rev_Main), (Value.int .i64 o.rev_Sub), (Value.int .i64 o.created_Main), (Value.int .i64 o.created_Sub), (Value.int .i64 o.ver), (Value.int .i64 o.at_)])]) Try.func23 rfl Try.ntmps23 rfl rfl fun w F H => ?_
 refine C_seq (fun K1_ hK1_ => ?_)
 refine C_reg ?_
 refine S_list (T_box (v := (Value.agg #[(Value.pointer (some ⟨kb, 0, none⟩))])) rfl H ?_)
 intro b2_ w3_ S5_ H4_
 have S6_ := Same.trans (Same.refl w) S5_
 refine S_list (T_box (v := (Value.agg #[(Value.int .i64 o.kind), (Value.int .i64 o.rev_Main), (Value.int .i64 o.rev_Sub), (Value.int .i64 o.created_Main), (Value.int .i64 o.created_Sub), (Value.int .i64 o.ver), (Value.int .i64 o.at_)])) rfl H4_ ?_)
 intro b7_ w8_ S10_ H9_
 replace H9_ : Holds w8_ (cl b7_ 39 [(Value.int .i64 o.kind), (Value.int .i64 o.rev_Main), (Value.int .i64 o.rev_Sub), (Value.int .i64 o.created_Main), (Value.int .i64 o.created_Sub), (Value.int .i64 o.ver), (Value.int .i64 o.at_)] :: cl b2_ 55 [(Value.pointer (some ⟨kb, 0, none⟩))] :: ro R :: cl kb 104 [(Value.slice ka kl kc), (Value.int .i64 m), (Value.int .i64 n), gv] :: sl 106 4 gv (List.length (N0 ++ T)) ((N0 ++ T).flatMap GN.cells) :: sl 58 2 lv (List.length ll) (ll.flatMap RV.cells) :: F) := H9_
 have S11_ := Same.trans S6_ S10_
 refine S_list (T_alloc z43 H9_ ?_)
 intro b12_ w13_ S15_ H14_
 have S16_ := Same.trans S11_ S15_
 refine wpList_nil ?_
 refine (X_then (hK1_ _ _ ?_))
 clear hK1_
 refine C_seq (fun K17_ hK17_ => ?_)
 refine C_reg ?_
 refine S_list (T_val (v := (Value.agg #[(Value.bool false), (Value.int .i64 0), (Value.int .i64 0), (Value.int .i64 0), (Value.int .i64 0), (Value.int .i64 0), (Value.slice none 0 0), (Value.int .i64 0), (Value.int .i64 0), (Value.slice none 0 0)])) (by kernel_rfl) ?_)
 refine S_list (T_alloc z43 H14_ ?_)
 intro b18_ w19_ S21_ H20_
 have S22_ := Same.trans S16_ S21_
 refine S_list0 (T_storeN (vs := [(Value.bool false), (Value.int .i64 0), (Value.int .i64 0), (Value.int .i64 0), (Value.int .i64 0), (Value.int .i64 0), (Value.slice none 0 0), (Value.int .i64 0), (Value.int .i64 0), (Value.slice none 0 0)]) rfl rfl z43 rfl (by simp [Value.oneCell']) H20_ 0 rfl (Nat.le_of_ble_eq_true (by rfl)) ?_)
 intro w23_ S25_ H24_
 replace H24_ : Holds w23_ (cl b18_ 43 [(Value.bool false), (Value.int .i64 0), (Value.int .i64 0), (Value.int .i64 0), (Value.int .i64 0), (Value.int .i64 0), (Value.slice none 0 0), (Value.int .i64 0), (Value.int .i64 0), (Value.slice none 0 0)] :: cl b12_ 43 [(Value.bool false), (Value.int .i64 0), (Value.int .i64 0), (Value.int .i64 0), (Value.int .i64 0), (Value.int .i64 0), (Value.slice none 0 0), (Value.int .i64 0), (Value.int .i64 0), (Value.slice none 0 0)] :: cl b7_ 39 [(Value.int .i64 o.kind), (Value.int .i64 o.rev_Main), (Value.int .i64 o.rev_Sub), (Value.int .i64 o.created_Main), (Value.int .i64 o.created_Sub), (Value.int .i64 o.ver), (Value.int .i64 o.at_)] :: cl b2_ 55 [(Value.pointer (some ⟨kb, 0, none⟩))] :: ro R :: cl kb 104 [(Value.slice ka kl kc), (Value.int .i64 m), (Value.int .i64 n), gv] :: sl 106 4 gv (List.length (N0 ++ T)) ((N0 ++ T).flatMap GN.cells) :: sl 58 2 lv (List.length ll) (ll.flatMap RV.cells) :: F) := H24_
 have S26_ := Same.trans S22_ S25_
 refine wpList_nil ?_
 refine (X_then (hK17_ _ _ ?_))
 clear hK17_
 refine C_seq (fun K27_ hK27_ => ?_)
 refine C_seq (fun K28_ hK28_ => ?_)
 refine C_reg ?_
 refine S_list (T_val (v := (Value.pointer (some ⟨b7_, 0, none⟩))) (by kernel_rfl) ?_)
 refine S_list (T_val (v := (Value.int .i64 o.kind)) (x_load1 rfl Try.underlying3 rfl ((Holds.rd H24_ 2 rfl) 0 (Value.int .i64 o.kind) rfl)) ?_)
 refine wpList_nil ?_
 refine (X_then (hK28_ _ _ ?_))
 clear hK28_
 refine C_block ?_
 refine C_seq (fun K29_ hK29_ => ?_)
 refine C_reg ?_
 refine S_list (T_val (v := (Value.bool (decide (o.kind = 1)))) (x_bin rfl rfl rfl) ?_)
 refine S_list (T_val (v := (Value.bool (decide (o.kind = 1)))) (x_assign rfl) ?_)
 refine wpList_nil ?_
 refine (X_then (hK29_ _ _ ?_))
 clear hK29_
 refine C_cond (b := decide (o.kind = 1)) rfl (fun c30_t => ?_) (fun c30_f => ?_)
 ·have c30_tp : o.kind = 1 := of_decide_eq_true c30_t
  obtain ⟨hls_, hs_, ha_⟩ := iDo_put c30_tp hdo
  have hbo_ := hbd.of
  have hll_ := Tlk_ll hT (hbd.l (Nat.le_refl _))
  refine C_seq (fun K31_ hK31_ => ?_)
  refine A_start (S := fun w => Rd b7_ [(Value.int .i64 o.kind), (Value.int .i64 o.rev_Main), (Value.int .i64 o.rev_Sub), (Value.int .i64 o.created_Main), (Value.int .i64 o.created_Sub), (Value.int .i64 o.ver), (Value.int .i64 o.at_)] w ∧ Rd b2_ [(Value.pointer (some ⟨kb, 0, none⟩))] w ∧ Sub R (hp w)) (N := 5) foll rfl rfl ?_
  have H32_ := Holds.drew_ H24_
  have hq33_ := And.intro (Holds.rd H32_ 2 rfl) (And.intro (Holds.rd H32_ 3 rfl) ((Holds.ro_at H32_ 4 rfl)))
  refine A_tk 0 (v := (Value.agg #[(Value.pointer (some ⟨kb, 0, none⟩))])) rfl (by kernel_rfl) (fun w hS => x_loadN (vs := [(Value.pointer (some ⟨kb, 0, none⟩))]) rfl Try.underlying55 rfl z55 rfl (Rd.cells hS.2.1 0 rfl)) hq33_ ?_
  refine A_tk 1 (v := (Value.pointer (some ⟨b7_, 1, none⟩))) rfl (by kernel_rfl) (fun w hS => by kernel_rfl) hq33_ ?_
  refine A_tk 2 (v := (Value.agg #[(Value.int .i64 o.rev_Main), (Value.int .i64 o.rev_Sub)])) rfl (by kernel_rfl) (fun w hS => x_loadN (vs := [(Value.int .i64 o.rev_Main), (Value.int .i64 o.rev_Sub)]) rfl Try.underlying31 rfl z31 rfl (Rd.cells hS.1 1 rfl)) hq33_ ?_
  refine A_ready (i := 3) (rs := []) (by kernel_rfl) ?_
  refine AllR.cons ?_ AllR.nil
  refine A_op (ls' := #[true, true, true, true, false]) rfl (by kernel_rfl) (T_callW (al := [(Value.agg #[(Value.int .i64 o.rev_Main), (Value.int .i64 o.rev_Sub)])]) rfl rfl cb33 (Calls.into (n := 8) (al := [(Value.agg #[(Value.int .i64 o.rev_Main), (Value.int .i64 o.rev_Sub)])]) Try.func33 rfl Try.ntmps33 rfl rfl ?_))
  refine C_seq (fun K34_ hK34_ => ?_)
  refine C_reg ?_
  refine S_list (T_box (v := (Value.agg #[(Value.int .i64 o.rev_Main), (Value.int .i64 o.rev_Sub)])) rfl H32_ ?_)
  intro b35_ w36_ S38_ H37_
  have S39_ := Same.trans (Same.trans S26_ (Same.drew _)) S38_
  refine S_list (T_alloc z58 H37_ ?_)
  intro b40_ w41_ S43_ H42_
  have S44_ := Same.trans S39_ S43_
  refine wpList_nil ?_
  refine (X_then (hK34_ _ _ ?_))
  clear hK34_
  refine C_seq (fun K45_ hK45_ => ?_)
  refine C_reg ?_
  refine S_list (T_val (v := (Value.pointer (some ⟨b35_, 0, none⟩))) (by kernel_rfl) ?_)
  refine S_list (T_val (v := (Value.int .i64 o.rev_Main)) (x_load1 rfl Try.underlying2 rfl ((Holds.rd H42_ 1 rfl) 0 (Value.int .i64 o.rev_Main) rfl)) ?_)
  refine S_list (T_val (v := (Value.pointer (some ⟨b35_, 1, none⟩))) (by kernel_rfl) ?_)
  refine S_list (T_val (v := (Value.int .i64 o.rev_Sub)) (x_load1 rfl Try.underlying2 rfl ((Holds.rd H42_ 1 rfl) 1 (Value.int .i64 o.rev_Sub) rfl)) ?_)
  refine S_list (T_val (v := (Value.agg #[(Value.int .i64 o.rev_Main), (Value.int .i64 o.rev_Sub)])) (by kernel_rfl) ?_)
  refine S_list0 (T_storeN (vs := [(Value.int .i64 o.rev_Main), (Value.int .i64 o.rev_Sub)]) rfl rfl z58 rfl (by simp [Value.oneCell']) H42_ 0 rfl (Nat.le_of_ble_eq_true (by rfl)) ?_)
  intro w46_ S48_ H47_
  replace H47_ : Holds w46_ (cl b40_ 58 [(Value.int .i64 o.rev_Main), (Value.int .i64 o.rev_Sub)] :: cl b35_ 31 [(Value.int .i64 o.rev_Main), (Value.int .i64 o.rev_Sub)] :: cl b18_ 43 [(Value.bool false), (Value.int .i64 0), (Value.int .i64 0), (Value.int .i64 0), (Value.int .i64 0), (Value.int .i64 0), (Value.slice none 0 0), (Value.int .i64 0), (Value.int .i64 0), (Value.slice none 0 0)] :: cl b12_ 43 [(Value.bool false), (Value.int .i64 0), (Value.int .i64 0), (Value.int .i64 0), (Value.int .i64 0), (Value.int .i64 0), (Value.slice none 0 0), (Value.int .i64 0), (Value.int .i64 0), (Value.slice none 0 0)] :: cl b7_ 39 [(Value.int .i64 o.kind), (Value.int .i64 o.rev_Main), (Value.int .i64 o.rev_Sub), (Value.int .i64 o.created_Main), (Value.int .i64 o.created_Sub), (Value.int .i64 o.ver), (Value.int .i64 o.at_)] :: cl b2_ 55 [(Value.pointer (some ⟨kb, 0, none⟩))] :: ro R :: cl kb 104 [(Value.slice ka kl kc), (Value.int .i64 m), (Value.int .i64 n), gv] :: sl 106 4 gv (List.length (N0 ++ T)) ((N0 ++ T).flatMap GN.cells) :: sl 58 2 lv (List.length ll) (ll.flatMap RV.cells) :: F) := H47_
  have S49_ := Same.trans S44_ S48_
  refine wpList_nil ?_
  refine (X_then (hK45_ _ _ ?_))
  clear hK45_
  refine C_ret ?_
  refine R_any (v := (Value.agg #[(Value.int .i64 o.rev_Main), (Value.int .i64 o.rev_Sub)])) (run_results1 rfl ⟨_, rfl, load_resN Try.underlying58 rfl z58 rfl (vs := [(Value.int .i64 o.rev_Main), (Value.int .i64 o.rev_Sub)]) (Holds.cl_cells H47_ 0 rfl 0 rfl)⟩) ⟨_, rfl, ?_⟩
  refine ⟨⟨Holds.rd H47_ 4 rfl, Holds.rd H47_ 5 rfl, (Holds.ro_at H47_ 6 rfl)⟩, ?_⟩
  refine A_ready (i := 4) (rs := []) (by kernel_rfl) ?_
  refine AllR.cons ?_ AllR.nil
  refine A_op (ls' := #[true, true, true, true, true]) rfl (by kernel_rfl) (T_callW (al := [(Value.agg #[(Value.pointer (some ⟨kb, 0, none⟩))]), (Value.agg #[(Value.int .i64 o.rev_Main), (Value.int .i64 o.rev_Sub)])]) rfl rfl cb36 (Calls.into (n := 11) (al := [(Value.agg #[(Value.pointer (some ⟨kb, 0, none⟩))]), (Value.agg #[(Value.int .i64 o.rev_Main), (Value.int .i64 o.rev_Sub)])]) Try.func36 rfl Try.ntmps36 rfl rfl ?_))
  refine C_seq (fun K50_ hK50_ => ?_)
  refine C_reg ?_
  refine S_list (T_box (v := (Value.agg #[(Value.pointer (some ⟨kb, 0, none⟩))])) rfl H47_ ?_)
  intro b51_ w52_ S54_ H53_
  have S55_ := Same.trans S49_ S54_
  refine S_list (T_box (v := (Value.agg #[(Value.int .i64 o.rev_Main), (Value.int .i64 o.rev_Sub)])) rfl H53_ ?_)
  intro b56_ w57_ S59_ H58_
  have S60_ := Same.trans S55_ S59_
  refine wpList_nil ?_
  refine (X_then (hK50_ _ _ ?_))
  clear hK50_
  refine C_reg ?_
  refine S_list (T_val (v := (Value.pointer (some ⟨b51_, 0, none⟩))) (by kernel_rfl) ?_)
  refine S_list (T_val (v := (Value.pointer (some ⟨kb, 0, none⟩))) (x_load1 rfl Try.underlying53 rfl ((Holds.rd H58_ 1 rfl) 0 (Value.pointer (some ⟨kb, 0, none⟩)) rfl)) ?_)
  refine S_list (T_val (v := (Value.pointer (some ⟨b56_, 0, none⟩))) (by kernel_rfl) ?_)
  refine S_list (T_val (v := (Value.int .i64 o.rev_Main)) (x_load1 rfl Try.underlying2 rfl ((Holds.rd H58_ 0 rfl) 0 (Value.int .i64 o.rev_Main) rfl)) ?_)
  refine S_list (T_val (v := (Value.pointer (some ⟨b56_, 1, none⟩))) (by kernel_rfl) ?_)
  refine S_list (T_val (v := (Value.int .i64 o.rev_Sub)) (x_load1 rfl Try.underlying2 rfl ((Holds.rd H58_ 0 rfl) 1 (Value.int .i64 o.rev_Sub) rfl)) ?_)
  have H69_ := ((Holds.bring (Holds.bring (Holds.bring (Holds.bring H58_ 11 rfl) 11 rfl) 11 rfl) 11 rfl) :)
  replace H69_ : Holds w57_ (ro R :: cl kb 104 [(Value.slice ka kl kc), (Value.int .i64 m), (Value.int .i64 n), gv] :: sl 106 4 gv (List.length (N0 ++ T)) ((N0 ++ T).flatMap GN.cells) :: sl 58 2 lv (List.length ll) (ll.flatMap RV.cells) :: cl b56_ 58 [(Value.int .i64 o.rev_Main), (Value.int .i64 o.rev_Sub)] :: cl b51_ 55 [(Value.pointer (some ⟨kb, 0, none⟩))] :: cl b40_ 58 [(Value.int .i64 o.rev_Main), (Value.int .i64 o.rev_Sub)] :: cl b35_ 31 [(Value.int .i64 o.rev_Main), (Value.int .i64 o.rev_Sub)] :: cl b18_ 43 [(Value.bool false), (Value.int .i64 0), (Value.int .i64 0), (Value.int .i64 0), (Value.int .i64 0), (Value.int .i64 0), (Value.slice none 0 0), (Value.int .i64 0), (Value.int .i64 0), (Value.slice none 0 0)] :: cl b12_ 43 [(Value.bool false), (Value.int .i64 0), (Value.int .i64 0), (Value.int .i64 0), (Value.int .i64 0), (Value.int .i64 0), (Value.slice none 0 0), (Value.int .i64 0), (Value.int .i64 0), (Value.slice none 0 0)] :: cl b7_ 39 [(Value.int .i64 o.kind), (Value.int .i64 o.rev_Main), (Value.int .i64 o.rev_Sub), (Value.int .i64 o.created_Main), (Value.int .i64 o.created_Sub), (Value.int .i64 o.ver), (Value.int .i64 o.at_)] :: cl b2_ 55 [(Value.pointer (some ⟨kb, 0, none⟩))] :: F) := H69_
  refine S_list (T_call (al := [(Value.pointer (some ⟨kb, 0, none⟩)), (Value.pointer none), (Value.int .i64 o.rev_Main), (Value.int .i64 o.rev_Sub)]) (pre := [cl kb 104 [(Value.slice ka kl kc), (Value.int .i64 m), (Value.int .i64 n), gv], sl 106 4 gv (List.length (N0 ++ T)) ((N0 ++ T).flatMap GN.cells), sl 58 2 lv (List.length ll) (ll.flatMap RV.cells)]) rfl rfl cb54 (kPut R kb ka kl kc m n gv lv N0 T ll o.rev_Main o.rev_Sub (by first | assumption | omega) (by first | assumption | omega) (⟨by omega, by omega⟩) (hbd.v (by omega)) (hls_)) H69_ ?_)
  rintro v61_ p73_ w70_ ⟨gv62_, lv63_, T64_, ll65_, rfl, rfl, he66_, he67_, he68_⟩ S72_ H71_
  have S74_ := Same.trans S60_ S72_
  have hbd2_ : GBd (B + 1) ((N0 ++ T64_).map GN.m) := by rw [he66_]; exact iPut_bd hbd
  refine wpList_nil ?_
  refine R_0 rfl ⟨_, rfl, ?_⟩
  refine ⟨⟨Holds.rd H71_ 10 rfl, Holds.rd H71_ 11 rfl, (Holds.ro_at H71_ 0 rfl)⟩, ?_⟩
  refine A_done (by kernel_rfl) ?_
  refine (X_then (hK31_ _ _ ?_))
  clear hK31_
  refine C_reg ?_
  refine S_list (T_val (v := (Value.pointer (some ⟨b18_, 0, none⟩))) (by kernel_rfl) ?_)
  refine S_list0 (T_store1 (v := (Value.bool true)) rfl rfl z4 rfl H71_ 8 rfl (Nat.le_of_ble_eq_true (by rfl)) ?_)
  intro w75_ S77_ H76_
  have S78_ := Same.trans S74_ S77_
  refine wpList_nil ?_
  refine (X_blkN (X_then (hK27_ _ _ ?_)))
  clear hK27_
  refine C_seq (fun K79_ hK79_ => ?_)
  refine C_reg ?_
  refine S_list (T_val (v := (Value.agg #[(Value.pointer (some ⟨kb, 0, none⟩))])) (x_loadN (vs := [(Value.pointer (some ⟨kb, 0, none⟩))]) rfl Try.underlying55 rfl z55 rfl (Rd.cells (Holds.rd H76_ 11 rfl) 0 rfl)) ?_)
  refine S_list (T_callW (al := [(Value.agg #[(Value.pointer (some ⟨kb, 0, none⟩))])]) rfl rfl cb49 (Calls.into (n := 6) (al := [(Value.agg #[(Value.pointer (some ⟨kb, 0, none⟩))])]) Try.func49 rfl Try.ntmps49 rfl rfl ?_))
  refine C_seq (fun K80_ hK80_ => ?_)
  refine C_reg ?_
  refine S_list (T_box (v := (Value.agg #[(Value.pointer (some ⟨kb, 0, none⟩))])) rfl H76_ ?_)
  intro b81_ w82_ S84_ H83_
  replace H83_ : Holds w82_ (cl b81_ 55 [(Value.pointer (some ⟨kb, 0, none⟩))] :: ro R :: cl kb 104 [(Value.slice ka kl kc), (Value.int .i64 o.rev_Main), (Value.int .i64 o.rev_Sub), gv62_] :: sl 106 4 gv62_ (List.length (N0 ++ T64_)) ((N0 ++ T64_).flatMap GN.cells) :: sl 58 2 lv63_ (List.length ll65_) (ll65_.flatMap RV.cells) :: cl b56_ 58 [(Value.int .i64 o.rev_Main), (Value.int .i64 o.rev_Sub)] :: cl b51_ 55 [(Value.pointer (some ⟨kb, 0, none⟩))] :: cl b40_ 58 [(Value.int .i64 o.rev_Main), (Value.int .i64 o.rev_Sub)] :: cl b35_ 31 [(Value.int .i64 o.rev_Main), (Value.int .i64 o.rev_Sub)] :: cl b18_ 43 [(Value.bool true), (Value.int .i64 0), (Value.int .i64 0), (Value.int .i64 0), (Value.int .i64 0), (Value.int .i64 0), (Value.slice none 0 0), (Value.int .i64 0), (Value.int .i64 0), (Value.slice none 0 0)] :: cl b12_ 43 [(Value.bool false), (Value.int .i64 0), (Value.int .i64 0), (Value.int .i64 0), (Value.int .i64 0), (Value.int .i64 0), (Value.slice none 0 0), (Value.int .i64 0), (Value.int .i64 0), (Value.slice none 0 0)] :: cl b7_ 39 [(Value.int .i64 o.kind), (Value.int .i64 o.rev_Main), (Value.int .i64 o.rev_Sub), (Value.int .i64 o.created_Main), (Value.int .i64 o.created_Sub), (Value.int .i64 o.ver), (Value.int .i64 o.at_)] :: cl b2_ 55 [(Value.pointer (some ⟨kb, 0, none⟩))] :: F) := H83_
  have S85_ := Same.trans S78_ S84_
  refine S_list (T_alloc z61 H83_ ?_)
  intro b86_ w87_ S89_ H88_
  have S90_ := Same.trans S85_ S89_
  refine wpList_nil ?_
  refine (X_then (hK80_ _ _ ?_))
  clear hK80_
  refine C_seq (fun K91_ hK91_ => ?_)
  refine C_reg ?_
  refine S_list (T_val (v := (Value.pointer (some ⟨b81_, 0, none⟩))) (by kernel_rfl) ?_)
  refine S_list (T_val (v := (Value.pointer (some ⟨kb, 0, none⟩))) (x_load1 rfl Try.underlying53 rfl ((Holds.rd H88_ 1 rfl) 0 (Value.pointer (some ⟨kb, 0, none⟩)) rfl)) ?_)
  have H100_ := ((Holds.bring (Holds.bring (Holds.bring (Holds.bring H88_ 5 rfl) 5 rfl) 5 rfl) 5 rfl) :)
  refine S_list (T_callG (al := [(Value.pointer (some ⟨kb, 0, none⟩))]) (pre := [cl kb 104 [(Value.slice ka kl kc), (Value.int .i64 o.rev_Main), (Value.int .i64 o.rev_Sub), gv62_], sl 106 4 gv62_ (List.length (N0 ++ T64_)) ((N0 ++ T64_).flatMap GN.cells), sl 58 2 lv63_ (List.length ll65_) (ll65_.flatMap RV.cells)]) rfl rfl cb65 (kZzOut R kb ka kl kc o.rev_Main o.rev_Sub gv62_ lv63_ N0 T64_ ll65_ (he67_) (hN) (by have := hbd2_.of.1; omega) (hbd2_.l (by omega))) H100_ ?_)
  rintro R93_ v94_ p104_ w101_ hs92_ ⟨v95_, N96_, rfl, rfl, he97_, he98_, he99_⟩ S103_ H102_
  replace H102_ : Holds w101_ (ro R93_ :: cl kb 104 [(Value.slice ka kl kc), (Value.int .i64 o.rev_Main), (Value.int .i64 o.rev_Sub), gv62_] :: sl 106 4 gv62_ (List.length (N0 ++ T64_)) ((N0 ++ T64_).flatMap GN.cells) :: sl 58 2 lv63_ (List.length ll65_) (ll65_.flatMap RV.cells) :: cl b86_ 61 [(Value.int .i64 0), (Value.int .i64 0), (Value.slice none 0 0)] :: cl b81_ 55 [(Value.pointer (some ⟨kb, 0, none⟩))] :: cl b56_ 58 [(Value.int .i64 o.rev_Main), (Value.int .i64 o.rev_Sub)] :: cl b51_ 55 [(Value.pointer (some ⟨kb, 0, none⟩))] :: cl b40_ 58 [(Value.int .i64 o.rev_Main), (Value.int .i64 o.rev_Sub)] :: cl b35_ 31 [(Value.int .i64 o.rev_Main), (Value.int .i64 o.rev_Sub)] :: cl b18_ 43 [(Value.bool true), (Value.int .i64 0), (Value.int .i64 0), (Value.int .i64 0), (Value.int .i64 0), (Value.int .i64 0), (Value.slice none 0 0), (Value.int .i64 0), (Value.int .i64 0), (Value.slice none 0 0)] :: cl b12_ 43 [(Value.bool false), (Value.int .i64 0), (Value.int .i64 0), (Value.int .i64 0), (Value.int .i64 0), (Value.int .i64 0), (Value.slice none 0 0), (Value.int .i64 0), (Value.int .i64 0), (Value.slice none 0 0)] :: cl b7_ 39 [(Value.int .i64 o.kind), (Value.int .i64 o.rev_Main), (Value.int .i64 o.rev_Sub), (Value.int .i64 o.created_Main), (Value.int .i64 o.created_Sub), (Value.int .i64 o.ver), (Value.int .i64 o.at_)] :: cl b2_ 55 [(Value.pointer (some ⟨kb, 0, none⟩))] :: F) := H102_
  have S105_ := Same.trans S90_ S103_
  have hzl_ := map_m_len he97_
  have hza_ := map_m_all he97_ (hbd2_.l (show _ ≤ 100000 by omega))
  refine S_list0 (T_storeN (vs := [(Value.int .i64 o.rev_Main), (Value.int .i64 o.rev_Sub), v95_]) rfl rfl z61 rfl (List.forall_mem_cons.2 ⟨rfl, (List.forall_mem_cons.2 ⟨rfl, (List.forall_mem_cons.2 ⟨(RS.one he98_), (fun _ h__ => by cases h__)⟩)⟩)⟩) H102_ 4 rfl (Nat.le_of_ble_eq_true (by rfl)) ?_)
  intro w106_ S108_ H107_
  have S109_ := Same.trans S105_ S108_
  refine wpList_nil ?_
  refine (X_then (hK91_ _ _ ?_))
  clear hK91_
  refine C_ret ?_
  refine R_any (v := (Value.agg #[(Value.int .i64 o.rev_Main), (Value.int .i64 o.rev_Sub), v95_])) (run_results1 rfl ⟨_, rfl, load_resN Try.underlying61 rfl z61 rfl (vs := [(Value.int .i64 o.rev_Main), (Value.int .i64 o.rev_Sub), v95_]) (Holds.cl_cells H107_ 4 rfl 0 rfl)⟩) ⟨_, rfl, ?_⟩
  refine S_list (T_callG (al := [(Value.agg #[(Value.int .i64 o.rev_Main), (Value.int .i64 o.rev_Sub), v95_])]) (pre := []) rfl rfl cb48 (kDumpOut R93_ o.rev_Main o.rev_Sub v95_ N96_ he98_ (he99_) (by have := hbd2_.of.1; omega) (hza_)) H107_ ?_)
  rintro R111_ v112_ p121_ w118_ hs110_ ⟨v113_, N114_, rfl, rfl, he115_, he116_, he117_⟩ S120_ H119_
  have S122_ := Same.trans S109_ S120_
  have hz_R_R111_ := Sub.trans' hs92_ hs110_
  refine S_list (T_val (v := (Value.pointer (some ⟨b18_, 7, none⟩))) (by kernel_rfl) ?_)
  refine S_list0 (T_storeN (vs := [(Value.int .i64 o.rev_Main), (Value.int .i64 o.rev_Sub), v113_]) rfl rfl z34 rfl (List.forall_mem_cons.2 ⟨rfl, (List.forall_mem_cons.2 ⟨rfl, (List.forall_mem_cons.2 ⟨(RS.one he116_), (fun _ h__ => by cases h__)⟩)⟩)⟩) H119_ 10 rfl (Nat.le_of_ble_eq_true (by rfl)) ?_)
  intro w123_ S125_ H124_
  replace H124_ : Holds w123_ (ro R111_ :: cl kb 104 [(Value.slice ka kl kc), (Value.int .i64 o.rev_Main), (Value.int .i64 o.rev_Sub), gv62_] :: sl 106 4 gv62_ (List.length (N0 ++ T64_)) ((N0 ++ T64_).flatMap GN.cells) :: sl 58 2 lv63_ (List.length ll65_) (ll65_.flatMap RV.cells) :: cl b86_ 61 [(Value.int .i64 o.rev_Main), (Value.int .i64 o.rev_Sub), v95_] :: cl b81_ 55 [(Value.pointer (some ⟨kb, 0, none⟩))] :: cl b56_ 58 [(Value.int .i64 o.rev_Main), (Value.int .i64 o.rev_Sub)] :: cl b51_ 55 [(Value.pointer (some ⟨kb, 0, none⟩))] :: cl b40_ 58 [(Value.int .i64 o.rev_Main), (Value.int .i64 o.rev_Sub)] :: cl b35_ 31 [(Value.int .i64 o.rev_Main), (Value.int .i64 o.rev_Sub)] :: cl b18_ 43 [(Value.bool true), (Value.int .i64 0), (Value.int .i64 0), (Value.int .i64 0), (Value.int .i64 0), (Value.int .i64 0), (Value.slice none 0 0), (Value.int .i64 o.rev_Main), (Value.int .i64 o.rev_Sub), v113_] :: cl b12_ 43 [(Value.bool false), (Value.int .i64 0), (Value.int .i64 0), (Value.int .i64 0), (Value.int .i64 0), (Value.int .i64 0), (Value.slice none 0 0), (Value.int .i64 0), (Value.int .i64 0), (Value.slice none 0 0)] :: cl b7_ 39 [(Value.int .i64 o.kind), (Value.int .i64 o.rev_Main), (Value.int .i64 o.rev_Sub), (Value.int .i64 o.created_Main), (Value.int .i64 o.created_Sub), (Value.int .i64 o.ver), (Value.int .i64 o.at_)] :: cl b2_ 55 [(Value.pointer (some ⟨kb, 0, none⟩))] :: F) := H124_
  have S126_ := Same.trans S122_ S125_
  refine wpList_nil ?_
  refine (X_then (hK79_ _ _ ?_))
  clear hK79_
  refine C_seq (fun K127_ hK127_ => ?_)
  refine C_reg ?_
  refine S_list (T_val (v := (Value.agg #[(Value.bool true), (Value.int .i64 0), (Value.int .i64 0), (Value.int .i64 0), (Value.int .i64 0), (Value.int .i64 0), (Value.slice none 0 0), (Value.int .i64 o.rev_Main), (Value.int .i64 o.rev_Sub), v113_])) (x_loadN (vs := [(Value.bool true), (Value.int .i64 0), (Value.int .i64 0), (Value.int .i64 0), (Value.int .i64 0), (Value.int .i64 0), (Value.slice none 0 0), (Value.int .i64 o.rev_Main), (Value.int .i64 o.rev_Sub), v113_]) rfl Try.underlying43 rfl z43 rfl (Rd.cells (Holds.rd H124_ 10 rfl) 0 rfl)) ?_)
  refine S_list0 (T_storeN (vs := [(Value.bool true), (Value.int .i64 0), (Value.int .i64 0), (Value.int .i64 0), (Value.int .i64 0), (Value.int .i64 0), (Value.slice none 0 0), (Value.int .i64 o.rev_Main), (Value.int .i64 o.rev_Sub), v113_]) rfl rfl z43 rfl (List.forall_mem_cons.2 ⟨rfl, (List.forall_mem_cons.2 ⟨rfl, (List.forall_mem_cons.2 ⟨rfl, (List.forall_mem_cons.2 ⟨rfl, (List.forall_mem_cons.2 ⟨rfl, (List.forall_mem_cons.2 ⟨rfl, (List.forall_mem_cons.2 ⟨rfl, (List.forall_mem_cons.2 ⟨rfl, (List.forall_mem_cons.2 ⟨rfl, (List.forall_mem_cons.2 ⟨(RS.one he116_), (fun _ h__ => by cases h__)⟩)⟩)⟩)⟩)⟩)⟩)⟩)⟩)⟩)⟩) H124_ 11 rfl (Nat.le_of_ble_eq_true (by rfl)) ?_)
  intro w128_ S130_ H129_
  have S131_ := Same.trans S126_ S130_
  refine wpList_nil ?_
  refine (X_then (hK127_ _ _ ?_))
  clear hK127_
  refine C_ret ?_
  refine R_any (v := (Value.agg #[(Value.bool true), (Value.int .i64 0), (Value.int .i64 0), (Value.int .i64 0), (Value.int .i64 0), (Value.int .i64 0), (Value.slice none 0 0), (Value.int .i64 o.rev_Main), (Value.int .i64 o.rev_Sub), v113_])) (run_results1 rfl ⟨_, rfl, load_resN Try.underlying43 rfl z43 rfl (vs := [(Value.bool true), (Value.int .i64 0), (Value.int .i64 0), (Value.int .i64 0), (Value.int .i64 0), (Value.int .i64 0), (Value.slice none 0 0), (Value.int .i64 o.rev_Main), (Value.int .i64 o.rev_Sub), v113_]) (Holds.cl_cells H129_ 11 rfl 0 rfl)⟩) ?_
  have H132_ := Holds.recl H129_ 1 rfl ((lcons rfl (lcons (congrArg (Value.int .i64) ((by rw [hs_]) : o.rev_Main = s'.1)) (lcons (congrArg (Value.int .i64) ((by rw [hs_]) : o.rev_Sub = s'.2.1)) rfl))) : [(Value.slice ka kl kc), (Value.int .i64 o.rev_Main), (Value.int .i64 o.rev_Sub), gv62_] = [(Value.slice ka kl kc), (Value.int .i64 s'.1), (Value.int .i64 s'.2.1), gv62_])
  have H133_ : Holds w128_ (ro R111_ :: cl kb 104 [(Value.slice ka kl kc), (Value.int .i64 s'.1), (Value.int .i64 s'.2.1), gv62_] :: sl 106 4 gv62_ (List.length (N0 ++ T64_)) ((N0 ++ T64_).flatMap GN.cells) :: sl 58 2 lv63_ (List.length ll65_) (ll65_.flatMap RV.cells) :: F) := (Holds.pkF H132_ [0, 0, 0, 0] 10 :)
  exact ⟨R111_, _, _, rfl, hz_R_R111_, ⟨gv62_, lv63_, N0, T64_, ll65_, true, 0, 0, 0, 0, 0, (Value.slice none 0 0), o.rev_Main, o.rev_Sub, v113_, ([] : List RV), N114_, (congrArg (fun l => Value.agg (List.toArray l)) (lcons rfl (lcons rfl (lcons rfl (lcons rfl (lcons rfl (lcons rfl (lcons (rfl : (Value.slice none 0 0) = ((Value.slice none 0 0))) rfl)))))))), rfl, (by rw [hs_]; exact he66_), (he67_), ((fun h_ => absurd h_ he68_)), (fun x hx => (hN x hx).mono hz_R_R111_), (⟨RS.nil _ _, he116_, he117_⟩), (by rw [hs_, ha_]; show KM.mk _ _ _ _ _ _ _ _ _ _ = _; rw [(he115_.trans he97_).trans he66_]; rfl)⟩, S131_, H133_⟩
 ·have c30_fp : ¬ (o.kind = 1) := of_decide_eq_false c30_f
  refine C_seq (fun K134_ hK134_ => ?_)
  refine C_reg ?_
  refine S_list (T_val (v := (Value.bool (decide (o.kind = 2)))) (x_bin rfl rfl rfl) ?_)
  refine S_list (T_val (v := (Value.bool (decide (o.kind = 2)))) (x_assign rfl) ?_)
  refine wpList_nil ?_
  refine (X_then (hK134_ _ _ ?_))
  clear hK134_
  refine C_cond (b := decide (o.kind = 2)) rfl (fun c135_t => ?_) (fun c135_f => ?_)
  ·have c135_tp : o.kind = 2 := of_decide_eq_true c135_t
   exact absurd hdo (by rw [iDo_no (by omega) (by omega) (by omega)]; intro h_; cases h_)
  ·have c135_fp : ¬ (o.kind = 2) := of_decide_eq_false c135_f
   refine C_seq (fun K136_ hK136_ => ?_)
   refine C_reg ?_
   refine S_list (T_val (v := (Value.bool (decide (o.kind = 3)))) (x_bin rfl rfl rfl) ?_)
   refine S_list (T_val (v := (Value.bool (decide (o.kind = 3)))) (x_assign rfl) ?_)
   refine wpList_nil ?_
   refine (X_then (hK136_ _ _ ?_))
   clear hK136_
   refine C_cond (b := decide (o.kind = 3)) rfl (fun c137_t => ?_) (fun c137_f => ?_)
   ·have c137_tp : o.kind = 3 := of_decide_eq_true c137_t
    exact absurd hdo (by rw [iDo_no (by omega) (by omega) (by omega)]; intro h_; cases h_)
   ·have c137_fp : ¬ (o.kind = 3) := of_decide_eq_false c137_f
    refine C_seq (fun K138_ hK138_ => ?_)
    refine C_reg ?_
    refine S_list (T_val (v := (Value.bool (decide (o.kind = 4)))) (x_bin rfl rfl rfl) ?_)
    refine S_list (T_val (v := (Value.bool (decide (o.kind = 4)))) (x_assign rfl) ?_)
    refine wpList_nil ?_
    refine (X_then (hK138_ _ _ ?_))
    clear hK138_
    refine C_cond (b := decide (o.kind = 4)) rfl (fun c139_t => ?_) (fun c139_f => ?_)
    ·have c139_tp : o.kind = 4 := of_decide_eq_true c139_t
     exact absurd hdo (by rw [iDo_no (by omega) (by omega) (by omega)]; intro h_; cases h_)
    ·have c139_fp : ¬ (o.kind = 4) := of_decide_eq_false c139_f
     refine C_seq (fun K140_ hK140_ => ?_)
     refine C_reg ?_
     refine S_list (T_val (v := (Value.bool (decide (o.kind = 5)))) (x_bin rfl rfl rfl) ?_)
     refine S_list (T_val (v := (Value.bool (decide (o.kind = 5)))) (x_assign rfl) ?_)
     refine wpList_nil ?_
     refine (X_then (hK140_ _ _ ?_))
     clear hK140_
     refine C_cond (b := decide (o.kind = 5)) rfl (fun c141_t => ?_) (fun c141_f => ?_)
     ·have c141_tp : o.kind = 5 := of_decide_eq_true c141_t
      obtain ⟨hem_, hs_, ha_⟩ := iDo_get c141_tp hdo
      have hbo_ := hbd.of
      refine C_seq (fun K142_ hK142_ => ?_)
      refine C_reg ?_
      refine S_list (T_val (v := (Value.agg #[(Value.pointer (some ⟨kb, 0, none⟩))])) (x_loadN (vs := [(Value.pointer (some ⟨kb, 0, none⟩))]) rfl Try.underlying55 rfl z55 rfl (Rd.cells (Holds.rd H24_ 3 rfl) 0 rfl)) ?_)
      refine S_list (T_val (v := (Value.pointer (some ⟨b7_, 6, none⟩))) (by kernel_rfl) ?_)
      refine S_list (T_val (v := (Value.int .i64 o.at_)) (x_load1 rfl Try.underlying2 rfl ((Holds.rd H24_ 2 rfl) 6 (Value.int .i64 o.at_) rfl)) ?_)
      refine S_list (T_callW (al := [(Value.agg #[(Value.pointer (some ⟨kb, 0, none⟩))]), (Value.int .i64 o.at_)]) rfl rfl cb40 (Calls.into (n := 16) (al := [(Value.agg #[(Value.pointer (some ⟨kb, 0, none⟩))]), (Value.int .i64 o.at_)]) Try.func40 rfl Try.ntmps40 rfl rfl ?_))
      refine C_seq (fun K143_ hK143_ => ?_)
      refine C_reg ?_
      refine S_list (T_box (v := (Value.agg #[(Value.pointer (some ⟨kb, 0, none⟩))])) rfl H24_ ?_)
      intro b144_ w145_ S147_ H146_
      have S148_ := Same.trans S26_ S147_
      refine S_list (T_alloc z58 H146_ ?_)
      intro b149_ w150_ S152_ H151_
      have S153_ := Same.trans S148_ S152_
      refine S_list (T_alloc z58 H151_ ?_)
      intro b154_ w155_ S157_ H156_
      replace H156_ : Holds w155_ (cl b154_ 58 [(Value.int .i64 0), (Value.int .i64 0)] :: cl b149_ 58 [(Value.int .i64 0), (Value.int .i64 0)] :: cl b144_ 55 [(Value.pointer (some ⟨kb, 0, none⟩))] :: cl b18_ 43 [(Value.bool false), (Value.int .i64 0), (Value.int .i64 0), (Value.int .i64 0), (Value.int .i64 0), (Value.int .i64 0), (Value.slice none 0 0), (Value.int .i64 0), (Value.int .i64 0), (Value.slice none 0 0)] :: cl b12_ 43 [(Value.bool false), (Value.int .i64 0), (Value.int .i64 0), (Value.int .i64 0), (Value.int .i64 0), (Value.int .i64 0), (Value.slice none 0 0), (Value.int .i64 0), (Value.int .i64 0), (Value.slice none 0 0)] :: cl b7_ 39 [(Value.int .i64 o.kind), (Value.int .i64 o.rev_Main), (Value.int .i64 o.rev_Sub), (Value.int .i64 o.created_Main), (Value.int .i64 o.created_Sub), (Value.int .i64 o.ver), (Value.int .i64 o.at_)] :: cl b2_ 55 [(Value.pointer (some ⟨kb, 0, none⟩))] :: ro R :: cl kb 104 [(Value.slice ka kl kc), (Value.int .i64 m), (Value.int .i64 n), gv] :: sl 106 4 gv (List.length (N0 ++ T)) ((N0 ++ T).flatMap GN.cells) :: sl 58 2 lv (List.length ll) (ll.flatMap RV.cells) :: F) := H156_
      have S158_ := Same.trans S153_ S157_
      refine S_list (T_val (v := (Value.int .i64 0)) (x_assign rfl) ?_)
      refine S_list (T_val (v := (Value.nilIface)) (x_assign rfl) ?_)
      refine wpList_nil ?_
      refine (X_then (hK143_ _ _ ?_))
      clear hK143_
      refine C_seq (fun K159_ hK159_ => ?_)
      refine C_reg ?_
      refine S_list (T_val (v := (Value.pointer (some ⟨b144_, 0, none⟩))) (by kernel_rfl) ?_)
      refine S_list (T_val (v := (Value.pointer (some ⟨kb, 0, none⟩))) (x_load1 rfl Try.underlying53 rfl ((Holds.rd H156_ 2 rfl) 0 (Value.pointer (some ⟨kb, 0, none⟩)) rfl)) ?_)
      refine S_list (T_val (v := (Value.int .i64 o.at_)) (x_move rfl) ?_)
      have H168_ := ((Holds.bring (Holds.bring (Holds.bring (Holds.bring H156_ 8 rfl) 10 rfl) 10 rfl) 10 rfl) :)
      refine S_list (T_call (al := [(Value.pointer (some ⟨kb, 0, none⟩)), (Value.pointer none), (Value.int .i64 o.at_)]) (pre := [sl 106 4 gv (List.length (N0 ++ T)) ((N0 ++ T).flatMap GN.cells), sl 58 2 lv (List.length ll) (ll.flatMap RV.cells), cl kb 104 [(Value.slice ka kl kc), (Value.int .i64 m), (Value.int .i64 n), gv]]) rfl rfl cb58 (kGet R kb ka kl kc m n gv lv N0 T ll o.at_ (by first | assumption | omega) (by first | assumption | omega) (by omega) (hbd.l (by omega)) (iEmp_ne hem_) (hbd.v (by omega))) H168_ ?_)
      rintro v160_ p172_ w169_ hq173_ S171_ H170_
      rcases hq173_ with ⟨rfl, rfl, he161_⟩ | ⟨a162_, b163_, c164_, d165_, e166_, rfl, rfl, he167_⟩
      ·skip
       have S174_ := Same.trans S158_ S171_
       refine S_list (T_val (v := (Value.agg #[(Value.int .i64 0), (Value.int .i64 0)])) (by kernel_rfl) ?_)
       refine S_list (T_val (v := (Value.agg #[(Value.int .i64 0), (Value.int .i64 0)])) (by kernel_rfl) ?_)
       refine S_list (T_val (v := (Value.int .i64 0)) (by kernel_rfl) ?_)
       refine S_list (T_val (v := (Value.iface 122 (Value.string (ByteArray.mk #[109, 118, 99, 99, 58, 32, 114, 101, 118, 105, 115, 105, 111, 110, 32, 110, 111, 116, 32, 102, 111, 117, 110, 100])))) (by kernel_rfl) ?_)
       refine S_list0 (T_storeN (vs := [(Value.int .i64 0), (Value.int .i64 0)]) rfl rfl z58 rfl (by simp [Value.oneCell']) H170_ 5 rfl (Nat.le_of_ble_eq_true (by rfl)) ?_)
       intro w176_ S178_ H177_
       have S179_ := Same.trans S174_ S178_
       refine S_list0 (T_storeN (vs := [(Value.int .i64 0), (Value.int .i64 0)]) rfl rfl z58 rfl (by simp [Value.oneCell']) H177_ 4 rfl (Nat.le_of_ble_eq_true (by rfl)) ?_)
       intro w180_ S182_ H181_
       have S183_ := Same.trans S179_ S182_
       refine S_list (T_val (v := (Value.int .i64 0)) (x_assign rfl) ?_)
       refine S_list (T_val (v := (Value.iface 122 (Value.string (ByteArray.mk #[109, 118, 99, 99, 58, 32, 114, 101, 118, 105, 115, 105, 111, 110, 32, 110, 111, 116, 32, 102, 111, 117, 110, 100])))) (x_assign rfl) ?_)
       refine wpList_nil ?_
       refine (X_then (hK159_ _ _ ?_))
       clear hK159_
       refine C_ret ?_
       refine R_any (v := (Value.tuple #[(Value.agg #[(Value.int .i64 0), (Value.int .i64 0)]), (Value.agg #[(Value.int .i64 0), (Value.int .i64 0)]), (Value.int .i64 0), (Value.iface 122 (Value.string (ByteArray.mk #[109, 118, 99, 99, 58, 32, 114, 101, 118, 105, 115, 105, 111, 110, 32, 110, 111, 116, 32, 102, 111, 117, 110, 100])))])) (run_results4 rfl ⟨_, rfl, load_resN Try.underlying58 rfl z58 rfl (vs := [(Value.int .i64 0), (Value.int .i64 0)]) (Holds.cl_cells H181_ 5 rfl 0 rfl)⟩ ⟨_, rfl, load_resN Try.underlying58 rfl z58 rfl (vs := [(Value.int .i64 0), (Value.int .i64 0)]) (Holds.cl_cells H181_ 4 rfl 0 rfl)⟩ rfl rfl) ⟨_, rfl, ?_⟩
       refine S_list (T_val (v := (Value.tuple #[(Value.agg #[(Value.int .i64 0), (Value.int .i64 0)]), (Value.agg #[(Value.int .i64 0), (Value.int .i64 0)]), (Value.int .i64 0), (Value.iface 122 (Value.string (ByteArray.mk #[109, 118, 99, 99, 58, 32, 114, 101, 118, 105, 115, 105, 111, 110, 32, 110, 111, 116, 32, 102, 111, 117, 110, 100])))])) (x_move rfl) ?_)
       refine S_list (T_val (v := (Value.agg #[(Value.int .i64 0), (Value.int .i64 0)])) (by kernel_rfl) ?_)
       refine S_list (T_val (v := (Value.agg #[(Value.int .i64 0), (Value.int .i64 0)])) (by kernel_rfl) ?_)
       refine S_list (T_val (v := (Value.int .i64 0)) (by kernel_rfl) ?_)
       refine S_list (T_val (v := (Value.iface 122 (Value.string (ByteArray.mk #[109, 118, 99, 99, 58, 32, 114, 101, 118, 105, 115, 105, 111, 110, 32, 110, 111, 116, 32, 102, 111, 117, 110, 100])))) (by kernel_rfl) ?_)
       refine S_list (T_alloc z58 H181_ ?_)
       intro b184_ w185_ S187_ H186_
       replace H186_ : Holds w185_ (cl b184_ 58 [(Value.int .i64 0), (Value.int .i64 0)] :: ro R :: sl 106 4 gv (List.length (N0 ++ T)) ((N0 ++ T).flatMap GN.cells) :: sl 58 2 lv (List.length ll) (ll.flatMap RV.cells) :: cl kb 104 [(Value.slice ka kl kc), (Value.int .i64 m), (Value.int .i64 n), gv] :: cl b154_ 58 [(Value.int .i64 0), (Value.int .i64 0)] :: cl b149_ 58 [(Value.int .i64 0), (Value.int .i64 0)] :: cl b144_ 55 [(Value.pointer (some ⟨kb, 0, none⟩))] :: cl b18_ 43 [(Value.bool false), (Value.int .i64 0), (Value.int .i64 0), (Value.int .i64 0), (Value.int .i64 0), (Value.int .i64 0), (Value.slice none 0 0), (Value.int .i64 0), (Value.int .i64 0), (Value.slice none 0 0)] :: cl b12_ 43 [(Value.bool false), (Value.int .i64 0), (Value.int .i64 0), (Value.int .i64 0), (Value.int .i64 0), (Value.int .i64 0), (Value.slice none 0 0), (Value.int .i64 0), (Value.int .i64 0), (Value.slice none 0 0)] :: cl b7_ 39 [(Value.int .i64 o.kind), (Value.int .i64 o.rev_Main), (Value.int .i64 o.rev_Sub), (Value.int .i64 o.created_Main), (Value.int .i64 o.created_Sub), (Value.int .i64 o.ver), (Value.int .i64 o.at_)] :: cl b2_ 55 [(Value.pointer (some ⟨kb, 0, none⟩))] :: F) := H186_
       have S188_ := Same.trans S183_ S187_
       refine S_list (T_alloc z58 H186_ ?_)
       intro b189_ w190_ S192_ H191_
       have S193_ := Same.trans S188_ S192_
       refine S_list0 (T_storeN (vs := [(Value.int .i64 0), (Value.int .i64 0)]) rfl rfl z58 rfl (by simp [Value.oneCell']) H191_ 1 rfl (Nat.le_of_ble_eq_true (by rfl)) ?_)
       intro w194_ S196_ H195_
       have S197_ := Same.trans S193_ S196_
       refine S_list0 (T_storeN (vs := [(Value.int .i64 0), (Value.int .i64 0)]) rfl rfl z58 rfl (by simp [Value.oneCell']) H195_ 0 rfl (Nat.le_of_ble_eq_true (by rfl)) ?_)
       intro w198_ S200_ H199_
       replace H199_ : Holds w198_ (cl b189_ 58 [(Value.int .i64 0), (Value.int .i64 0)] :: cl b184_ 58 [(Value.int .i64 0), (Value.int .i64 0)] :: ro R :: sl 106 4 gv (List.length (N0 ++ T)) ((N0 ++ T).flatMap GN.cells) :: sl 58 2 lv (List.length ll) (ll.flatMap RV.cells) :: cl kb 104 [(Value.slice ka kl kc), (Value.int .i64 m), (Value.int .i64 n), gv] :: cl b154_ 58 [(Value.int .i64 0), (Value.int .i64 0)] :: cl b149_ 58 [(Value.int .i64 0), (Value.int .i64 0)] :: cl b144_ 55 [(Value.pointer (some ⟨kb, 0, none⟩))] :: cl b18_ 43 [(Value.bool false), (Value.int .i64 0), (Value.int .i64 0), (Value.int .i64 0), (Value.int .i64 0), (Value.int .i64 0), (Value.slice none 0 0), (Value.int .i64 0), (Value.int .i64 0), (Value.slice none 0 0)] :: cl b12_ 43 [(Value.bool false), (Value.int .i64 0), (Value.int .i64 0), (Value.int .i64 0), (Value.int .i64 0), (Value.int .i64 0), (Value.slice none 0 0), (Value.int .i64 0), (Value.int .i64 0), (Value.slice none 0 0)] :: cl b7_ 39 [(Value.int .i64 o.kind), (Value.int .i64 o.rev_Main), (Value.int .i64 o.rev_Sub), (Value.int .i64 o.created_Main), (Value.int .i64 o.created_Sub), (Value.int .i64 o.ver), (Value.int .i64 o.at_)] :: cl b2_ 55 [(Value.pointer (some ⟨kb, 0, none⟩))] :: F) := H199_
       have S201_ := Same.trans S197_ S200_
       refine S_list (T_val (v := (Value.int .i64 0)) (x_assign rfl) ?_)
       refine S_list (T_val (v := (Value.iface 122 (Value.string (ByteArray.mk #[109, 118, 99, 99, 58, 32, 114, 101, 118, 105, 115, 105, 111, 110, 32, 110, 111, 116, 32, 102, 111, 117, 110, 100])))) (x_assign rfl) ?_)
       refine wpList_nil ?_
       refine (X_then (hK142_ _ _ ?_))
       clear hK142_
       refine A_start (S := fun w => Rd b189_ [(Value.int .i64 0), (Value.int .i64 0)] w ∧ Rd b184_ [(Value.int .i64 0), (Value.int .i64 0)] w ∧ SlRd gv ((N0 ++ T).flatMap GN.cells) w ∧ SlRd lv (ll.flatMap RV.cells) w ∧ Sub R (hp w)) (N := 9) foll rfl rfl ?_
       have H202_ := Holds.drew_ H199_
       have hq203_ := And.intro (Holds.rd H202_ 0 rfl) (And.intro (Holds.rd H202_ 1 rfl) (And.intro (Holds.slrd H202_ 3 rfl) (And.intro (Holds.slrd H202_ 4 rfl) ((Holds.ro_at H202_ 2 rfl)))))
       refine A_tk 0 (v := (Value.iface 122 (Value.string (ByteArray.mk #[109, 118, 99, 99, 58, 32, 114, 101, 118, 105, 115, 105, 111, 110, 32, 110, 111, 116, 32, 102, 111, 117, 110, 100])))) rfl (by kernel_rfl) (fun w hS => x_move rfl) hq203_ ?_
       refine A_tk 1 (v := (Value.bool false)) rfl (by kernel_rfl) (fun w hS => by kernel_rfl) hq203_ ?_
       refine A_tk 2 (v := (Value.agg #[(Value.int .i64 0), (Value.int .i64 0)])) rfl (by kernel_rfl) (fun w hS => x_loadN (vs := [(Value.int .i64 0), (Value.int .i64 0)]) rfl Try.underlying58 rfl z58 rfl (Rd.cells hS.2.1 0 rfl)) hq203_ ?_
       refine A_tk 4 (v := (Value.agg #[(Value.int .i64 0), (Value.int .i64 0)])) rfl (by kernel_rfl) (fun w hS => x_loadN (vs := [(Value.int .i64 0), (Value.int .i64 0)]) rfl Try.underlying58 rfl z58 rfl (Rd.cells hS.1 0 rfl)) hq203_ ?_
       refine A_tk 6 (v := (Value.int .i64 0)) rfl (by kernel_rfl) (fun w hS => x_move rfl) hq203_ ?_
       refine A_ready (i := 3) (rs := []) (by kernel_rfl) ?_
       refine AllR.cons ?_ AllR.nil
       refine A_op (ls' := #[true, true, true, true, true, false, true, false, false]) rfl (by kernel_rfl) (T_callW (al := [(Value.agg #[(Value.int .i64 0), (Value.int .i64 0)])]) rfl rfl cb41 (Calls.into (n := 8) (al := [(Value.agg #[(Value.int .i64 0), (Value.int .i64 0)])]) Try.func41 rfl Try.ntmps41 rfl rfl ?_))
       refine C_seq (fun K204_ hK204_ => ?_)
       refine C_reg ?_
       refine S_list (T_box (v := (Value.agg #[(Value.int .i64 0), (Value.int .i64 0)])) rfl H202_ ?_)
       intro b205_ w206_ S208_ H207_
       have S209_ := Same.trans (Same.trans S201_ (Same.drew _)) S208_
       refine S_list (T_alloc z31 H207_ ?_)
       intro b210_ w211_ S213_ H212_
       have S214_ := Same.trans S209_ S213_
       refine wpList_nil ?_
       refine (X_then (hK204_ _ _ ?_))
       clear hK204_
       refine C_seq (fun K215_ hK215_ => ?_)
       refine C_reg ?_
       refine S_list (T_val (v := (Value.pointer (some ⟨b205_, 0, none⟩))) (by kernel_rfl) ?_)
       refine S_list (T_val (v := (Value.int .i64 0)) (x_load1 rfl Try.underlying2 rfl ((Holds.rd H212_ 1 rfl) 0 (Value.int .i64 0) rfl)) ?_)
       refine S_list (T_val (v := (Value.pointer (some ⟨b205_, 1, none⟩))) (by kernel_rfl) ?_)
       refine S_list (T_val (v := (Value.int .i64 0)) (x_load1 rfl Try.underlying2 rfl ((Holds.rd H212_ 1 rfl) 1 (Value.int .i64 0) rfl)) ?_)
       refine S_list (T_val (v := (Value.agg #[(Value.int .i64 0), (Value.int .i64 0)])) (by kernel_rfl) ?_)
       refine S_list0 (T_storeN (vs := [(Value.int .i64 0), (Value.int .i64 0)]) rfl rfl z31 rfl (by simp [Value.oneCell']) H212_ 0 rfl (Nat.le_of_ble_eq_true (by rfl)) ?_)
       intro w216_ S218_ H217_
       replace H217_ : Holds w216_ (cl b210_ 31 [(Value.int .i64 0), (Value.int .i64 0)] :: cl b205_ 58 [(Value.int .i64 0), (Value.int .i64 0)] :: cl b189_ 58 [(Value.int .i64 0), (Value.int .i64 0)] :: cl b184_ 58 [(Value.int .i64 0), (Value.int .i64 0)] :: ro R :: sl 106 4 gv (List.length (N0 ++ T)) ((N0 ++ T).flatMap GN.cells) :: sl 58 2 lv (List.length ll) (ll.flatMap RV.cells) :: cl kb 104 [(Value.slice ka kl kc), (Value.int .i64 m), (Value.int .i64 n), gv] :: cl b154_ 58 [(Value.int .i64 0), (Value.int .i64 0)] :: cl b149_ 58 [(Value.int .i64 0), (Value.int .i64 0)] :: cl b144_ 55 [(Value.pointer (some ⟨kb, 0, none⟩))] :: cl b18_ 43 [(Value.bool false), (Value.int .i64 0), (Value.int .i64 0), (Value.int .i64 0), (Value.int .i64 0), (Value.int .i64 0), (Value.slice none 0 0), (Value.int .i64 0), (Value.int .i64 0), (Value.slice none 0 0)] :: cl b12_ 43 [(Value.bool false), (Value.int .i64 0), (Value.int .i64 0), (Value.int .i64 0), (Value.int .i64 0), (Value.int .i64 0), (Value.slice none 0 0), (Value.int .i64 0), (Value.int .i64 0), (Value.slice none 0 0)] :: cl b7_ 39 [(Value.int .i64 o.kind), (Value.int .i64 o.rev_Main), (Value.int .i64 o.rev_Sub), (Value.int .i64 o.created_Main), (Value.int .i64 o.created_Sub), (Value.int .i64 o.ver), (Value.int .i64 o.at_)] :: cl b2_ 55 [(Value.pointer (some ⟨kb, 0, none⟩))] :: F) := H217_
       have S219_ := Same.trans S214_ S218_
       refine wpList_nil ?_
       refine (X_then (hK215_ _ _ ?_))
       clear hK215_
       refine C_ret ?_
       refine R_any (v := (Value.agg #[(Value.int .i64 0), (Value.int .i64 0)])) (run_results1 rfl ⟨_, rfl, load_resN Try.underlying31 rfl z31 rfl (vs := [(Value.int .i64 0), (Value.int .i64 0)]) (Holds.cl_cells H217_ 0 rfl 0 rfl)⟩) ⟨_, rfl, ?_⟩
       refine ⟨⟨Holds.rd H217_ 2 rfl, Holds.rd H217_ 3 rfl, Holds.slrd H217_ 5 rfl, Holds.slrd H217_ 6 rfl, (Holds.ro_at H217_ 4 rfl)⟩, ?_⟩
       refine A_ready (i := 5) (rs := []) (by kernel_rfl) ?_
       refine AllR.cons ?_ AllR.nil
       refine A_op (ls' := #[true, true, true, true, true, true, true, false, false]) rfl (by kernel_rfl) (T_callW (al := [(Value.agg #[(Value.int .i64 0), (Value.int .i64 0)])]) rfl rfl cb41 (Calls.into (n := 8) (al := [(Value.agg #[(Value.int .i64 0), (Value.int .i64 0)])]) Try.func41 rfl Try.ntmps41 rfl rfl ?_))
       refine C_seq (fun K220_ hK220_ => ?_)
       refine C_reg ?_
       refine S_list (T_box (v := (Value.agg #[(Value.int .i64 0), (Value.int .i64 0)])) rfl H217_ ?_)
       intro b221_ w222_ S224_ H223_
       have S225_ := Same.trans S219_ S224_
       refine S_list (T_alloc z31 H223_ ?_)
       intro b226_ w227_ S229_ H228_
       have S230_ := Same.trans S225_ S229_
       refine wpList_nil ?_
       refine (X_then (hK220_ _ _ ?_))
       clear hK220_
       refine C_seq (fun K231_ hK231_ => ?_)
       refine C_reg ?_
       refine S_list (T_val (v := (Value.pointer (some ⟨b221_, 0, none⟩))) (by kernel_rfl) ?_)
       refine S_list (T_val (v := (Value.int .i64 0)) (x_load1 rfl Try.underlying2 rfl ((Holds.rd H228_ 1 rfl) 0 (Value.int .i64 0) rfl)) ?_)
       refine S_list (T_val (v := (Value.pointer (some ⟨b221_, 1, none⟩))) (by kernel_rfl) ?_)
       refine S_list (T_val (v := (Value.int .i64 0)) (x_load1 rfl Try.underlying2 rfl ((Holds.rd H228_ 1 rfl) 1 (Value.int .i64 0) rfl)) ?_)
       refine S_list (T_val (v := (Value.agg #[(Value.int .i64 0), (Value.int .i64 0)])) (by kernel_rfl) ?_)
       refine S_list0 (T_storeN (vs := [(Value.int .i64 0), (Value.int .i64 0)]) rfl rfl z31 rfl (by simp [Value.oneCell']) H228_ 0 rfl (Nat.le_of_ble_eq_true (by rfl)) ?_)
       intro w232_ S234_ H233_
       replace H233_ : Holds w232_ (cl b226_ 31 [(Value.int .i64 0), (Value.int .i64 0)] :: cl b221_ 58 [(Value.int .i64 0), (Value.int .i64 0)] :: cl b210_ 31 [(Value.int .i64 0), (Value.int .i64 0)] :: cl b205_ 58 [(Value.int .i64 0), (Value.int .i64 0)] :: cl b189_ 58 [(Value.int .i64 0), (Value.int .i64 0)] :: cl b184_ 58 [(Value.int .i64 0), (Value.int .i64 0)] :: ro R :: sl 106 4 gv (List.length (N0 ++ T)) ((N0 ++ T).flatMap GN.cells) :: sl 58 2 lv (List.length ll) (ll.flatMap RV.cells) :: cl kb 104 [(Value.slice ka kl kc), (Value.int .i64 m), (Value.int .i64 n), gv] :: cl b154_ 58 [(Value.int .i64 0), (Value.int .i64 0)] :: cl b149_ 58 [(Value.int .i64 0), (Value.int .i64 0)] :: cl b144_ 55 [(Value.pointer (some ⟨kb, 0, none⟩))] :: cl b18_ 43 [(Value.bool false), (Value.int .i64 0), (Value.int .i64 0), (Value.int .i64 0), (Value.int .i64 0), (Value.int .i64 0), (Value.slice none 0 0), (Value.int .i64 0), (Value.int .i64 0), (Value.slice none 0 0)] :: cl b12_ 43 [(Value.bool false), (Value.int .i64 0), (Value.int .i64 0), (Value.int .i64 0), (Value.int .i64 0), (Value.int .i64 0), (Value.slice none 0 0), (Value.int .i64 0), (Value.int .i64 0), (Value.slice none 0 0)] :: cl b7_ 39 [(Value.int .i64 o.kind), (Value.int .i64 o.rev_Main), (Value.int .i64 o.rev_Sub), (Value.int .i64 o.created_Main), (Value.int .i64 o.created_Sub), (Value.int .i64 o.ver), (Value.int .i64 o.at_)] :: cl b2_ 55 [(Value.pointer (some ⟨kb, 0, none⟩))] :: F) := H233_
       have S235_ := Same.trans S230_ S234_
       refine wpList_nil ?_
       refine (X_then (hK231_ _ _ ?_))
       clear hK231_
       refine C_ret ?_
       refine R_any (v := (Value.agg #[(Value.int .i64 0), (Value.int .i64 0)])) (run_results1 rfl ⟨_, rfl, load_resN Try.underlying31 rfl z31 rfl (vs := [(Value.int .i64 0), (Value.int .i64 0)]) (Holds.cl_cells H233_ 0 rfl 0 rfl)⟩) ⟨_, rfl, ?_⟩
       refine ⟨⟨Holds.rd H233_ 4 rfl, Holds.rd H233_ 5 rfl, Holds.slrd H233_ 7 rfl, Holds.slrd H233_ 8 rfl, (Holds.ro_at H233_ 6 rfl)⟩, ?_⟩
       have hq236_ := And.intro (Holds.rd H233_ 4 rfl) (And.intro (Holds.rd H233_ 5 rfl) (And.intro (Holds.slrd H233_ 7 rfl) (And.intro (Holds.slrd H233_ 8 rfl) ((Holds.ro_at H233_ 6 rfl)))))
       refine A_tk 7 (v := (Value.agg #[(Value.bool false), (Value.int .i64 0), (Value.int .i64 0), (Value.int .i64 0), (Value.int .i64 0), (Value.int .i64 0), (Value.slice none 0 0), (Value.int .i64 0), (Value.int .i64 0), (Value.slice none 0 0)])) rfl (by kernel_rfl) (fun w hS => by kernel_rfl) hq236_ ?_
       refine A_ready (i := 8) (rs := []) (by kernel_rfl) ?_
       refine AllR.cons ?_ AllR.nil
       refine A_op0 (ls' := #[true, true, true, true, true, true, true, true, true]) rfl (by kernel_rfl) (T_storeN (vs := [(Value.bool false), (Value.int .i64 0), (Value.int .i64 0), (Value.int .i64 0), (Value.int .i64 0), (Value.int .i64 0), (Value.slice none 0 0), (Value.int .i64 0), (Value.int .i64 0), (Value.slice none 0 0)]) rfl rfl z43 rfl (by simp [Value.oneCell']) H233_ 13 rfl (Nat.le_of_ble_eq_true (by rfl)) ?_)
       intro w237_ S239_ H238_
       have S240_ := Same.trans S235_ S239_
       refine ⟨⟨Holds.rd H238_ 4 rfl, Holds.rd H238_ 5 rfl, Holds.slrd H238_ 7 rfl, Holds.slrd H238_ 8 rfl, (Holds.ro_at H238_ 6 rfl)⟩, ?_⟩
       refine A_done (by kernel_rfl) ?_
       refine (X_blkN (X_then (hK27_ _ _ ?_)))
       clear hK27_
       refine C_seq (fun K241_ hK241_ => ?_)
       refine C_reg ?_
       refine S_list (T_val (v := (Value.agg #[(Value.pointer (some ⟨kb, 0, none⟩))])) (x_loadN (vs := [(Value.pointer (some ⟨kb, 0, none⟩))]) rfl Try.underlying55 rfl z55 rfl (Rd.cells (Holds.rd H238_ 16 rfl) 0 rfl)) ?_)
       refine S_list (T_callW (al := [(Value.agg #[(Value.pointer (some ⟨kb, 0, none⟩))])]) rfl rfl cb49 (Calls.into (n := 6) (al := [(Value.agg #[(Value.pointer (some ⟨kb, 0, none⟩))])]) Try.func49 rfl Try.ntmps49 rfl rfl ?_))
       refine C_seq (fun K242_ hK242_ => ?_)
       refine C_reg ?_
       refine S_list (T_box (v := (Value.agg #[(Value.pointer (some ⟨kb, 0, none⟩))])) rfl H238_ ?_)
       intro b243_ w244_ S246_ H245_
       have S247_ := Same.trans S240_ S246_
       refine S_list (T_alloc z61 H245_ ?_)
       intro b248_ w249_ S251_ H250_
       replace H250_ : Holds w249_ (cl b248_ 61 [(Value.int .i64 0), (Value.int .i64 0), (Value.slice none 0 0)] :: cl b243_ 55 [(Value.pointer (some ⟨kb, 0, none⟩))] :: cl b226_ 31 [(Value.int .i64 0), (Value.int .i64 0)] :: cl b221_ 58 [(Value.int .i64 0), (Value.int .i64 0)] :: cl b210_ 31 [(Value.int .i64 0), (Value.int .i64 0)] :: cl b205_ 58 [(Value.int .i64 0), (Value.int .i64 0)] :: cl b189_ 58 [(Value.int .i64 0), (Value.int .i64 0)] :: cl b184_ 58 [(Value.int .i64 0), (Value.int .i64 0)] :: ro R :: sl 106 4 gv (List.length (N0 ++ T)) ((N0 ++ T).flatMap GN.cells) :: sl 58 2 lv (List.length ll) (ll.flatMap RV.cells) :: cl kb 104 [(Value.slice ka kl kc), (Value.int .i64 m), (Value.int .i64 n), gv] :: cl b154_ 58 [(Value.int .i64 0), (Value.int .i64 0)] :: cl b149_ 58 [(Value.int .i64 0), (Value.int .i64 0)] :: cl b144_ 55 [(Value.pointer (some ⟨kb, 0, none⟩))] :: cl b18_ 43 [(Value.bool false), (Value.int .i64 0), (Value.int .i64 0), (Value.int .i64 0), (Value.int .i64 0), (Value.int .i64 0), (Value.slice none 0 0), (Value.int .i64 0), (Value.int .i64 0), (Value.slice none 0 0)] :: cl b12_ 43 [(Value.bool false), (Value.int .i64 0), (Value.int .i64 0), (Value.int .i64 0), (Value.int .i64 0), (Value.int .i64 0), (Value.slice none 0 0), (Value.int .i64 0), (Value.int .i64 0), (Value.slice none 0 0)] :: cl b7_ 39 [(Value.int .i64 o.kind), (Value.int .i64 o.rev_Main), (Value.int .i64 o.rev_Sub), (Value.int .i64 o.created_Main), (Value.int .i64 o.created_Sub), (Value.int .i64 o.ver), (Value.int .i64 o.at_)] :: cl b2_ 55 [(Value.pointer (some ⟨kb, 0, none⟩))] :: F) := H250_
       have S252_ := Same.trans S247_ S251_
       refine wpList_nil ?_
       refine (X_then (hK242_ _ _ ?_))
       clear hK242_
       refine C_seq (fun K253_ hK253_ => ?_)
       refine C_reg ?_
       refine S_list (T_val (v := (Value.pointer (some ⟨b243_, 0, none⟩))) (by kernel_rfl) ?_)
       refine S_list (T_val (v := (Value.pointer (some ⟨kb, 0, none⟩))) (x_load1 rfl Try.underlying53 rfl ((Holds.rd H250_ 1 rfl) 0 (Value.pointer (some ⟨kb, 0, none⟩)) rfl)) ?_)
       have H262_ := ((Holds.bring (Holds.bring (Holds.bring (Holds.bring H250_ 10 rfl) 10 rfl) 11 rfl) 11 rfl) :)
       refine S_list (T_callG (al := [(Value.pointer (some ⟨kb, 0, none⟩))]) (pre := [cl kb 104 [(Value.slice ka kl kc), (Value.int .i64 m), (Value.int .i64 n), gv], sl 106 4 gv (List.length (N0 ++ T)) ((N0 ++ T).flatMap GN.cells), sl 58 2 lv (List.length ll) (ll.flatMap RV.cells)]) rfl rfl cb65 (kZzOut R kb ka kl kc m n gv lv N0 T ll (hT) (hN) (by have := hbd.of.1; omega) (hbd.l (by omega))) H262_ ?_)
       rintro R255_ v256_ p266_ w263_ hs254_ ⟨v257_, N258_, rfl, rfl, he259_, he260_, he261_⟩ S265_ H264_
       have S267_ := Same.trans S252_ S265_
       have hzl_ := map_m_len he259_
       have hza_ := map_m_all he259_ (hbd.l (show _ ≤ 100000 by omega))
       refine S_list0 (T_storeN (vs := [(Value.int .i64 m), (Value.int .i64 n), v257_]) rfl rfl z61 rfl (List.forall_mem_cons.2 ⟨rfl, (List.forall_mem_cons.2 ⟨rfl, (List.forall_mem_cons.2 ⟨(RS.one he260_), (fun _ h__ => by cases h__)⟩)⟩)⟩) H264_ 4 rfl (Nat.le_of_ble_eq_true (by rfl)) ?_)
       intro w268_ S270_ H269_
       replace H269_ : Holds w268_ (ro R255_ :: cl kb 104 [(Value.slice ka kl kc), (Value.int .i64 m), (Value.int .i64 n), gv] :: sl 106 4 gv (List.length (N0 ++ T)) ((N0 ++ T).flatMap GN.cells) :: sl 58 2 lv (List.length ll) (ll.flatMap RV.cells) :: cl b248_ 61 [(Value.int .i64 m), (Value.int .i64 n), v257_] :: cl b243_ 55 [(Value.pointer (some ⟨kb, 0, none⟩))] :: cl b226_ 31 [(Value.int .i64 0), (Value.int .i64 0)] :: cl b221_ 58 [(Value.int .i64 0), (Value.int .i64 0)] :: cl b210_ 31 [(Value.int .i64 0), (Value.int .i64 0)] :: cl b205_ 58 [(Value.int .i64 0), (Value.int .i64 0)] :: cl b189_ 58 [(Value.int .i64 0), (Value.int .i64 0)] :: cl b184_ 58 [(Value.int .i64 0), (Value.int .i64 0)] :: cl b154_ 58 [(Value.int .i64 0), (Value.int .i64 0)] :: cl b149_ 58 [(Value.int .i64 0), (Value.int .i64 0)] :: cl b144_ 55 [(Value.pointer (some ⟨kb, 0, none⟩))] :: cl b18_ 43 [(Value.bool false), (Value.int .i64 0), (Value.int .i64 0), (Value.int .i64 0), (Value.int .i64 0), (Value.int .i64 0), (Value.slice none 0 0), (Value.int .i64 0), (Value.int .i64 0), (Value.slice none 0 0)] :: cl b12_ 43 [(Value.bool false), (Value.int .i64 0), (Value.int .i64 0), (Value.int .i64 0), (Value.int .i64 0), (Value.int .i64 0), (Value.slice none 0 0), (Value.int .i64 0), (Value.int .i64 0), (Value.slice none 0 0)] :: cl b7_ 39 [(Value.int .i64 o.kind), (Value.int .i64 o.rev_Main), (Value.int .i64 o.rev_Sub), (Value.int .i64 o.created_Main), (Value.int .i64 o.created_Sub), (Value.int .i64 o.ver), (Value.int .i64 o.at_)] :: cl b2_ 55 [(Value.pointer (some ⟨kb, 0, none⟩))] :: F) := H269_
       have S271_ := Same.trans S267_ S270_
       refine wpList_nil ?_
       refine (X_then (hK253_ _ _ ?_))
       clear hK253_
       refine C_ret ?_
       refine R_any (v := (Value.agg #[(Value.int .i64 m), (Value.int .i64 n), v257_])) (run_results1 rfl ⟨_, rfl, load_resN Try.underlying61 rfl z61 rfl (vs := [(Value.int .i64 m), (Value.int .i64 n), v257_]) (Holds.cl_cells H269_ 4 rfl 0 rfl)⟩) ⟨_, rfl, ?_⟩
       refine S_list (T_callG (al := [(Value.agg #[(Value.int .i64 m), (Value.int .i64 n), v257_])]) (pre := []) rfl rfl cb48 (kDumpOut R255_ m n v257_ N258_ he260_ (he261_) (by have := hbd.of.1; omega) (hza_)) H269_ ?_)
       rintro R273_ v274_ p283_ w280_ hs272_ ⟨v275_, N276_, rfl, rfl, he277_, he278_, he279_⟩ S282_ H281_
       have S284_ := Same.trans S271_ S282_
       have hz_R_R273_ := Sub.trans' hs254_ hs272_
       refine S_list (T_val (v := (Value.pointer (some ⟨b18_, 7, none⟩))) (by kernel_rfl) ?_)
       refine S_list0 (T_storeN (vs := [(Value.int .i64 m), (Value.int .i64 n), v275_]) rfl rfl z34 rfl (List.forall_mem_cons.2 ⟨rfl, (List.forall_mem_cons.2 ⟨rfl, (List.forall_mem_cons.2 ⟨(RS.one he278_), (fun _ h__ => by cases h__)⟩)⟩)⟩) H281_ 15 rfl (Nat.le_of_ble_eq_true (by rfl)) ?_)
       intro w285_ S287_ H286_
       have S288_ := Same.trans S284_ S287_
       refine wpList_nil ?_
       refine (X_then (hK241_ _ _ ?_))
       clear hK241_
       refine C_seq (fun K289_ hK289_ => ?_)
       refine C_reg ?_
       refine S_list (T_val (v := (Value.agg #[(Value.bool false), (Value.int .i64 0), (Value.int .i64 0), (Value.int .i64 0), (Value.int .i64 0), (Value.int .i64 0), (Value.slice none 0 0), (Value.int .i64 m), (Value.int .i64 n), v275_])) (x_loadN (vs := [(Value.bool false), (Value.int .i64 0), (Value.int .i64 0), (Value.int .i64 0), (Value.int .i64 0), (Value.int .i64 0), (Value.slice none 0 0), (Value.int .i64 m), (Value.int .i64 n), v275_]) rfl Try.underlying43 rfl z43 rfl (Rd.cells (Holds.rd H286_ 15 rfl) 0 rfl)) ?_)
       refine S_list0 (T_storeN (vs := [(Value.bool false), (Value.int .i64 0), (Value.int .i64 0), (Value.int .i64 0), (Value.int .i64 0), (Value.int .i64 0), (Value.slice none 0 0), (Value.int .i64 m), (Value.int .i64 n), v275_]) rfl rfl z43 rfl (List.forall_mem_cons.2 ⟨rfl, (List.forall_mem_cons.2 ⟨rfl, (List.forall_mem_cons.2 ⟨rfl, (List.forall_mem_cons.2 ⟨rfl, (List.forall_mem_cons.2 ⟨rfl, (List.forall_mem_cons.2 ⟨rfl, (List.forall_mem_cons.2 ⟨rfl, (List.forall_mem_cons.2 ⟨rfl, (List.forall_mem_cons.2 ⟨rfl, (List.forall_mem_cons.2 ⟨(RS.one he278_), (fun _ h__ => by cases h__)⟩)⟩)⟩)⟩)⟩)⟩)⟩)⟩)⟩)⟩) H286_ 16 rfl (Nat.le_of_ble_eq_true (by rfl)) ?_)
       intro w290_ S292_ H291_
       replace H291_ : Holds w290_ (ro R273_ :: cl kb 104 [(Value.slice ka kl kc), (Value.int .i64 m), (Value.int .i64 n), gv] :: sl 106 4 gv (List.length (N0 ++ T)) ((N0 ++ T).flatMap GN.cells) :: sl 58 2 lv (List.length ll) (ll.flatMap RV.cells) :: cl b248_ 61 [(Value.int .i64 m), (Value.int .i64 n), v257_] :: cl b243_ 55 [(Value.pointer (some ⟨kb, 0, none⟩))] :: cl b226_ 31 [(Value.int .i64 0), (Value.int .i64 0)] :: cl b221_ 58 [(Value.int .i64 0), (Value.int .i64 0)] :: cl b210_ 31 [(Value.int .i64 0), (Value.int .i64 0)] :: cl b205_ 58 [(Value.int .i64 0), (Value.int .i64 0)] :: cl b189_ 58 [(Value.int .i64 0), (Value.int .i64 0)] :: cl b184_ 58 [(Value.int .i64 0), (Value.int .i64 0)] :: cl b154_ 58 [(Value.int .i64 0), (Value.int .i64 0)] :: cl b149_ 58 [(Value.int .i64 0), (Value.int .i64 0)] :: cl b144_ 55 [(Value.pointer (some ⟨kb, 0, none⟩))] :: cl b18_ 43 [(Value.bool false), (Value.int .i64 0), (Value.int .i64 0), (Value.int .i64 0), (Value.int .i64 0), (Value.int .i64 0), (Value.slice none 0 0), (Value.int .i64 m), (Value.int .i64 n), v275_] :: cl b12_ 43 [(Value.bool false), (Value.int .i64 0), (Value.int .i64 0), (Value.int .i64 0), (Value.int .i64 0), (Value.int .i64 0), (Value.slice none 0 0), (Value.int .i64 m), (Value.int .i64 n), v275_] :: cl b7_ 39 [(Value.int .i64 o.kind), (Value.int .i64 o.rev_Main), (Value.int .i64 o.rev_Sub), (Value.int .i64 o.created_Main), (Value.int .i64 o.created_Sub), (Value.int .i64 o.ver), (Value.int .i64 o.at_)] :: cl b2_ 55 [(Value.pointer (some ⟨kb, 0, none⟩))] :: F) := H291_
       have S293_ := Same.trans S288_ S292_
       refine wpList_nil ?_
       refine (X_then (hK289_ _ _ ?_))
       clear hK289_
       refine C_ret ?_
       refine R_any (v := (Value.agg #[(Value.bool false), (Value.int .i64 0), (Value.int .i64 0), (Value.int .i64 0), (Value.int .i64 0), (Value.int .i64 0), (Value.slice none 0 0), (Value.int .i64 m), (Value.int .i64 n), v275_])) (run_results1 rfl ⟨_, rfl, load_resN Try.underlying43 rfl z43 rfl (vs := [(Value.bool false), (Value.int .i64 0), (Value.int .i64 0), (Value.int .i64 0), (Value.int .i64 0), (Value.int .i64 0), (Value.slice none 0 0), (Value.int .i64 m), (Value.int .i64 n), v275_]) (Holds.cl_cells H291_ 16 rfl 0 rfl)⟩) ?_
       have H294_ := Holds.recl H291_ 1 rfl ((lcons rfl (lcons (congrArg (Value.int .i64) ((by rw [hs_]) : m = s'.1)) (lcons (congrArg (Value.int .i64) ((by rw [hs_]) : n = s'.2.1)) rfl))) : [(Value.slice ka kl kc), (Value.int .i64 m), (Value.int .i64 n), gv] = [(Value.slice ka kl kc), (Value.int .i64 s'.1), (Value.int .i64 s'.2.1), gv])
       have H295_ : Holds w290_ (ro R273_ :: cl kb 104 [(Value.slice ka kl kc), (Value.int .i64 s'.1), (Value.int .i64 s'.2.1), gv] :: sl 106 4 gv (List.length (N0 ++ T)) ((N0 ++ T).flatMap GN.cells) :: sl 58 2 lv (List.length ll) (ll.flatMap RV.cells) :: F) := (Holds.pkF H294_ [0, 0, 0, 0] 15 :)
       exact ⟨R273_, _, _, rfl, hz_R_R273_, ⟨gv, lv, N0, T, ll, false, 0, 0, 0, 0, 0, (Value.slice none 0 0), m, n, v275_, ([] : List RV), N276_, (congrArg (fun l => Value.agg (List.toArray l)) (lcons rfl (lcons rfl (lcons rfl (lcons rfl (lcons rfl (lcons rfl (lcons (rfl : (Value.slice none 0 0) = ((Value.slice none 0 0))) rfl)))))))), rfl, (by rw [hs_]), (hT), (hTN), (fun x hx => (hN x hx).mono hz_R_R273_), (⟨RS.nil _ _, he278_, he279_⟩), (by rw [hs_, ha_, he161_]; show KM.mk _ _ _ _ _ _ _ _ _ _ = _; rw [(he277_.trans he259_)]; rfl)⟩, S293_, H295_⟩
      ·skip
       replace H170_ : Holds w169_ (ro R :: sl 106 4 gv (List.length (N0 ++ T)) ((N0 ++ T).flatMap GN.cells) :: sl 58 2 lv (List.length ll) (ll.flatMap RV.cells) :: cl kb 104 [(Value.slice ka kl kc), (Value.int .i64 m), (Value.int .i64 n), gv] :: cl b154_ 58 [(Value.int .i64 0), (Value.int .i64 0)] :: cl b149_ 58 [(Value.int .i64 0), (Value.int .i64 0)] :: cl b144_ 55 [(Value.pointer (some ⟨kb, 0, none⟩))] :: cl b18_ 43 [(Value.bool false), (Value.int .i64 0), (Value.int .i64 0), (Value.int .i64 0), (Value.int .i64 0), (Value.int .i64 0), (Value.slice none 0 0), (Value.int .i64 0), (Value.int .i64 0), (Value.slice none 0 0)] :: cl b12_ 43 [(Value.bool false), (Value.int .i64 0), (Value.int .i64 0), (Value.int .i64 0), (Value.int .i64 0), (Value.int .i64 0), (Value.slice none 0 0), (Value.int .i64 0), (Value.int .i64 0), (Value.slice none 0 0)] :: cl b7_ 39 [(Value.int .i64 o.kind), (Value.int .i64 o.rev_Main), (Value.int .i64 o.rev_Sub), (Value.int .i64 o.created_Main), (Value.int .i64 o.created_Sub), (Value.int .i64 o.ver), (Value.int .i64 o.at_)] :: cl b2_ 55 [(Value.pointer (some ⟨kb, 0, none⟩))] :: F) := H170_
       have S175_ := Same.trans S158_ S171_
       refine S_list (T_val (v := (Value.agg #[(Value.int .i64 a162_), (Value.int .i64 b163_)])) (by kernel_rfl) ?_)
       refine S_list (T_val (v := (Value.agg #[(Value.int .i64 c164_), (Value.int .i64 d165_)])) (by kernel_rfl) ?_)
       refine S_list (T_val (v := (Value.int .i64 e166_)) (by kernel_rfl) ?_)
       refine S_list (T_val (v := (Value.nilIface)) (by kernel_rfl) ?_)
       refine S_list0 (T_storeN (vs := [(Value.int .i64 a162_), (Value.int .i64 b163_)]) rfl rfl z58 rfl (by simp [Value.oneCell']) H170_ 5 rfl (Nat.le_of_ble_eq_true (by rfl)) ?_)
       intro w296_ S298_ H297_
       have S299_ := Same.trans S175_ S298_
       refine S_list0 (T_storeN (vs := [(Value.int .i64 c164_), (Value.int .i64 d165_)]) rfl rfl z58 rfl (by simp [Value.oneCell']) H297_ 4 rfl (Nat.le_of_ble_eq_true (by rfl)) ?_)
       intro w300_ S302_ H301_
       have S303_ := Same.trans S299_ S302_
       refine S_list (T_val (v := (Value.int .i64 e166_)) (x_assign rfl) ?_)
       refine S_list (T_val (v := (Value.nilIface)) (x_assign rfl) ?_)
       refine wpList_nil ?_
       refine (X_then (hK159_ _ _ ?_))
       clear hK159_
       refine C_ret ?_
       refine R_any (v := (Value.tuple #[(Value.agg #[(Value.int .i64 a162_), (Value.int .i64 b163_)]), (Value.agg #[(Value.int .i64 c164_), (Value.int .i64 d165_)]), (Value.int .i64 e166_), (Value.nilIface)])) (run_results4 rfl ⟨_, rfl, load_resN Try.underlying58 rfl z58 rfl (vs := [(Value.int .i64 a162_), (Value.int .i64 b163_)]) (Holds.cl_cells H301_ 5 rfl 0 rfl)⟩ ⟨_, rfl, load_resN Try.underlying58 rfl z58 rfl (vs := [(Value.int .i64 c164_), (Value.int .i64 d165_)]) (Holds.cl_cells H301_ 4 rfl 0 rfl)⟩ rfl rfl) ⟨_, rfl, ?_⟩
       refine S_list (T_val (v := (Value.tuple #[(Value.agg #[(Value.int .i64 a162_), (Value.int .i64 b163_)]), (Value.agg #[(Value.int .i64 c164_), (Value.int .i64 d165_)]), (Value.int .i64 e166_), (Value.nilIface)])) (x_move rfl) ?_)
       refine S_list (T_val (v := (Value.agg #[(Value.int .i64 a162_), (Value.int .i64 b163_)])) (by kernel_rfl) ?_)
       refine S_list (T_val (v := (Value.agg #[(Value.int .i64 c164_), (Value.int .i64 d165_)])) (by kernel_rfl) ?_)
       refine S_list (T_val (v := (Value.int .i64 e166_)) (by kernel_rfl) ?_)
       refine S_list (T_val (v := (Value.nilIface)) (by kernel_rfl) ?_)
       refine S_list (T_alloc z58 H301_ ?_)
       intro b304_ w305_ S307_ H306_
       replace H306_ : Holds w305_ (cl b304_ 58 [(Value.int .i64 0), (Value.int .i64 0)] :: ro R :: sl 106 4 gv (List.length (N0 ++ T)) ((N0 ++ T).flatMap GN.cells) :: sl 58 2 lv (List.length ll) (ll.flatMap RV.cells) :: cl kb 104 [(Value.slice ka kl kc), (Value.int .i64 m), (Value.int .i64 n), gv] :: cl b154_ 58 [(Value.int .i64 c164_), (Value.int .i64 d165_)] :: cl b149_ 58 [(Value.int .i64 a162_), (Value.int .i64 b163_)] :: cl b144_ 55 [(Value.pointer (some ⟨kb, 0, none⟩))] :: cl b18_ 43 [(Value.bool false), (Value.int .i64 0), (Value.int .i64 0), (Value.int .i64 0), (Value.int .i64 0), (Value.int .i64 0), (Value.slice none 0 0), (Value.int .i64 0), (Value.int .i64 0), (Value.slice none 0 0)] :: cl b12_ 43 [(Value.bool false), (Value.int .i64 0), (Value.int .i64 0), (Value.int .i64 0), (Value.int .i64 0), (Value.int .i64 0), (Value.slice none 0 0), (Value.int .i64 0), (Value.int .i64 0), (Value.slice none 0 0)] :: cl b7_ 39 [(Value.int .i64 o.kind), (Value.int .i64 o.rev_Main), (Value.int .i64 o.rev_Sub), (Value.int .i64 o.created_Main), (Value.int .i64 o.created_Sub), (Value.int .i64 o.ver), (Value.int .i64 o.at_)] :: cl b2_ 55 [(Value.pointer (some ⟨kb, 0, none⟩))] :: F) := H306_
       have S308_ := Same.trans S303_ S307_
       refine S_list (T_alloc z58 H306_ ?_)
       intro b309_ w310_ S312_ H311_
       have S313_ := Same.trans S308_ S312_
       refine S_list0 (T_storeN (vs := [(Value.int .i64 a162_), (Value.int .i64 b163_)]) rfl rfl z58 rfl (by simp [Value.oneCell']) H311_ 1 rfl (Nat.le_of_ble_eq_true (by rfl)) ?_)
       intro w314_ S316_ H315_
       have S317_ := Same.trans S313_ S316_
       refine S_list0 (T_storeN (vs := [(Value.int .i64 c164_), (Value.int .i64 d165_)]) rfl rfl z58 rfl (by simp [Value.oneCell']) H315_ 0 rfl (Nat.le_of_ble_eq_true (by rfl)) ?_)
       intro w318_ S320_ H319_
       replace H319_ : Holds w318_ (cl b309_ 58 [(Value.int .i64 c164_), (Value.int .i64 d165_)] :: cl b304_ 58 [(Value.int .i64 a162_), (Value.int .i64 b163_)] :: ro R :: sl 106 4 gv (List.length (N0 ++ T)) ((N0 ++ T).flatMap GN.cells) :: sl 58 2 lv (List.length ll) (ll.flatMap RV.cells) :: cl kb 104 [(Value.slice ka kl kc), (Value.int .i64 m), (Value.int .i64 n), gv] :: cl b154_ 58 [(Value.int .i64 c164_), (Value.int .i64 d165_)] :: cl b149_ 58 [(Value.int .i64 a162_), (Value.int .i64 b163_)] :: cl b144_ 55 [(Value.pointer (some ⟨kb, 0, none⟩))] :: cl b18_ 43 [(Value.bool false), (Value.int .i64 0), (Value.int .i64 0), (Value.int .i64 0), (Value.int .i64 0), (Value.int .i64 0), (Value.slice none 0 0), (Value.int .i64 0), (Value.int .i64 0), (Value.slice none 0 0)] :: cl b12_ 43 [(Value.bool false), (Value.int .i64 0), (Value.int .i64 0), (Value.int .i64 0), (Value.int .i64 0), (Value.int .i64 0), (Value.slice none 0 0), (Value.int .i64 0), (Value.int .i64 0), (Value.slice none 0 0)] :: cl b7_ 39 [(Value.int .i64 o.kind), (Value.int .i64 o.rev_Main), (Value.int .i64 o.rev_Sub), (Value.int .i64 o.created_Main), (Value.int .i64 o.created_Sub), (Value.int .i64 o.ver), (Value.int .i64 o.at_)] :: cl b2_ 55 [(Value.pointer (some ⟨kb, 0, none⟩))] :: F) := H319_
       have S321_ := Same.trans S317_ S320_
       refine S_list (T_val (v := (Value.int .i64 e166_)) (x_assign rfl) ?_)
       refine S_list (T_val (v := (Value.nilIface)) (x_assign rfl) ?_)
       refine wpList_nil ?_
       refine (X_then (hK142_ _ _ ?_))
       clear hK142_
       refine A_start (S := fun w => Rd b309_ [(Value.int .i64 c164_), (Value.int .i64 d165_)] w ∧ Rd b304_ [(Value.int .i64 a162_), (Value.int .i64 b163_)] w ∧ SlRd gv ((N0 ++ T).flatMap GN.cells) w ∧ SlRd lv (ll.flatMap RV.cells) w ∧ Sub R (hp w)) (N := 9) foll rfl rfl ?_
       have H322_ := Holds.drew_ H319_
       have hq323_ := And.intro (Holds.rd H322_ 0 rfl) (And.intro (Holds.rd H322_ 1 rfl) (And.intro (Holds.slrd H322_ 3 rfl) (And.intro (Holds.slrd H322_ 4 rfl) ((Holds.ro_at H322_ 2 rfl)))))
       refine A_tk 0 (v := (Value.nilIface)) rfl (by kernel_rfl) (fun w hS => x_move rfl) hq323_ ?_
       refine A_tk 1 (v := (Value.bool true)) rfl (by kernel_rfl) (fun w hS => by kernel_rfl) hq323_ ?_
       refine A_tk 2 (v := (Value.agg #[(Value.int .i64 a162_), (Value.int .i64 b163_)])) rfl (by kernel_rfl) (fun w hS => x_loadN (vs := [(Value.int .i64 a162_), (Value.int .i64 b163_)]) rfl Try.underlying58 rfl z58 rfl (Rd.cells hS.2.1 0 rfl)) hq323_ ?_
       refine A_tk 4 (v := (Value.agg #[(Value.int .i64 c164_), (Value.int .i64 d165_)])) rfl (by kernel_rfl) (fun w hS => x_loadN (vs := [(Value.int .i64 c164_), (Value.int .i64 d165_)]) rfl Try.underlying58 rfl z58 rfl (Rd.cells hS.1 0 rfl)) hq323_ ?_
       refine A_tk 6 (v := (Value.int .i64 e166_)) rfl (by kernel_rfl) (fun w hS => x_move rfl) hq323_ ?_
       refine A_ready (i := 3) (rs := []) (by kernel_rfl) ?_
       refine AllR.cons ?_ AllR.nil
       refine A_op (ls' := #[true, true, true, true, true, false, true, false, false]) rfl (by kernel_rfl) (T_callW (al := [(Value.agg #[(Value.int .i64 a162_), (Value.int .i64 b163_)])]) rfl rfl cb41 (Calls.into (n := 8) (al := [(Value.agg #[(Value.int .i64 a162_), (Value.int .i64 b163_)])]) Try.func41 rfl Try.ntmps41 rfl rfl ?_))
       refine C_seq (fun K324_ hK324_ => ?_)
       refine C_reg ?_
       refine S_list (T_box (v := (Value.agg #[(Value.int .i64 a162_), (Value.int .i64 b163_)])) rfl H322_ ?_)
       intro b325_ w326_ S328_ H327_
       have S329_ := Same.trans (Same.trans S321_ (Same.drew _)) S328_
       refine S_list (T_alloc z31 H327_ ?_)
       intro b330_ w331_ S333_ H332_
       have S334_ := Same.trans S329_ S333_
       refine wpList_nil ?_
       refine (X_then (hK324_ _ _ ?_))
       clear hK324_
       refine C_seq (fun K335_ hK335_ => ?_)
       refine C_reg ?_
       refine S_list (T_val (v := (Value.pointer (some ⟨b325_, 0, none⟩))) (by kernel_rfl) ?_)
       refine S_list (T_val (v := (Value.int .i64 a162_)) (x_load1 rfl Try.underlying2 rfl ((Holds.rd H332_ 1 rfl) 0 (Value.int .i64 a162_) rfl)) ?_)
       refine S_list (T_val (v := (Value.pointer (some ⟨b325_, 1, none⟩))) (by kernel_rfl) ?_)
       refine S_list (T_val (v := (Value.int .i64 b163_)) (x_load1 rfl Try.underlying2 rfl ((Holds.rd H332_ 1 rfl) 1 (Value.int .i64 b163_) rfl)) ?_)
       refine S_list (T_val (v := (Value.agg #[(Value.int .i64 a162_), (Value.int .i64 b163_)])) (by kernel_rfl) ?_)
       refine S_list0 (T_storeN (vs := [(Value.int .i64 a162_), (Value.int .i64 b163_)]) rfl rfl z31 rfl (by simp [Value.oneCell']) H332_ 0 rfl (Nat.le_of_ble_eq_true (by rfl)) ?_)
       intro w336_ S338_ H337_
       replace H337_ : Holds w336_ (cl b330_ 31 [(Value.int .i64 a162_), (Value.int .i64 b163_)] :: cl b325_ 58 [(Value.int .i64 a162_), (Value.int .i64 b163_)] :: cl b309_ 58 [(Value.int .i64 c164_), (Value.int .i64 d165_)] :: cl b304_ 58 [(Value.int .i64 a162_), (Value.int .i64 b163_)] :: ro R :: sl 106 4 gv (List.length (N0 ++ T)) ((N0 ++ T).flatMap GN.cells) :: sl 58 2 lv (List.length ll) (ll.flatMap RV.cells) :: cl kb 104 [(Value.slice ka kl kc), (Value.int .i64 m), (Value.int .i64 n), gv] :: cl b154_ 58 [(Value.int .i64 c164_), (Value.int .i64 d165_)] :: cl b149_ 58 [(Value.int .i64 a162_), (Value.int .i64 b163_)] :: cl b144_ 55 [(Value.pointer (some ⟨kb, 0, none⟩))] :: cl b18_ 43 [(Value.bool false), (Value.int .i64 0), (Value.int .i64 0), (Value.int .i64 0), (Value.int .i64 0), (Value.int .i64 0), (Value.slice none 0 0), (Value.int .i64 0), (Value.int .i64 0), (Value.slice none 0 0)] :: cl b12_ 43 [(Value.bool false), (Value.int .i64 0), (Value.int .i64 0), (Value.int .i64 0), (Value.int .i64 0), (Value.int .i64 0), (Value.slice none 0 0), (Value.int .i64 0), (Value.int .i64 0), (Value.slice none 0 0)] :: cl b7_ 39 [(Value.int .i64 o.kind), (Value.int .i64 o.rev_Main), (Value.int .i64 o.rev_Sub), (Value.int .i64 o.created_Main), (Value.int .i64 o.created_Sub), (Value.int .i64 o.ver), (Value.int .i64 o.at_)] :: cl b2_ 55 [(Value.pointer (some ⟨kb, 0, none⟩))] :: F) := H337_
       have S339_ := Same.trans S334_ S338_
       refine wpList_nil ?_
       refine (X_then (hK335_ _ _ ?_))
       clear hK335_
       refine C_ret ?_
       refine R_any (v := (Value.agg #[(Value.int .i64 a162_), (Value.int .i64 b163_)])) (run_results1 rfl ⟨_, rfl, load_resN Try.underlying31 rfl z31 rfl (vs := [(Value.int .i64 a162_), (Value.int .i64 b163_)]) (Holds.cl_cells H337_ 0 rfl 0 rfl)⟩) ⟨_, rfl, ?_⟩
       refine ⟨⟨Holds.rd H337_ 2 rfl, Holds.rd H337_ 3 rfl, Holds.slrd H337_ 5 rfl, Holds.slrd H337_ 6 rfl, (Holds.ro_at H337_ 4 rfl)⟩, ?_⟩
       refine A_ready (i := 5) (rs := []) (by kernel_rfl) ?_
       refine AllR.cons ?_ AllR.nil
       refine A_op (ls' := #[true, true, true, true, true, true, true, false, false]) rfl (by kernel_rfl) (T_callW (al := [(Value.agg #[(Value.int .i64 c164_), (Value.int .i64 d165_)])]) rfl rfl cb41 (Calls.into (n := 8) (al := [(Value.agg #[(Value.int .i64 c164_), (Value.int .i64 d165_)])]) Try.func41 rfl Try.ntmps41 rfl rfl ?_))
       refine C_seq (fun K340_ hK340_ => ?_)
       refine C_reg ?_
       refine S_list (T_box (v := (Value.agg #[(Value.int .i64 c164_), (Value.int .i64 d165_)])) rfl H337_ ?_)
       intro b341_ w342_ S344_ H343_
       have S345_ := Same.trans S339_ S344_
       refine S_list (T_alloc z31 H343_ ?_)
       intro b346_ w347_ S349_ H348_
       have S350_ := Same.trans S345_ S349_
       refine wpList_nil ?_
       refine (X_then (hK340_ _ _ ?_))
       clear hK340_
       refine C_seq (fun K351_ hK351_ => ?_)
       refine C_reg ?_
       refine S_list (T_val (v := (Value.pointer (some ⟨b341_, 0, none⟩))) (by kernel_rfl) ?_)
       refine S_list (T_val (v := (Value.int .i64 c164_)) (x_load1 rfl Try.underlying2 rfl ((Holds.rd H348_ 1 rfl) 0 (Value.int .i64 c164_) rfl)) ?_)
       refine S_list (T_val (v := (Value.pointer (some ⟨b341_, 1, none⟩))) (by kernel_rfl) ?_)
       refine S_list (T_val (v := (Value.int .i64 d165_)) (x_load1 rfl Try.underlying2 rfl ((Holds.rd H348_ 1 rfl) 1 (Value.int .i64 d165_) rfl)) ?_)
       refine S_list (T_val (v := (Value.agg #[(Value.int .i64 c164_), (Value.int .i64 d165_)])) (by kernel_rfl) ?_)
       refine S_list0 (T_storeN (vs := [(Value.int .i64 c164_), (Value.int .i64 d165_)]) rfl rfl z31 rfl (by simp [Value.oneCell']) H348_ 0 rfl (Nat.le_of_ble_eq_true (by rfl)) ?_)
       intro w352_ S354_ H353_
       replace H353_ : Holds w352_ (cl b346_ 31 [(Value.int .i64 c164_), (Value.int .i64 d165_)] :: cl b341_ 58 [(Value.int .i64 c164_), (Value.int .i64 d165_)] :: cl b330_ 31 [(Value.int .i64 a162_), (Value.int .i64 b163_)] :: cl b325_ 58 [(Value.int .i64 a162_), (Value.int .i64 b163_)] :: cl b309_ 58 [(Value.int .i64 c164_), (Value.int .i64 d165_)] :: cl b304_ 58 [(Value.int .i64 a162_), (Value.int .i64 b163_)] :: ro R :: sl 106 4 gv (List.length (N0 ++ T)) ((N0 ++ T).flatMap GN.cells) :: sl 58 2 lv (List.length ll) (ll.flatMap RV.cells) :: cl kb 104 [(Value.slice ka kl kc), (Value.int .i64 m), (Value.int .i64 n), gv] :: cl b154_ 58 [(Value.int .i64 c164_), (Value.int .i64 d165_)] :: cl b149_ 58 [(Value.int .i64 a162_), (Value.int .i64 b163_)] :: cl b144_ 55 [(Value.pointer (some ⟨kb, 0, none⟩))] :: cl b18_ 43 [(Value.bool false), (Value.int .i64 0), (Value.int .i64 0), (Value.int .i64 0), (Value.int .i64 0), (Value.int .i64 0), (Value.slice none 0 0), (Value.int .i64 0), (Value.int .i64 0), (Value.slice none 0 0)] :: cl b12_ 43 [(Value.bool false), (Value.int .i64 0), (Value.int .i64 0), (Value.int .i64 0), (Value.int .i64 0), (Value.int .i64 0), (Value.slice none 0 0), (Value.int .i64 0), (Value.int .i64 0), (Value.slice none 0 0)] :: cl b7_ 39 [(Value.int .i64 o.kind), (Value.int .i64 o.rev_Main), (Value.int .i64 o.rev_Sub), (Value.int .i64 o.created_Main), (Value.int .i64 o.created_Sub), (Value.int .i64 o.ver), (Value.int .i64 o.at_)] :: cl b2_ 55 [(Value.pointer (some ⟨kb, 0, none⟩))] :: F) := H353_
       have S355_ := Same.trans S350_ S354_
       refine wpList_nil ?_
       refine (X_then (hK351_ _ _ ?_))
       clear hK351_
       refine C_ret ?_
       refine R_any (v := (Value.agg #[(Value.int .i64 c164_), (Value.int .i64 d165_)])) (run_results1 rfl ⟨_, rfl, load_resN Try.underlying31 rfl z31 rfl (vs := [(Value.int .i64 c164_), (Value.int .i64 d165_)]) (Holds.cl_cells H353_ 0 rfl 0 rfl)⟩) ⟨_, rfl, ?_⟩
       refine ⟨⟨Holds.rd H353_ 4 rfl, Holds.rd H353_ 5 rfl, Holds.slrd H353_ 7 rfl, Holds.slrd H353_ 8 rfl, (Holds.ro_at H353_ 6 rfl)⟩, ?_⟩
       have hq356_ := And.intro (Holds.rd H353_ 4 rfl) (And.intro (Holds.rd H353_ 5 rfl) (And.intro (Holds.slrd H353_ 7 rfl) (And.intro (Holds.slrd H353_ 8 rfl) ((Holds.ro_at H353_ 6 rfl)))))
       refine A_tk 7 (v := (Value.agg #[(Value.bool true), (Value.int .i64 a162_), (Value.int .i64 b163_), (Value.int .i64 c164_), (Value.int .i64 d165_), (Value.int .i64 e166_), (Value.slice none 0 0), (Value.int .i64 0), (Value.int .i64 0), (Value.slice none 0 0)])) rfl (by kernel_rfl) (fun w hS => by kernel_rfl) hq356_ ?_
       refine A_ready (i := 8) (rs := []) (by kernel_rfl) ?_
       refine AllR.cons ?_ AllR.nil
       refine A_op0 (ls' := #[true, true, true, true, true, true, true, true, true]) rfl (by kernel_rfl) (T_storeN (vs := [(Value.bool true), (Value.int .i64 a162_), (Value.int .i64 b163_), (Value.int .i64 c164_), (Value.int .i64 d165_), (Value.int .i64 e166_), (Value.slice none 0 0), (Value.int .i64 0), (Value.int .i64 0), (Value.slice none 0 0)]) rfl rfl z43 rfl (by simp [Value.oneCell']) H353_ 13 rfl (Nat.le_of_ble_eq_true (by rfl)) ?_)
       intro w357_ S359_ H358_
       have S360_ := Same.trans S355_ S359_
       refine ⟨⟨Holds.rd H358_ 4 rfl, Holds.rd H358_ 5 rfl, Holds.slrd H358_ 7 rfl, Holds.slrd H358_ 8 rfl, (Holds.ro_at H358_ 6 rfl)⟩, ?_⟩
       refine A_done (by kernel_rfl) ?_
       refine (X_blkN (X_then (hK27_ _ _ ?_)))
       clear hK27_
       refine C_seq (fun K361_ hK361_ => ?_)
       refine C_reg ?_
       refine S_list (T_val (v := (Value.agg #[(Value.pointer (some ⟨kb, 0, none⟩))])) (x_loadN (vs := [(Value.pointer (some ⟨kb, 0, none⟩))]) rfl Try.underlying55 rfl z55 rfl (Rd.cells (Holds.rd H358_ 16 rfl) 0 rfl)) ?_)
       refine S_list (T_callW (al := [(Value.agg #[(Value.pointer (some ⟨kb, 0, none⟩))])]) rfl rfl cb49 (Calls.into (n := 6) (al := [(Value.agg #[(Value.pointer (some ⟨kb, 0, none⟩))])]) Try.func49 rfl Try.ntmps49 rfl rfl ?_))
       refine C_seq (fun K362_ hK362_ => ?_)
       refine C_reg ?_
       refine S_list (T_box (v := (Value.agg #[(Value.pointer (some ⟨kb, 0, none⟩))])) rfl H358_ ?_)
       intro b363_ w364_ S366_ H365_
       have S367_ := Same.trans S360_ S366_
       refine S_list (T_alloc z61 H365_ ?_)
       intro b368_ w369_ S371_ H370_
       replace H370_ : Holds w369_ (cl b368_ 61 [(Value.int .i64 0), (Value.int .i64 0), (Value.slice none 0 0)] :: cl b363_ 55 [(Value.pointer (some ⟨kb, 0, none⟩))] :: cl b346_ 31 [(Value.int .i64 c164_), (Value.int .i64 d165_)] :: cl b341_ 58 [(Value.int .i64 c164_), (Value.int .i64 d165_)] :: cl b330_ 31 [(Value.int .i64 a162_), (Value.int .i64 b163_)] :: cl b325_ 58 [(Value.int .i64 a162_), (Value.int .i64 b163_)] :: cl b309_ 58 [(Value.int .i64 c164_), (Value.int .i64 d165_)] :: cl b304_ 58 [(Value.int .i64 a162_), (Value.int .i64 b163_)] :: ro R :: sl 106 4 gv (List.length (N0 ++ T)) ((N0 ++ T).flatMap GN.cells) :: sl 58 2 lv (List.length ll) (ll.flatMap RV.cells) :: cl kb 104 [(Value.slice ka kl kc), (Value.int .i64 m), (Value.int .i64 n), gv] :: cl b154_ 58 [(Value.int .i64 c164_), (Value.int .i64 d165_)] :: cl b149_ 58 [(Value.int .i64 a162_), (Value.int .i64 b163_)] :: cl b144_ 55 [(Value.pointer (some ⟨kb, 0, none⟩))] :: cl b18_ 43 [(Value.bool true), (Value.int .i64 a162_), (Value.int .i64 b163_), (Value.int .i64 c164_), (Value.int .i64 d165_), (Value.int .i64 e166_), (Value.slice none 0 0), (Value.int .i64 0), (Value.int .i64 0), (Value.slice none 0 0)] :: cl b12_ 43 [(Value.bool false), (Value.int .i64 0), (Value.int .i64 0), (Value.int .i64 0), (Value.int .i64 0), (Value.int .i64 0), (Value.slice none 0 0), (Value.int .i64 0), (Value.int .i64 0), (Value.slice none 0 0)] :: cl b7_ 39 [(Value.int .i64 o.kind), (Value.int .i64 o.rev_Main), (Value.int .i64 o.rev_Sub), (Value.int .i64 o.created_Main), (Value.int .i64 o.created_Sub), (Value.int .i64 o.ver), (Value.int .i64 o.at_)] :: cl b2_ 55 [(Value.pointer (some ⟨kb, 0, none⟩))] :: F) := H370_
       have S372_ := Same.trans S367_ S371_
       refine wpList_nil ?_
       refine (X_then (hK362_ _ _ ?_))
       clear hK362_
       refine C_seq (fun K373_ hK373_ => ?_)
       refine C_reg ?_
       refine S_list (T_val (v := (Value.pointer (some ⟨b363_, 0, none⟩))) (by kernel_rfl) ?_)
       refine S_list (T_val (v := (Value.pointer (some ⟨kb, 0, none⟩))) (x_load1 rfl Try.underlying53 rfl ((Holds.rd H370_ 1 rfl) 0 (Value.pointer (some ⟨kb, 0, none⟩)) rfl)) ?_)
       have H382_ := ((Holds.bring (Holds.bring (Holds.bring (Holds.bring H370_ 10 rfl) 10 rfl) 11 rfl) 11 rfl) :)
       refine S_list (T_callG (al := [(Value.pointer (some ⟨kb, 0, none⟩))]) (pre := [cl kb 104 [(Value.slice ka kl kc), (Value.int .i64 m), (Value.int .i64 n), gv], sl 106 4 gv (List.length (N0 ++ T)) ((N0 ++ T).flatMap GN.cells), sl 58 2 lv (List.length ll) (ll.flatMap RV.cells)]) rfl rfl cb65 (kZzOut R kb ka kl kc m n gv lv N0 T ll (hT) (hN) (by have := hbd.of.1; omega) (hbd.l (by omega))) H382_ ?_)
       rintro R375_ v376_ p386_ w383_ hs374_ ⟨v377_, N378_, rfl, rfl, he379_, he380_, he381_⟩ S385_ H384_
       have S387_ := Same.trans S372_ S385_
       have hzl_ := map_m_len he379_
       have hza_ := map_m_all he379_ (hbd.l (show _ ≤ 100000 by omega))
       refine S_list0 (T_storeN (vs := [(Value.int .i64 m), (Value.int .i64 n), v377_]) rfl rfl z61 rfl (List.forall_mem_cons.2 ⟨rfl, (List.forall_mem_cons.2 ⟨rfl, (List.forall_mem_cons.2 ⟨(RS.one he380_), (fun _ h__ => by cases h__)⟩)⟩)⟩) H384_ 4 rfl (Nat.le_of_ble_eq_true (by rfl)) ?_)
       intro w388_ S390_ H389_
       replace H389_ : Holds w388_ (ro R375_ :: cl kb 104 [(Value.slice ka kl kc), (Value.int .i64 m), (Value.int .i64 n), gv] :: sl 106 4 gv (List.length (N0 ++ T)) ((N0 ++ T).flatMap GN.cells) :: sl 58 2 lv (List.length ll) (ll.flatMap RV.cells) :: cl b368_ 61 [(Value.int .i64 m), (Value.int .i64 n), v377_] :: cl b363_ 55 [(Value.pointer (some ⟨kb, 0, none⟩))] :: cl b346_ 31 [(Value.int .i64 c164_), (Value.int .i64 d165_)] :: cl b341_ 58 [(Value.int .i64 c164_), (Value.int .i64 d165_)] :: cl b330_ 31 [(Value.int .i64 a162_), (Value.int .i64 b163_)] :: cl b325_ 58 [(Value.int .i64 a162_), (Value.int .i64 b163_)] :: cl b309_ 58 [(Value.int .i64 c164_), (Value.int .i64 d165_)] :: cl b304_ 58 [(Value.int .i64 a162_), (Value.int .i64 b163_)] :: cl b154_ 58 [(Value.int .i64 c164_), (Value.int .i64 d165_)] :: cl b149_ 58 [(Value.int .i64 a162_), (Value.int .i64 b163_)] :: cl b144_ 55 [(Value.pointer (some ⟨kb, 0, none⟩))] :: cl b18_ 43 [(Value.bool true), (Value.int .i64 a162_), (Value.int .i64 b163_), (Value.int .i64 c164_), (Value.int .i64 d165_), (Value.int .i64 e166_), (Value.slice none 0 0), (Value.int .i64 0), (Value.int .i64 0), (Value.slice none 0 0)] :: cl b12_ 43 [(Value.bool false), (Value.int .i64 0), (Value.int .i64 0), (Value.int .i64 0), (Value.int .i64 0), (Value.int .i64 0), (Value.slice none 0 0), (Value.int .i64 0), (Value.int .i64 0), (Value.slice none 0 0)] :: cl b7_ 39 [(Value.int .i64 o.kind), (Value.int .i64 o.rev_Main), (Value.int .i64 o.rev_Sub), (Value.int .i64 o.created_Main), (Value.int .i64 o.created_Sub), (Value.int .i64 o.ver), (Value.int .i64 o.at_)] :: cl b2_ 55 [(Value.pointer (some ⟨kb, 0, none⟩))] :: F) := H389_
       have S391_ := Same.trans S387_ S390_
       refine wpList_nil ?_
       refine (X_then (hK373_ _ _ ?_))
       clear hK373_
       refine C_ret ?_
       refine R_any (v := (Value.agg #[(Value.int .i64 m), (Value.int .i64 n), v377_])) (run_results1 rfl ⟨_, rfl, load_resN Try.underlying61 rfl z61 rfl (vs := [(Value.int .i64 m), (Value.int .i64 n), v377_]) (Holds.cl_cells H389_ 4 rfl 0 rfl)⟩) ⟨_, rfl, ?_⟩
       refine S_list (T_callG (al := [(Value.agg #[(Value.int .i64 m), (Value.int .i64 n), v377_])]) (pre := []) rfl rfl cb48 (kDumpOut R375_ m n v377_ N378_ he380_ (he381_) (by have := hbd.of.1; omega) (hza_)) H389_ ?_)
       rintro R393_ v394_ p403_ w400_ hs392_ ⟨v395_, N396_, rfl, rfl, he397_, he398_, he399_⟩ S402_ H401_
       have S404_ := Same.trans S391_ S402_
       have hz_R_R393_ := Sub.trans' hs374_ hs392_
       refine S_list (T_val (v := (Value.pointer (some ⟨b18_, 7, none⟩))) (by kernel_rfl) ?_)
       refine S_list0 (T_storeN (vs := [(Value.int .i64 m), (Value.int .i64 n), v395_]) rfl rfl z34 rfl (List.forall_mem_cons.2 ⟨rfl, (List.forall_mem_cons.2 ⟨rfl, (List.forall_mem_cons.2 ⟨(RS.one he398_), (fun _ h__ => by cases h__)⟩)⟩)⟩) H401_ 15 rfl (Nat.le_of_ble_eq_true (by rfl)) ?_)
       intro w405_ S407_ H406_
       have S408_ := Same.trans S404_ S407_
       refine wpList_nil ?_
       refine (X_then (hK361_ _ _ ?_))
       clear hK361_
       refine C_seq (fun K409_ hK409_ => ?_)
       refine C_reg ?_
       refine S_list (T_val (v := (Value.agg #[(Value.bool true), (Value.int .i64 a162_), (Value.int .i64 b163_), (Value.int .i64 c164_), (Value.int .i64 d165_), (Value.int .i64 e166_), (Value.slice none 0 0), (Value.int .i64 m), (Value.int .i64 n), v395_])) (x_loadN (vs := [(Value.bool true), (Value.int .i64 a162_), (Value.int .i64 b163_), (Value.int .i64 c164_), (Value.int .i64 d165_), (Value.int .i64 e166_), (Value.slice none 0 0), (Value.int .i64 m), (Value.int .i64 n), v395_]) rfl Try.underlying43 rfl z43 rfl (Rd.cells (Holds.rd H406_ 15 rfl) 0 rfl)) ?_)
       refine S_list0 (T_storeN (vs := [(Value.bool true), (Value.int .i64 a162_), (Value.int .i64 b163_), (Value.int .i64 c164_), (Value.int .i64 d165_), (Value.int .i64 e166_), (Value.slice none 0 0), (Value.int .i64 m), (Value.int .i64 n), v395_]) rfl rfl z43 rfl (List.forall_mem_cons.2 ⟨rfl, (List.forall_mem_cons.2 ⟨rfl, (List.forall_mem_cons.2 ⟨rfl, (List.forall_mem_cons.2 ⟨rfl, (List.forall_mem_cons.2 ⟨rfl, (List.forall_mem_cons.2 ⟨rfl, (List.forall_mem_cons.2 ⟨rfl, (List.forall_mem_cons.2 ⟨rfl, (List.forall_mem_cons.2 ⟨rfl, (List.forall_mem_cons.2 ⟨(RS.one he398_), (fun _ h__ => by cases h__)⟩)⟩)⟩)⟩)⟩)⟩)⟩)⟩)⟩)⟩) H406_ 16 rfl (Nat.le_of_ble_eq_true (by rfl)) ?_)
       intro w410_ S412_ H411_
       replace H411_ : Holds w410_ (ro R393_ :: cl kb 104 [(Value.slice ka kl kc), (Value.int .i64 m), (Value.int .i64 n), gv] :: sl 106 4 gv (List.length (N0 ++ T)) ((N0 ++ T).flatMap GN.cells) :: sl 58 2 lv (List.length ll) (ll.flatMap RV.cells) :: cl b368_ 61 [(Value.int .i64 m), (Value.int .i64 n), v377_] :: cl b363_ 55 [(Value.pointer (some ⟨kb, 0, none⟩))] :: cl b346_ 31 [(Value.int .i64 c164_), (Value.int .i64 d165_)] :: cl b341_ 58 [(Value.int .i64 c164_), (Value.int .i64 d165_)] :: cl b330_ 31 [(Value.int .i64 a162_), (Value.int .i64 b163_)] :: cl b325_ 58 [(Value.int .i64 a162_), (Value.int .i64 b163_)] :: cl b309_ 58 [(Value.int .i64 c164_), (Value.int .i64 d165_)] :: cl b304_ 58 [(Value.int .i64 a162_), (Value.int .i64 b163_)] :: cl b154_ 58 [(Value.int .i64 c164_), (Value.int .i64 d165_)] :: cl b149_ 58 [(Value.int .i64 a162_), (Value.int .i64 b163_)] :: cl b144_ 55 [(Value.pointer (some ⟨kb, 0, none⟩))] :: cl b18_ 43 [(Value.bool true), (Value.int .i64 a162_), (Value.int .i64 b163_), (Value.int .i64 c164_), (Value.int .i64 d165_), (Value.int .i64 e166_), (Value.slice none 0 0), (Value.int .i64 m), (Value.int .i64 n), v395_] :: cl b12_ 43 [(Value.bool true), (Value.int .i64 a162_), (Value.int .i64 b163_), (Value.int .i64 c164_), (Value.int .i64 d165_), (Value.int .i64 e166_), (Value.slice none 0 0), (Value.int .i64 m), (Value.int .i64 n), v395_] :: cl b7_ 39 [(Value.int .i64 o.kind), (Value.int .i64 o.rev_Main), (Value.int .i64 o.rev_Sub), (Value.int .i64 o.created_Main), (Value.int .i64 o.created_Sub), (Value.int .i64 o.ver), (Value.int .i64 o.at_)] :: cl b2_ 55 [(Value.pointer (some ⟨kb, 0, none⟩))] :: F) := H411_
       have S413_ := Same.trans S408_ S412_
       refine wpList_nil ?_
       refine (X_then (hK409_ _ _ ?_))
       clear hK409_
       refine C_ret ?_
       refine R_any (v := (Value.agg #[(Value.bool true), (Value.int .i64 a162_), (Value.int .i64 b163_), (Value.int .i64 c164_), (Value.int .i64 d165_), (Value.int .i64 e166_), (Value.slice none 0 0), (Value.int .i64 m), (Value.int .i64 n), v395_])) (run_results1 rfl ⟨_, rfl, load_resN Try.underlying43 rfl z43 rfl (vs := [(Value.bool true), (Value.int .i64 a162_), (Value.int .i64 b163_), (Value.int .i64 c164_), (Value.int .i64 d165_), (Value.int .i64 e166_), (Value.slice none 0 0), (Value.int .i64 m), (Value.int .i64 n), v395_]) (Holds.cl_cells H411_ 16 rfl 0 rfl)⟩) ?_
       have H414_ := Holds.recl H411_ 1 rfl ((lcons rfl (lcons (congrArg (Value.int .i64) ((by rw [hs_]) : m = s'.1)) (lcons (congrArg (Value.int .i64) ((by rw [hs_]) : n = s'.2.1)) rfl))) : [(Value.slice ka kl kc), (Value.int .i64 m), (Value.int .i64 n), gv] = [(Value.slice ka kl kc), (Value.int .i64 s'.1), (Value.int .i64 s'.2.1), gv])
       have H415_ : Holds w410_ (ro R393_ :: cl kb 104 [(Value.slice ka kl kc), (Value.int .i64 s'.1), (Value.int .i64 s'.2.1), gv] :: sl 106 4 gv (List.length (N0 ++ T)) ((N0 ++ T).flatMap GN.cells) :: sl 58 2 lv (List.length ll) (ll.flatMap RV.cells) :: F) := (Holds.pkF H414_ [0, 0, 0, 0] 15 :)
       exact ⟨R393_, _, _, rfl, hz_R_R393_, ⟨gv, lv, N0, T, ll, true, a162_, b163_, c164_, d165_, e166_, (Value.slice none 0 0), m, n, v395_, ([] : List RV), N396_, (congrArg (fun l => Value.agg (List.toArray l)) (lcons rfl (lcons rfl (lcons rfl (lcons rfl (lcons rfl (lcons rfl (lcons (rfl : (Value.slice none 0 0) = ((Value.slice none 0 0))) rfl)))))))), rfl, (by rw [hs_]), (hT), (hTN), (fun x hx => (hN x hx).mono hz_R_R393_), (⟨RS.nil _ _, he398_, he399_⟩), (by rw [hs_, ha_, he167_]; show KM.mk _ _ _ _ _ _ _ _ _ _ = _; rw [(he397_.trans he379_)]; rfl)⟩, S413_, H415_⟩
     ·have c141_fp : ¬ (o.kind = 5) := of_decide_eq_false c141_f
      refine C_seq (fun K416_ hK416_ => ?_)
      refine C_reg ?_
      refine S_list (T_val (v := (Value.bool (decide (o.kind = 6)))) (x_bin rfl rfl rfl) ?_)
      refine S_list (T_val (v := (Value.bool (decide (o.kind = 6)))) (x_assign rfl) ?_)
      refine wpList_nil ?_
      refine (X_then (hK416_ _ _ ?_))
      clear hK416_
      refine C_cond (b := decide (o.kind = 6)) rfl (fun c417_t => ?_) (fun c417_f => ?_)
      ·have c417_tp : o.kind = 6 := of_decide_eq_true c417_t
       obtain ⟨⟨hem_, hne_, hgp_⟩, hs_, ha_⟩ := iDo_since c417_tp hdo
       have hbo_ := hbd.of
       have hlen_ : 0 < (N0 ++ T).length := by rw [← List.length_map (f := GN.m)]; exact List.length_pos_iff.2 hne_
       refine C_reg ?_
       refine S_list (T_val (v := (Value.agg #[(Value.pointer (some ⟨kb, 0, none⟩))])) (x_loadN (vs := [(Value.pointer (some ⟨kb, 0, none⟩))]) rfl Try.underlying55 rfl z55 rfl (Rd.cells (Holds.rd H24_ 3 rfl) 0 rfl)) ?_)
       refine S_list (T_val (v := (Value.pointer (some ⟨b7_, 6, none⟩))) (by kernel_rfl) ?_)
       refine S_list (T_val (v := (Value.int .i64 o.at_)) (x_load1 rfl Try.underlying2 rfl ((Holds.rd H24_ 2 rfl) 6 (Value.int .i64 o.at_) rfl)) ?_)
       refine S_list (T_callW (al := [(Value.agg #[(Value.pointer (some ⟨kb, 0, none⟩))]), (Value.int .i64 o.at_)]) rfl rfl cb43 (Calls.into (n := 9) (al := [(Value.agg #[(Value.pointer (some ⟨kb, 0, none⟩))]), (Value.int .i64 o.at_)]) Try.func43 rfl Try.ntmps43 rfl rfl ?_))
       refine C_seq (fun K418_ hK418_ => ?_)
       refine C_reg ?_
       refine S_list (T_box (v := (Value.agg #[(Value.pointer (some ⟨kb, 0, none⟩))])) rfl H24_ ?_)
       intro b419_ w420_ S422_ H421_
       have S423_ := Same.trans S26_ S422_
       refine S_list (T_val (v := (Value.slice none 0 0)) (x_assign rfl) ?_)
       refine wpList_nil ?_
       refine (X_then (hK418_ _ _ ?_))
       clear hK418_
       refine C_seq (fun K424_ hK424_ => ?_)
       refine C_reg ?_
       refine S_list (T_val (v := (Value.pointer (some ⟨b419_, 0, none⟩))) (by kernel_rfl) ?_)
       refine S_list (T_val (v := (Value.pointer (some ⟨kb, 0, none⟩))) (x_load1 rfl Try.underlying53 rfl ((Holds.rd H421_ 0 rfl) 0 (Value.pointer (some ⟨kb, 0, none⟩)) rfl)) ?_)
       refine S_list (T_val (v := (Value.int .i64 o.at_)) (x_move rfl) ?_)
       have H426_ := ((Holds.bring (Holds.bring (Holds.bring (Holds.bring H421_ 6 rfl) 8 rfl) 8 rfl) 8 rfl) :)
       refine S_list (T_call (al := [(Value.pointer (some ⟨kb, 0, none⟩)), (Value.pointer none), (Value.int .i64 o.at_)]) (pre := [sl 106 4 gv (List.length (N0 ++ T)) ((N0 ++ T).flatMap GN.cells), sl 58 2 lv (List.length ll) (ll.flatMap RV.cells), cl kb 104 [(Value.slice ka kl kc), (Value.int .i64 m), (Value.int .i64 n), gv]]) rfl rfl cb59 (kSinceW R kb ka kl kc m n gv lv N0 T ll o.at_ (by first | assumption | omega) (by first | assumption | omega) (by omega) (hbd.l (by omega)) (iEmp_ne hem_) (hlen_) (gPos_N hgp_)) H426_ ?_)
       rintro v425_ p430_ w427_ ⟨_, rfl, rfl⟩ S429_ H428_
       replace H428_ : Holds w427_ (ro R :: sl 106 4 gv (List.length (N0 ++ T)) ((N0 ++ T).flatMap GN.cells) :: sl 58 2 lv (List.length ll) (ll.flatMap RV.cells) :: sl 58 2 v425_ (List.length (iSince ((N0 ++ T).map GN.m) o.at_)) ((iSince ((N0 ++ T).map GN.m) o.at_).flatMap RV.cells) :: cl kb 104 [(Value.slice ka kl kc), (Value.int .i64 m), (Value.int .i64 n), gv] :: cl b419_ 55 [(Value.pointer (some ⟨kb, 0, none⟩))] :: cl b18_ 43 [(Value.bool false), (Value.int .i64 0), (Value.int .i64 0), (Value.int .i64 0), (Value.int .i64 0), (Value.int .i64 0), (Value.slice none 0 0), (Value.int .i64 0), (Value.int .i64 0), (Value.slice none 0 0)] :: cl b12_ 43 [(Value.bool false), (Value.int .i64 0), (Value.int .i64 0), (Value.int .i64 0), (Value.int .i64 0), (Value.int .i64 0), (Value.slice none 0 0), (Value.int .i64 0), (Value.int .i64 0), (Value.slice none 0 0)] :: cl b7_ 39 [(Value.int .i64 o.kind), (Value.int .i64 o.rev_Main), (Value.int .i64 o.rev_Sub), (Value.int .i64 o.created_Main), (Value.int .i64 o.created_Sub), (Value.int .i64 o.ver), (Value.int .i64 o.at_)] :: cl b2_ 55 [(Value.pointer (some ⟨kb, 0, none⟩))] :: F) := H428_
       have S431_ := Same.trans S423_ S429_
       have hsl_ : (iSince ((N0 ++ T).map GN.m) o.at_).length ≤ 4000000000000 := iSince_bd hbd (by omega)
       refine S_list (T_val (v := v425_) (x_assign rfl) ?_)
       refine wpList_nil ?_
       refine (X_then (hK424_ _ _ ?_))
       clear hK424_
       refine C_ret ?_
       refine R_any (v := v425_) (run_results1 rfl rfl) ⟨_, rfl, ?_⟩
       have H432_ := ((Holds.bring (Holds.bring H428_ 3 rfl) 1 rfl) :)
       obtain ⟨R433_, hs434_, ⟨R435_, ha436_, hs437_⟩, H438_⟩ := Holds.gift H432_
       have hr439_ : RS R433_ 2 v425_ (List.length (iSince ((N0 ++ T).map GN.m) o.at_)) ((iSince ((N0 ++ T).map GN.m) o.at_).flatMap RV.cells) := (sl_RS ha436_ (Sub.rfl' _)).mono hs437_
       refine S_list (T_call (al := [v425_]) (pre := []) rfl rfl cb42 (kRevsOut R433_ v425_ (iSince ((N0 ++ T).map GN.m) o.at_) hr439_ (by first | assumption | omega)) H438_ ?_)
       rintro v440_ p444_ w441_ ⟨_, rfl, rfl⟩ S443_ H442_
       replace H442_ : Holds w441_ (ro R433_ :: sl 31 2 v440_ (List.length (iSince ((N0 ++ T).map GN.m) o.at_)) ((iSince ((N0 ++ T).map GN.m) o.at_).flatMap RV.cells) :: sl 106 4 gv (List.length (N0 ++ T)) ((N0 ++ T).flatMap GN.cells) :: sl 58 2 lv (List.length ll) (ll.flatMap RV.cells) :: cl kb 104 [(Value.slice ka kl kc), (Value.int .i64 m), (Value.int .i64 n), gv] :: cl b419_ 55 [(Value.pointer (some ⟨kb, 0, none⟩))] :: cl b18_ 43 [(Value.bool false), (Value.int .i64 0), (Value.int .i64 0), (Value.int .i64 0), (Value.int .i64 0), (Value.int .i64 0), (Value.slice none 0 0), (Value.int .i64 0), (Value.int .i64 0), (Value.slice none 0 0)] :: cl b12_ 43 [(Value.bool false), (Value.int .i64 0), (Value.int .i64 0), (Value.int .i64 0), (Value.int .i64 0), (Value.int .i64 0), (Value.slice none 0 0), (Value.int .i64 0), (Value.int .i64 0), (Value.slice none 0 0)] :: cl b7_ 39 [(Value.int .i64 o.kind), (Value.int .i64 o.rev_Main), (Value.int .i64 o.rev_Sub), (Value.int .i64 o.created_Main), (Value.int .i64 o.created_Sub), (Value.int .i64 o.ver), (Value.int .i64 o.at_)] :: cl b2_ 55 [(Value.pointer (some ⟨kb, 0, none⟩))] :: F) := H442_
       have S445_ := Same.trans S431_ S443_
       refine S_list (T_val (v := (Value.pointer (some ⟨b18_, 6, none⟩))) (by kernel_rfl) ?_)
       refine S_list0 (T_store1 (v := v440_) rfl rfl z41 (Holds.sl_one H442_ 1 rfl) H442_ 6 rfl (Nat.le_of_ble_eq_true (by rfl)) ?_)
       intro w446_ S448_ H447_
       have S449_ := Same.trans S445_ S448_
       refine wpList_nil ?_
       refine (X_blkN (X_then (hK27_ _ _ ?_)))
       clear hK27_
       refine C_seq (fun K450_ hK450_ => ?_)
       refine C_reg ?_
       refine S_list (T_val (v := (Value.agg #[(Value.pointer (some ⟨kb, 0, none⟩))])) (x_loadN (vs := [(Value.pointer (some ⟨kb, 0, none⟩))]) rfl Try.underlying55 rfl z55 rfl (Rd.cells (Holds.rd H447_ 9 rfl) 0 rfl)) ?_)
       refine S_list (T_callW (al := [(Value.agg #[(Value.pointer (some ⟨kb, 0, none⟩))])]) rfl rfl cb49 (Calls.into (n := 6) (al := [(Value.agg #[(Value.pointer (some ⟨kb, 0, none⟩))])]) Try.func49 rfl Try.ntmps49 rfl rfl ?_))
       refine C_seq (fun K451_ hK451_ => ?_)
       refine C_reg ?_
       refine S_list (T_box (v := (Value.agg #[(Value.pointer (some ⟨kb, 0, none⟩))])) rfl H447_ ?_)
       intro b452_ w453_ S455_ H454_
       have S456_ := Same.trans S449_ S455_
       refine S_list (T_alloc z61 H454_ ?_)
       intro b457_ w458_ S460_ H459_
       replace H459_ : Holds w458_ (cl b457_ 61 [(Value.int .i64 0), (Value.int .i64 0), (Value.slice none 0 0)] :: cl b452_ 55 [(Value.pointer (some ⟨kb, 0, none⟩))] :: ro R433_ :: sl 31 2 v440_ (List.length (iSince ((N0 ++ T).map GN.m) o.at_)) ((iSince ((N0 ++ T).map GN.m) o.at_).flatMap RV.cells) :: sl 106 4 gv (List.length (N0 ++ T)) ((N0 ++ T).flatMap GN.cells) :: sl 58 2 lv (List.length ll) (ll.flatMap RV.cells) :: cl kb 104 [(Value.slice ka kl kc), (Value.int .i64 m), (Value.int .i64 n), gv] :: cl b419_ 55 [(Value.pointer (some ⟨kb, 0, none⟩))] :: cl b18_ 43 [(Value.bool false), (Value.int .i64 0), (Value.int .i64 0), (Value.int .i64 0), (Value.int .i64 0), (Value.int .i64 0), v440_, (Value.int .i64 0), (Value.int .i64 0), (Value.slice none 0 0)] :: cl b12_ 43 [(Value.bool false), (Value.int .i64 0), (Value.int .i64 0), (Value.int .i64 0), (Value.int .i64 0), (Value.int .i64 0), (Value.slice none 0 0), (Value.int .i64 0), (Value.int .i64 0), (Value.slice none 0 0)] :: cl b7_ 39 [(Value.int .i64 o.kind), (Value.int .i64 o.rev_Main), (Value.int .i64 o.rev_Sub), (Value.int .i64 o.created_Main), (Value.int .i64 o.created_Sub), (Value.int .i64 o.ver), (Value.int .i64 o.at_)] :: cl b2_ 55 [(Value.pointer (some ⟨kb, 0, none⟩))] :: F) := H459_
       have S461_ := Same.trans S456_ S460_
       refine wpList_nil ?_
       refine (X_then (hK451_ _ _ ?_))
       clear hK451_
       refine C_seq (fun K462_ hK462_ => ?_)
       refine C_reg ?_
       refine S_list (T_val (v := (Value.pointer (some ⟨b452_, 0, none⟩))) (by kernel_rfl) ?_)
       refine S_list (T_val (v := (Value.pointer (some ⟨kb, 0, none⟩))) (x_load1 rfl Try.underlying53 rfl ((Holds.rd H459_ 1 rfl) 0 (Value.pointer (some ⟨kb, 0, none⟩)) rfl)) ?_)
       have H471_ := ((Holds.bring (Holds.bring (Holds.bring (Holds.bring H459_ 5 rfl) 5 rfl) 6 rfl) 5 rfl) :)
       refine S_list (T_callG (al := [(Value.pointer (some ⟨kb, 0, none⟩))]) (pre := [cl kb 104 [(Value.slice ka kl kc), (Value.int .i64 m), (Value.int .i64 n), gv], sl 106 4 gv (List.length (N0 ++ T)) ((N0 ++ T).flatMap GN.cells), sl 58 2 lv (List.length ll) (ll.flatMap RV.cells)]) rfl rfl cb65 (kZzOut R433_ kb ka kl kc m n gv lv N0 T ll (hT) (fun x hx => (hN x hx).mono hs434_) (by have := hbd.of.1; omega) (hbd.l (by omega))) H471_ ?_)
       rintro R464_ v465_ p475_ w472_ hs463_ ⟨v466_, N467_, rfl, rfl, he468_, he469_, he470_⟩ S474_ H473_
       have S476_ := Same.trans S461_ S474_
       have hz_R_R464_ := Sub.trans' hs434_ hs463_
       have hzl_ := map_m_len he468_
       have hza_ := map_m_all he468_ (hbd.l (show _ ≤ 100000 by omega))
       refine S_list0 (T_storeN (vs := [(Value.int .i64 m), (Value.int .i64 n), v466_]) rfl rfl z61 rfl (List.forall_mem_cons.2 ⟨rfl, (List.forall_mem_cons.2 ⟨rfl, (List.forall_mem_cons.2 ⟨(RS.one he469_), (fun _ h__ => by cases h__)⟩)⟩)⟩) H473_ 4 rfl (Nat.le_of_ble_eq_true (by rfl)) ?_)
       intro w477_ S479_ H478_
       replace H478_ : Holds w477_ (ro R464_ :: cl kb 104 [(Value.slice ka kl kc), (Value.int .i64 m), (Value.int .i64 n), gv] :: sl 106 4 gv (List.length (N0 ++ T)) ((N0 ++ T).flatMap GN.cells) :: sl 58 2 lv (List.length ll) (ll.flatMap RV.cells) :: cl b457_ 61 [(Value.int .i64 m), (Value.int .i64 n), v466_] :: cl b452_ 55 [(Value.pointer (some ⟨kb, 0, none⟩))] :: sl 31 2 v440_ (List.length (iSince ((N0 ++ T).map GN.m) o.at_)) ((iSince ((N0 ++ T).map GN.m) o.at_).flatMap RV.cells) :: cl b419_ 55 [(Value.pointer (some ⟨kb, 0, none⟩))] :: cl b18_ 43 [(Value.bool false), (Value.int .i64 0), (Value.int .i64 0), (Value.int .i64 0), (Value.int .i64 0), (Value.int .i64 0), v440_, (Value.int .i64 0), (Value.int .i64 0), (Value.slice none 0 0)] :: cl b12_ 43 [(Value.bool false), (Value.int .i64 0), (Value.int .i64 0), (Value.int .i64 0), (Value.int .i64 0), (Value.int .i64 0), (Value.slice none 0 0), (Value.int .i64 0), (Value.int .i64 0), (Value.slice none 0 0)] :: cl b7_ 39 [(Value.int .i64 o.kind), (Value.int .i64 o.rev_Main), (Value.int .i64 o.rev_Sub), (Value.int .i64 o.created_Main), (Value.int .i64 o.created_Sub), (Value.int .i64 o.ver), (Value.int .i64 o.at_)] :: cl b2_ 55 [(Value.pointer (some ⟨kb, 0, none⟩))] :: F) := H478_
       have S480_ := Same.trans S476_ S479_
       refine wpList_nil ?_
       refine (X_then (hK462_ _ _ ?_))
       clear hK462_
       refine C_ret ?_
       refine R_any (v := (Value.agg #[(Value.int .i64 m), (Value.int .i64 n), v466_])) (run_results1 rfl ⟨_, rfl, load_resN Try.underlying61 rfl z61 rfl (vs := [(Value.int .i64 m), (Value.int .i64 n), v466_]) (Holds.cl_cells H478_ 4 rfl 0 rfl)⟩) ⟨_, rfl, ?_⟩
       refine S_list (T_callG (al := [(Value.agg #[(Value.int .i64 m), (Value.int .i64 n), v466_])]) (pre := []) rfl rfl cb48 (kDumpOut R464_ m n v466_ N467_ he469_ (he470_) (by have := hbd.of.1; omega) (hza_)) H478_ ?_)
       rintro R482_ v483_ p492_ w489_ hs481_ ⟨v484_, N485_, rfl, rfl, he486_, he487_, he488_⟩ S491_ H490_
       have S493_ := Same.trans S480_ S491_
       have hz_R_R482_ := Sub.trans' hz_R_R464_ hs481_
       have hz_R433__R482_ := Sub.trans' hs463_ hs481_
       refine S_list (T_val (v := (Value.pointer (some ⟨b18_, 7, none⟩))) (by kernel_rfl) ?_)
       refine S_list0 (T_storeN (vs := [(Value.int .i64 m), (Value.int .i64 n), v484_]) rfl rfl z34 rfl (List.forall_mem_cons.2 ⟨rfl, (List.forall_mem_cons.2 ⟨rfl, (List.forall_mem_cons.2 ⟨(RS.one he487_), (fun _ h__ => by cases h__)⟩)⟩)⟩) H490_ 8 rfl (Nat.le_of_ble_eq_true (by rfl)) ?_)
       intro w494_ S496_ H495_
       have S497_ := Same.trans S493_ S496_
       refine wpList_nil ?_
       refine (X_then (hK450_ _ _ ?_))
       clear hK450_
       refine C_seq (fun K498_ hK498_ => ?_)
       refine C_reg ?_
       refine S_list (T_val (v := (Value.agg #[(Value.bool false), (Value.int .i64 0), (Value.int .i64 0), (Value.int .i64 0), (Value.int .i64 0), (Value.int .i64 0), v440_, (Value.int .i64 m), (Value.int .i64 n), v484_])) (x_loadN (vs := [(Value.bool false), (Value.int .i64 0), (Value.int .i64 0), (Value.int .i64 0), (Value.int .i64 0), (Value.int .i64 0), v440_, (Value.int .i64 m), (Value.int .i64 n), v484_]) rfl Try.underlying43 rfl z43 rfl (Rd.cells (Holds.rd H495_ 8 rfl) 0 rfl)) ?_)
       refine S_list0 (T_storeN (vs := [(Value.bool false), (Value.int .i64 0), (Value.int .i64 0), (Value.int .i64 0), (Value.int .i64 0), (Value.int .i64 0), v440_, (Value.int .i64 m), (Value.int .i64 n), v484_]) rfl rfl z43 rfl (List.forall_mem_cons.2 ⟨rfl, (List.forall_mem_cons.2 ⟨rfl, (List.forall_mem_cons.2 ⟨rfl, (List.forall_mem_cons.2 ⟨rfl, (List.forall_mem_cons.2 ⟨rfl, (List.forall_mem_cons.2 ⟨rfl, (List.forall_mem_cons.2 ⟨(Holds.sl_one H495_ 6 rfl), (List.forall_mem_cons.2 ⟨rfl, (List.forall_mem_cons.2 ⟨rfl, (List.forall_mem_cons.2 ⟨(RS.one he487_), (fun _ h__ => by cases h__)⟩)⟩)⟩)⟩)⟩)⟩)⟩)⟩)⟩)⟩) H495_ 9 rfl (Nat.le_of_ble_eq_true (by rfl)) ?_)
       intro w499_ S501_ H500_
       replace H500_ : Holds w499_ (ro R482_ :: cl kb 104 [(Value.slice ka kl kc), (Value.int .i64 m), (Value.int .i64 n), gv] :: sl 106 4 gv (List.length (N0 ++ T)) ((N0 ++ T).flatMap GN.cells) :: sl 58 2 lv (List.length ll) (ll.flatMap RV.cells) :: cl b457_ 61 [(Value.int .i64 m), (Value.int .i64 n), v466_] :: cl b452_ 55 [(Value.pointer (some ⟨kb, 0, none⟩))] :: sl 31 2 v440_ (List.length (iSince ((N0 ++ T).map GN.m) o.at_)) ((iSince ((N0 ++ T).map GN.m) o.at_).flatMap RV.cells) :: cl b419_ 55 [(Value.pointer (some ⟨kb, 0, none⟩))] :: cl b18_ 43 [(Value.bool false), (Value.int .i64 0), (Value.int .i64 0), (Value.int .i64 0), (Value.int .i64 0), (Value.int .i64 0), v440_, (Value.int .i64 m), (Value.int .i64 n), v484_] :: cl b12_ 43 [(Value.bool false), (Value.int .i64 0), (Value.int .i64 0), (Value.int .i64 0), (Value.int .i64 0), (Value.int .i64 0), v440_, (Value.int .i64 m), (Value.int .i64 n), v484_] :: cl b7_ 39 [(Value.int .i64 o.kind), (Value.int .i64 o.rev_Main), (Value.int .i64 o.rev_Sub), (Value.int .i64 o.created_Main), (Value.int .i64 o.created_Sub), (Value.int .i64 o.ver), (Value.int .i64 o.at_)] :: cl b2_ 55 [(Value.pointer (some ⟨kb, 0, none⟩))] :: F) := H500_
       have S502_ := Same.trans S497_ S501_
       refine wpList_nil ?_
       refine (X_then (hK498_ _ _ ?_))
       clear hK498_
       refine C_ret ?_
       refine R_any (v := (Value.agg #[(Value.bool false), (Value.int .i64 0), (Value.int .i64 0), (Value.int .i64 0), (Value.int .i64 0), (Value.int .i64 0), v440_, (Value.int .i64 m), (Value.int .i64 n), v484_])) (run_results1 rfl ⟨_, rfl, load_resN Try.underlying43 rfl z43 rfl (vs := [(Value.bool false), (Value.int .i64 0), (Value.int .i64 0), (Value.int .i64 0), (Value.int .i64 0), (Value.int .i64 0), v440_, (Value.int .i64 m), (Value.int .i64 n), v484_]) (Holds.cl_cells H500_ 9 rfl 0 rfl)⟩) ?_
       have H503_ := ((Holds.bring (Holds.bring H500_ 6 rfl) 1 rfl) :)
       obtain ⟨R504_, hs505_, ⟨R506_, ha507_, hs508_⟩, H509_⟩ := Holds.gift H503_
       have hz_R_R504_ := Sub.trans' hz_R_R482_ hs505_
       have hz_R433__R504_ := Sub.trans' hz_R433__R482_ hs505_
       have hz_R464__R504_ := Sub.trans' hs481_ hs505_
       have hr510_ : RS R504_ 2 v440_ (List.length (iSince ((N0 ++ T).map GN.m) o.at_)) ((iSince ((N0 ++ T).map GN.m) o.at_).flatMap RV.cells) := (sl_RS ha507_ (Sub.rfl' _)).mono hs508_
       have H511_ := Holds.recl H509_ 1 rfl ((lcons rfl (lcons (congrArg (Value.int .i64) ((by rw [hs_]) : m = s'.1)) (lcons (congrArg (Value.int .i64) ((by rw [hs_]) : n = s'.2.1)) rfl))) : [(Value.slice ka kl kc), (Value.int .i64 m), (Value.int .i64 n), gv] = [(Value.slice ka kl kc), (Value.int .i64 s'.1), (Value.int .i64 s'.2.1), gv])
       have H512_ : Holds w499_ (ro R504_ :: cl kb 104 [(Value.slice ka kl kc), (Value.int .i64 s'.1), (Value.int .i64 s'.2.1), gv] :: sl 106 4 gv (List.length (N0 ++ T)) ((N0 ++ T).flatMap GN.cells) :: sl 58 2 lv (List.length ll) (ll.flatMap RV.cells) :: F) := (Holds.pkF H511_ [0, 0, 0, 0] 7 :)
       exact ⟨R504_, _, _, rfl, hz_R_R504_, ⟨gv, lv, N0, T, ll, false, 0, 0, 0, 0, 0, v440_, m, n, v484_, (iSince ((N0 ++ T).map GN.m) o.at_), N485_, rfl, rfl, (by rw [hs_]), (hT), (hTN), (fun x hx => (hN x hx).mono hz_R_R504_), (⟨hr510_, (he487_.mono hs505_), fun x hx => (he488_ x hx).mono hs505_⟩), (by rw [hs_, ha_]; show KM.mk _ _ _ _ _ _ _ _ _ _ = _; rw [(he486_.trans he468_)]; rfl)⟩, S502_, H512_⟩
      ·have c417_fp : ¬ (o.kind = 6) := of_decide_eq_false c417_f
       exact absurd hdo (by rw [iDo_no (by omega) (by omega) (by omega)]; intro h_; cases h_)
end Go.Proofs.Ytiblemgccgbhoaa
