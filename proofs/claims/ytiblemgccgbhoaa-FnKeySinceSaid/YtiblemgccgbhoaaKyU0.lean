/- What holds at a number, by the package. -/
import Derived.Test.YtiblemgccgbhoaaKyT0
set_option linter.unusedVariables false
set_option linter.unusedSimpArgs false
namespace Go.Proofs.Ytiblemgccgbhoaa
open Go Go.RowKit Gw

set_option maxHeartbeats 2000000 in
theorem kGetR (R : HP) (kb : Nat) (ka : Option Addr) (kl kc : Nat) (m n : Int) (gv : Value) (N : List GN) (at_ : Int) (h1 : RS R 4 gv (List.length N) (N.flatMap GN.cells)) (hg1 : ∀ x ∈ N, GOk R x) (hb1 : N.length ≤ 100000) (hb2 : ∀ x ∈ N, x.l.length ≤ 100000) (hne : ∀ x, N = [x] → ¬ x.l.length = 0) (hbv : ∀ x ∈ N, 0 ≤ x.ver ∧ x.ver ≤ 1000000) :
    Tri Try.prog 58 #[(Value.pointer (some ⟨kb, 0, none⟩)), (Value.pointer none), (Value.int .i64 at_)] R [cl kb 104 [(Value.slice ka kl kc), (Value.int .i64 m), (Value.int .i64 n), gv]] (fun v__ post__ => (v__ = (Value.tuple #[(Value.agg #[(Value.int .i64 0), (Value.int .i64 0)]), (Value.agg #[(Value.int .i64 0), (Value.int .i64 0)]), (Value.int .i64 0), (Value.iface 122 (Value.string (ByteArray.mk #[109, 118, 99, 99, 58, 32, 114, 101, 118, 105, 115, 105, 111, 110, 32, 110, 111, 116, 32, 102, 111, 117, 110, 100])))]) ∧ post__ = [cl kb 104 [(Value.slice ka kl kc), (Value.int .i64 m), (Value.int .i64 n), gv]] ∧ (iGet (N.map GN.m) at_ = none)) ∨ (∃ (a b c d e : Int), v__ = (Value.tuple #[(Value.agg #[(Value.int .i64 a), (Value.int .i64 b)]), (Value.agg #[(Value.int .i64 c), (Value.int .i64 d)]), (Value.int .i64 e), (Value.nilIface)]) ∧ post__ = [cl kb 104 [(Value.slice ka kl kc), (Value.int .i64 m), (Value.int .i64 n), gv]] ∧ (iGet (N.map GN.m) at_ = some (a, b, c, d, e)))) := by
 refine Tri.into (n := 55) (al := [(Value.pointer (some ⟨kb, 0, none⟩)), (Value.pointer none), (Value.int .i64 at_)]) Try.func58 rfl Try.ntmps58 rfl rfl fun w F H => ?_
 refine C_seq (fun K1_ hK1_ => ?_)
 refine C_reg ?_
 refine S_list (T_box (v := (Value.int .i64 at_)) rfl H ?_)
 intro b2_ w3_ S5_ H4_
 have S6_ := Same.trans (Same.refl w) S5_
 refine S_list (T_alloc z58 H4_ ?_)
 intro b7_ w8_ S10_ H9_
 replace H9_ : Holds w8_ (cl b7_ 58 [(Value.int .i64 0), (Value.int .i64 0)] :: cl b2_ 2 [(Value.int .i64 at_)] :: ro R :: cl kb 104 [(Value.slice ka kl kc), (Value.int .i64 m), (Value.int .i64 n), gv] :: F) := H9_
 have S11_ := Same.trans S6_ S10_
 refine S_list (T_alloc z58 H9_ ?_)
 intro b12_ w13_ S15_ H14_
 have S16_ := Same.trans S11_ S15_
 refine S_list (T_val (v := (Value.int .i64 0)) (x_assign rfl) ?_)
 refine S_list (T_val (v := (Value.nilIface)) (x_assign rfl) ?_)
 refine wpList_nil ?_
 refine (X_then (hK1_ _ _ ?_))
 clear hK1_
 refine C_seq (fun K17_ hK17_ => ?_)
 refine C_seq (fun K18_ hK18_ => ?_)
 refine C_reg ?_
 refine S_list (T_val (v := (Value.pointer (some ⟨kb, 0, none⟩))) (x_move rfl) ?_)
 refine S_list (T_callW (al := [(Value.pointer (some ⟨kb, 0, none⟩))]) rfl rfl cb64 (Calls.into (n := 17) (al := [(Value.pointer (some ⟨kb, 0, none⟩))]) Try.func64 rfl Try.ntmps64 rfl rfl ?_))
 refine C_seq (fun K19_ hK19_ => ?_)
 refine C_reg ?_
 refine S_list (T_val (v := (Value.bool false)) (x_assign rfl) ?_)
 refine wpList_nil ?_
 refine (X_then (hK19_ _ _ ?_))
 clear hK19_
 refine C_seq (fun K20_ hK20_ => ?_)
 refine C_reg ?_
 refine S_list (T_val (v := (Value.pointer (some ⟨kb, 0, none⟩))) (x_move rfl) ?_)
 refine S_list (T_val (v := (Value.pointer (some ⟨kb, 0, none⟩))) (by kernel_rfl) ?_)
 refine S_list (T_val (v := (Value.pointer (some ⟨kb, 3, none⟩))) (by kernel_rfl) ?_)
 refine S_list (T_val (v := gv) (x_load1 rfl Try.underlying102 rfl ((Holds.rd H14_ 4 rfl) 3 gv rfl)) ?_)
 refine S_list (T_val (v := (Value.int .i64 ((List.length N) : Int))) (x_lenRS rfl h1 Try.underlying102) ?_)
 refine S_list (T_val (v := (Value.bool (decide (((List.length N) : Int) = 1)))) (x_bin rfl rfl rfl) ?_)
 refine S_list (T_val (v := (Value.bool (decide (((List.length N) : Int) = 1)))) (x_move rfl) ?_)
 rcases Bool.eq_false_or_eq_true (decide (((List.length N) : Int) = 1)) with c21_t | c21_f
 ·have c21_tp : ((List.length N) : Int) = 1 := of_decide_eq_true c21_t
  refine S_yes (j := 6) (dj := 9) (b := true) rfl rfl (congrArg Value.bool c21_t) (T_val (v := (Value.pointer (some ⟨kb, 0, none⟩))) (x_move rfl) ?_)
  refine S_yes (j := 6) (dj := 9) (b := true) rfl rfl (congrArg Value.bool c21_t) (T_val (v := (Value.pointer (some ⟨kb, 0, none⟩))) (by kernel_rfl) ?_)
  refine S_yes (j := 6) (dj := 9) (b := true) rfl rfl (congrArg Value.bool c21_t) (T_val (v := (Value.pointer (some ⟨kb, 3, none⟩))) (by kernel_rfl) ?_)
  refine S_yes (j := 6) (dj := 9) (b := true) rfl rfl (congrArg Value.bool c21_t) (T_val (v := gv) (x_load1 rfl Try.underlying102 rfl ((Holds.rd H14_ 4 rfl) 3 gv rfl)) ?_)
  obtain ⟨x22_, hx23_, hm24_⟩ := elem_at N 0 (by omega)
  have hp25_ := hg1 x22_ hm24_
  have hp26_ := hb2 x22_ hm24_
  have hp27_ := hbv x22_ hm24_
  have hg28_ := hg1 x22_ hm24_
  refine S_yes (j := 6) (dj := 9) (b := true) rfl rfl (congrArg Value.bool c21_t) (T_val (v := (Value.pointer (some ⟨(sb gv), so gv + (0 + 0), none⟩))) (x_idxRS (v := gv) rfl h1 rfl Try.underlying102 z106 (by omega) (by omega) (by omega : _ = 0) rfl) ?_)
  refine S_yes (j := 6) (dj := 9) (b := true) rfl rfl (congrArg Value.bool c21_t) (T_callW (al := [(Value.pointer (some ⟨(sb gv), so gv + (0 + 0), none⟩))]) rfl rfl cb69 (Calls.into (n := 13) (al := [(Value.pointer (some ⟨(sb gv), so gv + (0 + 0), none⟩))]) Try.func69 rfl Try.ntmps69 rfl rfl ?_))
  refine C_seq (fun K29_ hK29_ => ?_)
  refine C_reg ?_
  refine S_list (T_val (v := (Value.bool false)) (x_assign rfl) ?_)
  refine wpList_nil ?_
  refine (X_then (hK29_ _ _ ?_))
  clear hK29_
  refine C_seq (fun K30_ hK30_ => ?_)
  refine C_reg ?_
  refine S_list (T_val (v := (Value.pointer (some ⟨(sb gv), so gv + (0 + 0), none⟩))) (x_move rfl) ?_)
  refine S_list (T_val (v := (Value.bool false)) (by kernel_rfl) ?_)
  refine S_list (T_val (v := (Value.bool false)) (x_move rfl) ?_)
  refine S_yes (j := 2) (dj := 5) (b := false) rfl rfl rfl (T_val (v := (Value.pointer (some ⟨(sb gv), so gv + (0 + 0), none⟩))) (x_move rfl) ?_)
  refine S_yes (j := 2) (dj := 5) (b := false) rfl rfl rfl (T_val (v := (Value.pointer (some ⟨(sb gv), so gv + (0 + 0), none⟩))) (by kernel_rfl) ?_)
  refine S_yes (j := 2) (dj := 5) (b := false) rfl rfl rfl (T_val (v := (Value.pointer (some ⟨(sb gv), so gv + (0 + 3), none⟩))) (by kernel_rfl) ?_)
  refine S_yes (j := 2) (dj := 5) (b := false) rfl rfl rfl (T_val (v := x22_.revs) (x_load1 rfl Try.underlying80 rfl (RC.cell (RS.rc h1) (Holds.ro_at H14_ 3 rfl) (j := 0 + 3) (u := x22_.revs) (fm_cell GN.len hx23_ (i := 3) rfl))) ?_)
  refine S_yes (j := 2) (dj := 5) (b := false) rfl rfl rfl (T_val (v := (Value.int .i64 ((List.length x22_.l) : Int))) (x_lenRS rfl hg28_ Try.underlying80) ?_)
  refine S_yes (j := 2) (dj := 5) (b := false) rfl rfl rfl (T_val (v := (Value.bool (decide (((List.length x22_.l) : Int) = 0)))) (x_bin rfl rfl rfl) ?_)
  refine S_list (T_pickF (v := (Value.bool (decide (((List.length x22_.l) : Int) = 0)))) rfl rfl ?_)
  refine S_list (T_val (v := (Value.bool (decide (((List.length x22_.l) : Int) = 0)))) (x_assign rfl) ?_)
  refine wpList_nil ?_
  refine (X_then (hK30_ _ _ ?_))
  clear hK30_
  refine C_ret ?_
  refine R_any (v := (Value.bool (decide (((List.length x22_.l) : Int) = 0)))) (run_results1 rfl rfl) ⟨_, rfl, ?_⟩
  refine S_list (T_pickT (v := (Value.bool (decide (((List.length x22_.l) : Int) = 0)))) (congrArg Value.bool c21_t) rfl ?_)
  refine S_list (T_val (v := (Value.bool (decide (((List.length x22_.l) : Int) = 0)))) (x_assign rfl) ?_)
  refine wpList_nil ?_
  refine (X_then (hK20_ _ _ ?_))
  clear hK20_
  refine C_ret ?_
  refine R_any (v := (Value.bool (decide (((List.length x22_.l) : Int) = 0)))) (run_results1 rfl rfl) ⟨_, rfl, ?_⟩
  refine wpList_nil ?_
  refine (X_then (hK18_ _ _ ?_))
  clear hK18_
  refine C_cond (b := decide (((List.length x22_.l) : Int) = 0)) rfl (fun c31_t => ?_) (fun c31_f => ?_)
  ·have c31_tp : ((List.length x22_.l) : Int) = 0 := of_decide_eq_true c31_t
   exact absurd (show x22_.l.length = 0 by omega) (hne _ (one_of c21_tp hx23_))
  ·have c31_fp : ¬ (((List.length x22_.l) : Int) = 0) := of_decide_eq_false c31_f
   refine C_skip (X_then (hK17_ _ _ ?_))
   clear hK17_
   refine C_seq (fun K32_ hK32_ => ?_)
   refine C_reg ?_
   refine S_list (T_val (v := (Value.pointer (some ⟨kb, 0, none⟩))) (x_move rfl) ?_)
   refine S_list (T_val (v := (Value.int .i64 at_)) (x_load1 rfl Try.underlying2 rfl ((Holds.rd H14_ 2 rfl) 0 (Value.int .i64 at_) rfl)) ?_)
   have H39_ := ((Holds.bring (Holds.bring H14_ 4 rfl) 4 rfl) :)
   refine S_list (T_call (al := [(Value.pointer (some ⟨kb, 0, none⟩)), (Value.int .i64 at_)]) (pre := [cl kb 104 [(Value.slice ka kl kc), (Value.int .i64 m), (Value.int .i64 n), gv]]) rfl rfl cb70 (kFind R kb ka kl kc m n gv N at_ h1 (by first | assumption | omega) (by first | assumption | omega) (by first | assumption | omega)) H39_ ?_)
   rintro v33_ p43_ w40_ hq44_ S42_ H41_
   rcases hq44_ with ⟨rfl, rfl, he34_⟩ | ⟨j35_, x36_, rfl, rfl, he37_, he38_⟩
   ·skip
    replace H41_ : Holds w40_ (ro R :: cl kb 104 [(Value.slice ka kl kc), (Value.int .i64 m), (Value.int .i64 n), gv] :: cl b12_ 58 [(Value.int .i64 0), (Value.int .i64 0)] :: cl b7_ 58 [(Value.int .i64 0), (Value.int .i64 0)] :: cl b2_ 2 [(Value.int .i64 at_)] :: F) := H41_
    have S45_ := Same.trans S16_ S42_
    refine S_list (T_val (v := (Value.pointer none)) (x_assign rfl) ?_)
    refine wpList_nil ?_
    refine (X_then (hK32_ _ _ ?_))
    clear hK32_
    refine C_seq (fun K47_ hK47_ => ?_)
    refine C_seq (fun K48_ hK48_ => ?_)
    refine C_reg ?_
    refine S_list (T_val (v := (Value.pointer none)) (x_move rfl) ?_)
    refine S_list (T_callW (al := [(Value.pointer none)]) rfl rfl cb69 (Calls.into (n := 13) (al := [(Value.pointer none)]) Try.func69 rfl Try.ntmps69 rfl rfl ?_))
    refine C_seq (fun K49_ hK49_ => ?_)
    refine C_reg ?_
    refine S_list (T_val (v := (Value.bool false)) (x_assign rfl) ?_)
    refine wpList_nil ?_
    refine (X_then (hK49_ _ _ ?_))
    clear hK49_
    refine C_seq (fun K50_ hK50_ => ?_)
    refine C_reg ?_
    refine S_list (T_val (v := (Value.pointer none)) (x_move rfl) ?_)
    refine S_list (T_val (v := (Value.bool true)) (by kernel_rfl) ?_)
    refine S_list (T_val (v := (Value.bool true)) (x_move rfl) ?_)
    refine S_no (j := 2) (dj := 5) (b := true) rfl rfl rfl (by decide) ?_
    refine S_no (j := 2) (dj := 5) (b := true) rfl rfl rfl (by decide) ?_
    refine S_no (j := 2) (dj := 5) (b := true) rfl rfl rfl (by decide) ?_
    refine S_no (j := 2) (dj := 5) (b := true) rfl rfl rfl (by decide) ?_
    refine S_no (j := 2) (dj := 5) (b := true) rfl rfl rfl (by decide) ?_
    refine S_no (j := 2) (dj := 5) (b := true) rfl rfl rfl (by decide) ?_
    refine S_list (T_pickT (v := (Value.bool true)) rfl rfl ?_)
    refine S_list (T_val (v := (Value.bool true)) (x_assign rfl) ?_)
    refine wpList_nil ?_
    refine (X_then (hK50_ _ _ ?_))
    clear hK50_
    refine C_ret ?_
    refine R_any (v := (Value.bool true)) (run_results1 rfl rfl) ⟨_, rfl, ?_⟩
    refine wpList_nil ?_
    refine (X_then (hK48_ _ _ ?_))
    clear hK48_
    refine C_condT rfl ?_
    refine C_seq (fun K51_ hK51_ => ?_)
    refine C_reg ?_
    refine S_list (T_val (v := (Value.agg #[(Value.int .i64 0), (Value.int .i64 0)])) (by kernel_rfl) ?_)
    refine S_list (T_val (v := (Value.agg #[(Value.int .i64 0), (Value.int .i64 0)])) (by kernel_rfl) ?_)
    refine S_list (T_val (v := (Value.iface 122 (Value.string (ByteArray.mk #[109, 118, 99, 99, 58, 32, 114, 101, 118, 105, 115, 105, 111, 110, 32, 110, 111, 116, 32, 102, 111, 117, 110, 100])))) (by kernel_rfl) ?_)
    refine S_list0 (T_storeN (vs := [(Value.int .i64 0), (Value.int .i64 0)]) rfl rfl z58 rfl (by simp [Value.oneCell']) H41_ 3 rfl (Nat.le_of_ble_eq_true (by rfl)) ?_)
    intro w52_ S54_ H53_
    have S55_ := Same.trans S45_ S54_
    refine S_list0 (T_storeN (vs := [(Value.int .i64 0), (Value.int .i64 0)]) rfl rfl z58 rfl (by simp [Value.oneCell']) H53_ 2 rfl (Nat.le_of_ble_eq_true (by rfl)) ?_)
    intro w56_ S58_ H57_
    replace H57_ : Holds w56_ (ro R :: cl kb 104 [(Value.slice ka kl kc), (Value.int .i64 m), (Value.int .i64 n), gv] :: cl b12_ 58 [(Value.int .i64 0), (Value.int .i64 0)] :: cl b7_ 58 [(Value.int .i64 0), (Value.int .i64 0)] :: cl b2_ 2 [(Value.int .i64 at_)] :: F) := H57_
    have S59_ := Same.trans S55_ S58_
    refine S_list (T_val (v := (Value.int .i64 0)) (x_assign rfl) ?_)
    refine S_list (T_val (v := (Value.iface 122 (Value.string (ByteArray.mk #[109, 118, 99, 99, 58, 32, 114, 101, 118, 105, 115, 105, 111, 110, 32, 110, 111, 116, 32, 102, 111, 117, 110, 100])))) (x_assign rfl) ?_)
    refine wpList_nil ?_
    refine (X_then (hK51_ _ _ ?_))
    clear hK51_
    refine C_ret (X_thenR ?_)
    refine R_any (v := (Value.tuple #[(Value.agg #[(Value.int .i64 0), (Value.int .i64 0)]), (Value.agg #[(Value.int .i64 0), (Value.int .i64 0)]), (Value.int .i64 0), (Value.iface 122 (Value.string (ByteArray.mk #[109, 118, 99, 99, 58, 32, 114, 101, 118, 105, 115, 105, 111, 110, 32, 110, 111, 116, 32, 102, 111, 117, 110, 100])))])) (run_results4 rfl ⟨_, rfl, load_resN Try.underlying58 rfl z58 rfl (vs := [(Value.int .i64 0), (Value.int .i64 0)]) (Holds.cl_cells H57_ 3 rfl 0 rfl)⟩ ⟨_, rfl, load_resN Try.underlying58 rfl z58 rfl (vs := [(Value.int .i64 0), (Value.int .i64 0)]) (Holds.cl_cells H57_ 2 rfl 0 rfl)⟩ rfl rfl) ?_
    have H60_ : Holds w56_ (ro R :: cl kb 104 [(Value.slice ka kl kc), (Value.int .i64 m), (Value.int .i64 n), gv] :: F) := (Holds.pkF H57_ [0, 0] 3 :)
    exact ⟨_, _, rfl, (.inl ⟨rfl, rfl, (iGet_none he34_)⟩), S59_, H60_⟩
   ·skip
    have S46_ := Same.trans S16_ S42_
    have hfm_ := List.mem_of_getElem? he38_
    have hfg_ := hg1 x36_ hfm_
    have hfb_ := hb2 x36_ hfm_
    have hfv_ := hbv x36_ hfm_
    refine S_list (T_val (v := (Value.pointer (some ⟨(sb gv), so gv + (j35_ * 4 + 0), none⟩))) (x_assign rfl) ?_)
    refine wpList_nil ?_
    refine (X_then (hK32_ _ _ ?_))
    clear hK32_
    refine C_seq (fun K61_ hK61_ => ?_)
    refine C_seq (fun K62_ hK62_ => ?_)
    refine C_reg ?_
    refine S_list (T_val (v := (Value.pointer (some ⟨(sb gv), so gv + (j35_ * 4 + 0), none⟩))) (x_move rfl) ?_)
    refine S_list (T_callW (al := [(Value.pointer (some ⟨(sb gv), so gv + (j35_ * 4 + 0), none⟩))]) rfl rfl cb69 (Calls.into (n := 13) (al := [(Value.pointer (some ⟨(sb gv), so gv + (j35_ * 4 + 0), none⟩))]) Try.func69 rfl Try.ntmps69 rfl rfl ?_))
    refine C_seq (fun K63_ hK63_ => ?_)
    refine C_reg ?_
    refine S_list (T_val (v := (Value.bool false)) (x_assign rfl) ?_)
    refine wpList_nil ?_
    refine (X_then (hK63_ _ _ ?_))
    clear hK63_
    refine C_seq (fun K64_ hK64_ => ?_)
    refine C_reg ?_
    refine S_list (T_val (v := (Value.pointer (some ⟨(sb gv), so gv + (j35_ * 4 + 0), none⟩))) (x_move rfl) ?_)
    refine S_list (T_val (v := (Value.bool false)) (by kernel_rfl) ?_)
    refine S_list (T_val (v := (Value.bool false)) (x_move rfl) ?_)
    refine S_yes (j := 2) (dj := 5) (b := false) rfl rfl rfl (T_val (v := (Value.pointer (some ⟨(sb gv), so gv + (j35_ * 4 + 0), none⟩))) (x_move rfl) ?_)
    refine S_yes (j := 2) (dj := 5) (b := false) rfl rfl rfl (T_val (v := (Value.pointer (some ⟨(sb gv), so gv + (j35_ * 4 + 0), none⟩))) (by kernel_rfl) ?_)
    refine S_yes (j := 2) (dj := 5) (b := false) rfl rfl rfl (T_val (v := (Value.pointer (some ⟨(sb gv), so gv + (j35_ * 4 + 3), none⟩))) (by kernel_rfl) ?_)
    refine S_yes (j := 2) (dj := 5) (b := false) rfl rfl rfl (T_val (v := x36_.revs) (x_load1 rfl Try.underlying80 rfl (RC.cell (RS.rc h1) (Holds.ro_at H41_ 0 rfl) (j := j35_ * 4 + 3) (u := x36_.revs) (fm_cell GN.len he38_ (i := 3) rfl))) ?_)
    refine S_yes (j := 2) (dj := 5) (b := false) rfl rfl rfl (T_val (v := (Value.int .i64 ((List.length x36_.l) : Int))) (x_lenRS rfl hfg_ Try.underlying80) ?_)
    refine S_yes (j := 2) (dj := 5) (b := false) rfl rfl rfl (T_val (v := (Value.bool (decide (((List.length x36_.l) : Int) = 0)))) (x_bin rfl rfl rfl) ?_)
    refine S_list (T_pickF (v := (Value.bool (decide (((List.length x36_.l) : Int) = 0)))) rfl rfl ?_)
    refine S_list (T_val (v := (Value.bool (decide (((List.length x36_.l) : Int) = 0)))) (x_assign rfl) ?_)
    refine wpList_nil ?_
    refine (X_then (hK64_ _ _ ?_))
    clear hK64_
    refine C_ret ?_
    refine R_any (v := (Value.bool (decide (((List.length x36_.l) : Int) = 0)))) (run_results1 rfl rfl) ⟨_, rfl, ?_⟩
    refine wpList_nil ?_
    refine (X_then (hK62_ _ _ ?_))
    clear hK62_
    refine C_cond (b := decide (((List.length x36_.l) : Int) = 0)) rfl (fun c65_t => ?_) (fun c65_f => ?_)
    ·have c65_tp : ((List.length x36_.l) : Int) = 0 := of_decide_eq_true c65_t
     refine C_seq (fun K66_ hK66_ => ?_)
     refine C_reg ?_
     refine S_list (T_val (v := (Value.agg #[(Value.int .i64 0), (Value.int .i64 0)])) (by kernel_rfl) ?_)
     refine S_list (T_val (v := (Value.agg #[(Value.int .i64 0), (Value.int .i64 0)])) (by kernel_rfl) ?_)
     refine S_list (T_val (v := (Value.iface 122 (Value.string (ByteArray.mk #[109, 118, 99, 99, 58, 32, 114, 101, 118, 105, 115, 105, 111, 110, 32, 110, 111, 116, 32, 102, 111, 117, 110, 100])))) (by kernel_rfl) ?_)
     refine S_list0 (T_storeN (vs := [(Value.int .i64 0), (Value.int .i64 0)]) rfl rfl z58 rfl (by simp [Value.oneCell']) H41_ 3 rfl (Nat.le_of_ble_eq_true (by rfl)) ?_)
     intro w67_ S69_ H68_
     have S70_ := Same.trans S46_ S69_
     refine S_list0 (T_storeN (vs := [(Value.int .i64 0), (Value.int .i64 0)]) rfl rfl z58 rfl (by simp [Value.oneCell']) H68_ 2 rfl (Nat.le_of_ble_eq_true (by rfl)) ?_)
     intro w71_ S73_ H72_
     have S74_ := Same.trans S70_ S73_
     refine S_list (T_val (v := (Value.int .i64 0)) (x_assign rfl) ?_)
     refine S_list (T_val (v := (Value.iface 122 (Value.string (ByteArray.mk #[109, 118, 99, 99, 58, 32, 114, 101, 118, 105, 115, 105, 111, 110, 32, 110, 111, 116, 32, 102, 111, 117, 110, 100])))) (x_assign rfl) ?_)
     refine wpList_nil ?_
     refine (X_then (hK66_ _ _ ?_))
     clear hK66_
     refine C_ret (X_thenR ?_)
     refine R_any (v := (Value.tuple #[(Value.agg #[(Value.int .i64 0), (Value.int .i64 0)]), (Value.agg #[(Value.int .i64 0), (Value.int .i64 0)]), (Value.int .i64 0), (Value.iface 122 (Value.string (ByteArray.mk #[109, 118, 99, 99, 58, 32, 114, 101, 118, 105, 115, 105, 111, 110, 32, 110, 111, 116, 32, 102, 111, 117, 110, 100])))])) (run_results4 rfl ⟨_, rfl, load_resN Try.underlying58 rfl z58 rfl (vs := [(Value.int .i64 0), (Value.int .i64 0)]) (Holds.cl_cells H72_ 3 rfl 0 rfl)⟩ ⟨_, rfl, load_resN Try.underlying58 rfl z58 rfl (vs := [(Value.int .i64 0), (Value.int .i64 0)]) (Holds.cl_cells H72_ 2 rfl 0 rfl)⟩ rfl rfl) ?_
     have H75_ : Holds w71_ (ro R :: cl kb 104 [(Value.slice ka kl kc), (Value.int .i64 m), (Value.int .i64 n), gv] :: F) := (Holds.pkF H72_ [0, 0] 3 :)
     exact ⟨_, _, rfl, (.inl ⟨rfl, rfl, (iGet_emp he37_ he38_ c65_tp)⟩), S74_, H75_⟩
    ·have c65_fp : ¬ (((List.length x36_.l) : Int) = 0) := of_decide_eq_false c65_f
     refine C_skip (X_then (hK61_ _ _ ?_))
     clear hK61_
     refine C_seq (fun K76_ hK76_ => ?_)
     refine C_reg ?_
     refine S_list (T_val (v := (Value.pointer (some ⟨(sb gv), so gv + (j35_ * 4 + 0), none⟩))) (x_move rfl) ?_)
     refine S_list (T_val (v := (Value.func (.func 72) #[] #[(Value.pointer (some ⟨b2_, 0, none⟩))])) (by kernel_rfl) ?_)
     have H78_ := ((Holds.bring (Holds.bring H41_ 4 rfl) 1 rfl) :)
     refine S_list (T_call (al := [(Value.pointer (some ⟨(sb gv), so gv + (j35_ * 4 + 0), none⟩)), (Value.func (.func 72) #[] #[(Value.pointer (some ⟨b2_, 0, none⟩))])]) (pre := [cl b2_ 2 [(Value.int .i64 at_)]]) rfl rfl cb71 (kWalk R gv N j35_ x36_ b2_ at_ h1 (he38_) (hfg_) (hfb_)) H78_ ?_)
     rintro v77_ p82_ w79_ ⟨rfl, rfl⟩ S81_ H80_
     have S83_ := Same.trans S46_ S81_
     refine S_list (T_val (v := (Value.int .i64 ((rLastN x36_.l at_ x36_.l.length : Int) - 1))) (x_assign rfl) ?_)
     refine wpList_nil ?_
     refine (X_then (hK76_ _ _ ?_))
     clear hK76_
     refine C_seq (fun K84_ hK84_ => ?_)
     refine C_seq (fun K85_ hK85_ => ?_)
     refine C_reg ?_
     refine S_list (T_val (v := (Value.int .i64 ((rLastN x36_.l at_ x36_.l.length : Int) - 1))) (x_move rfl) ?_)
     refine S_list (T_val (v := (Value.bool (decide ((rLastN x36_.l at_ x36_.l.length : Int) - 1 ≠ -1)))) (x_bin rfl rfl rfl) ?_)
     refine wpList_nil ?_
     refine (X_then (hK85_ _ _ ?_))
     clear hK85_
     refine C_cond (b := decide ((rLastN x36_.l at_ x36_.l.length : Int) - 1 ≠ -1)) rfl (fun c86_t => ?_) (fun c86_f => ?_)
     ·have c86_tp : (rLastN x36_.l at_ x36_.l.length : Int) - 1 ≠ -1 := of_decide_eq_true c86_t
      have hrl_ := rLastN_le x36_.l at_ x36_.l.length
      refine C_seq (fun K87_ hK87_ => ?_)
      refine A_start (S := fun w => Sub R (hp w)) (N := 28) foll rfl rfl ?_
      have H88_ := Holds.drew_ H80_
      have hq89_ := ((Holds.ro_at H88_ 0 rfl))
      refine A_tk 0 (v := (Value.pointer (some ⟨(sb gv), so gv + (j35_ * 4 + 0), none⟩))) rfl (by kernel_rfl) (fun w hS => x_move rfl) hq89_ ?_
      refine A_tk 1 (v := (Value.pointer (some ⟨(sb gv), so gv + (j35_ * 4 + 0), none⟩))) rfl (by kernel_rfl) (fun w hS => by kernel_rfl) hq89_ ?_
      refine A_tk 2 (v := (Value.pointer (some ⟨(sb gv), so gv + (j35_ * 4 + 3), none⟩))) rfl (by kernel_rfl) (fun w hS => by kernel_rfl) hq89_ ?_
      refine A_tk 3 (v := x36_.revs) rfl (by kernel_rfl) (fun w hS => x_load1 rfl Try.underlying80 rfl (RC.cell (RS.rc h1) hS (j := j35_ * 4 + 3) (u := x36_.revs) (fm_cell GN.len he38_ (i := 3) rfl))) hq89_ ?_
      refine A_tk 4 (v := (Value.int .i64 ((rLastN x36_.l at_ x36_.l.length : Int) - 1))) rfl (by kernel_rfl) (fun w hS => x_move rfl) hq89_ ?_
      obtain ⟨x90_, hx91_, hm92_⟩ := elem_at x36_.l (((rLastN x36_.l at_ x36_.l.length : Int) - 1).toNat) (by omega)
      refine A_tk 5 (v := (Value.pointer (some ⟨(sb x36_.revs), so x36_.revs + ((((rLastN x36_.l at_ x36_.l.length : Int) - 1).toNat) * 2 + 0), none⟩))) rfl (by kernel_rfl) (fun w hS => x_idxRS (v := x36_.revs) rfl hfg_ rfl Try.underlying80 z58 (by omega) (by omega) (by omega : _ = ((rLastN x36_.l at_ x36_.l.length : Int) - 1).toNat) rfl) hq89_ ?_
      refine A_tk 6 (v := (Value.agg #[(Value.int .i64 x90_.main), (Value.int .i64 x90_.sub)])) rfl (by kernel_rfl) (fun w hS => x_loadN (vs := [(Value.int .i64 x90_.main), (Value.int .i64 x90_.sub)]) rfl Try.underlying58 rfl z58 rfl (RC.cells (RS.rc hfg_) hS ((((rLastN x36_.l at_ x36_.l.length : Int) - 1).toNat) * 2 + 0) (fm_cells RV.len hx91_ (i := 0) rfl))) hq89_ ?_
      refine A_tk 7 (v := (Value.pointer (some ⟨(sb gv), so gv + (j35_ * 4 + 0), none⟩))) rfl (by kernel_rfl) (fun w hS => x_move rfl) hq89_ ?_
      refine A_tk 8 (v := (Value.pointer (some ⟨(sb gv), so gv + (j35_ * 4 + 0), none⟩))) rfl (by kernel_rfl) (fun w hS => by kernel_rfl) hq89_ ?_
      refine A_tk 9 (v := (Value.pointer (some ⟨(sb gv), so gv + (j35_ * 4 + 1), none⟩))) rfl (by kernel_rfl) (fun w hS => by kernel_rfl) hq89_ ?_
      refine A_tk 10 (v := (Value.agg #[(Value.int .i64 x36_.created_Main), (Value.int .i64 x36_.created_Sub)])) rfl (by kernel_rfl) (fun w hS => x_loadN (vs := [(Value.int .i64 x36_.created_Main), (Value.int .i64 x36_.created_Sub)]) rfl Try.underlying58 rfl z58 rfl (RC.cells (RS.rc h1) hS (j35_ * 4 + 1) (fm_cells GN.len he38_ (i := 1) rfl))) hq89_ ?_
      refine A_tk 11 (v := (Value.pointer (some ⟨(sb gv), so gv + (j35_ * 4 + 0), none⟩))) rfl (by kernel_rfl) (fun w hS => x_move rfl) hq89_ ?_
      refine A_tk 12 (v := (Value.pointer (some ⟨(sb gv), so gv + (j35_ * 4 + 0), none⟩))) rfl (by kernel_rfl) (fun w hS => by kernel_rfl) hq89_ ?_
      refine A_tk 13 (v := (Value.pointer (some ⟨(sb gv), so gv + (j35_ * 4 + 0), none⟩))) rfl (by kernel_rfl) (fun w hS => by kernel_rfl) hq89_ ?_
      refine A_tk 14 (v := (Value.int .i64 x36_.ver)) rfl (by kernel_rfl) (fun w hS => x_load1 rfl Try.underlying2 rfl (RC.cell (RS.rc h1) hS (j := j35_ * 4 + 0) (u := (Value.int .i64 x36_.ver)) (fm_cell GN.len he38_ (i := 0) rfl))) hq89_ ?_
      refine A_tk 15 (v := (Value.pointer (some ⟨(sb gv), so gv + (j35_ * 4 + 0), none⟩))) rfl (by kernel_rfl) (fun w hS => x_move rfl) hq89_ ?_
      refine A_tk 16 (v := (Value.pointer (some ⟨(sb gv), so gv + (j35_ * 4 + 0), none⟩))) rfl (by kernel_rfl) (fun w hS => by kernel_rfl) hq89_ ?_
      refine A_tk 17 (v := (Value.pointer (some ⟨(sb gv), so gv + (j35_ * 4 + 3), none⟩))) rfl (by kernel_rfl) (fun w hS => by kernel_rfl) hq89_ ?_
      refine A_tk 18 (v := x36_.revs) rfl (by kernel_rfl) (fun w hS => x_load1 rfl Try.underlying80 rfl (RC.cell (RS.rc h1) hS (j := j35_ * 4 + 3) (u := x36_.revs) (fm_cell GN.len he38_ (i := 3) rfl))) hq89_ ?_
      refine A_tk 19 (v := (Value.int .i64 ((List.length x36_.l) : Int))) rfl (by kernel_rfl) (fun w hS => x_lenRS rfl hfg_ Try.underlying80) hq89_ ?_
      refine A_tk 20 (v := (Value.int .i64 ((rLastN x36_.l at_ x36_.l.length : Int) - 1))) rfl (by kernel_rfl) (fun w hS => x_move rfl) hq89_ ?_
      refine A_tk 21 (v := (Value.int .i64 (((List.length x36_.l) : Int) - ((rLastN x36_.l at_ x36_.l.length : Int) - 1)))) rfl (by kernel_rfl) (fun w hS => x_bin rfl rfl (ib_sub (IntWalk.i64_in _ (by omega)))) hq89_ ?_
      refine A_tk 22 (v := (Value.int .i64 ((((List.length x36_.l) : Int) - ((rLastN x36_.l at_ x36_.l.length : Int) - 1)) - 1))) rfl (by kernel_rfl) (fun w hS => x_bin rfl rfl (ib_sub (IntWalk.i64_in _ (by omega)))) hq89_ ?_
      refine A_tk 23 (v := (Value.int .i64 (x36_.ver - ((((List.length x36_.l) : Int) - ((rLastN x36_.l at_ x36_.l.length : Int) - 1)) - 1)))) rfl (by kernel_rfl) (fun w hS => x_bin rfl rfl (ib_sub (IntWalk.i64_in _ (by omega)))) hq89_ ?_
      refine A_ready (i := 24) (rs := []) (by kernel_rfl) ?_
      refine AllR.cons ?_ AllR.nil
      refine A_op0 (ls' := #[true, true, true, true, true, true, true, true, true, true, true, true, true, true, true, true, true, true, true, true, true, true, true, true, true, false, false, false]) rfl (by kernel_rfl) (T_storeN (vs := [(Value.int .i64 x90_.main), (Value.int .i64 x90_.sub)]) rfl rfl z58 rfl (by simp [Value.oneCell']) H88_ 4 rfl (Nat.le_of_ble_eq_true (by rfl)) ?_)
      intro w93_ S95_ H94_
      replace H94_ : Holds w93_ (ro R :: cl b2_ 2 [(Value.int .i64 at_)] :: cl kb 104 [(Value.slice ka kl kc), (Value.int .i64 m), (Value.int .i64 n), gv] :: cl b12_ 58 [(Value.int .i64 0), (Value.int .i64 0)] :: cl b7_ 58 [(Value.int .i64 x90_.main), (Value.int .i64 x90_.sub)] :: F) := H94_
      have S96_ := Same.trans (Same.trans S83_ (Same.drew _)) S95_
      refine ⟨((Holds.ro_at H94_ 0 rfl)), ?_⟩
      refine A_ready (i := 25) (rs := []) (by kernel_rfl) ?_
      refine AllR.cons ?_ AllR.nil
      refine A_op0 (ls' := #[true, true, true, true, true, true, true, true, true, true, true, true, true, true, true, true, true, true, true, true, true, true, true, true, true, true, false, false]) rfl (by kernel_rfl) (T_storeN (vs := [(Value.int .i64 x36_.created_Main), (Value.int .i64 x36_.created_Sub)]) rfl rfl z58 rfl (by simp [Value.oneCell']) H94_ 3 rfl (Nat.le_of_ble_eq_true (by rfl)) ?_)
      intro w97_ S99_ H98_
      have S100_ := Same.trans S96_ S99_
      refine ⟨((Holds.ro_at H98_ 0 rfl)), ?_⟩
      have hq101_ := ((Holds.ro_at H98_ 0 rfl))
      refine A_tk 26 (v := (Value.int .i64 (x36_.ver - ((((List.length x36_.l) : Int) - ((rLastN x36_.l at_ x36_.l.length : Int) - 1)) - 1)))) rfl (by kernel_rfl) (fun w hS => x_assign rfl) hq101_ ?_
      refine A_tk 27 (v := (Value.nilIface)) rfl (by kernel_rfl) (fun w hS => x_assign rfl) hq101_ ?_
      refine A_done (by kernel_rfl) ?_
      refine (X_then (hK87_ _ _ ?_))
      clear hK87_
      refine C_ret (X_thenR ?_)
      refine R_any (v := (Value.tuple #[(Value.agg #[(Value.int .i64 x90_.main), (Value.int .i64 x90_.sub)]), (Value.agg #[(Value.int .i64 x36_.created_Main), (Value.int .i64 x36_.created_Sub)]), (Value.int .i64 (x36_.ver - ((((List.length x36_.l) : Int) - ((rLastN x36_.l at_ x36_.l.length : Int) - 1)) - 1))), (Value.nilIface)])) (run_results4 rfl ⟨_, rfl, load_resN Try.underlying58 rfl z58 rfl (vs := [(Value.int .i64 x90_.main), (Value.int .i64 x90_.sub)]) (Holds.cl_cells H98_ 4 rfl 0 rfl)⟩ ⟨_, rfl, load_resN Try.underlying58 rfl z58 rfl (vs := [(Value.int .i64 x36_.created_Main), (Value.int .i64 x36_.created_Sub)]) (Holds.cl_cells H98_ 3 rfl 0 rfl)⟩ rfl rfl) ?_
      have H102_ : Holds w97_ (ro R :: cl kb 104 [(Value.slice ka kl kc), (Value.int .i64 m), (Value.int .i64 n), gv] :: F) := (Holds.pkF H98_ [0, 1] 3 :)
      exact ⟨_, _, rfl, (.inr ⟨x90_.main, x90_.sub, x36_.created_Main, x36_.created_Sub, x36_.ver - ((((List.length x36_.l) : Int) - ((rLastN x36_.l at_ x36_.l.length : Int) - 1)) - 1), rfl, rfl, (iGet_yes he37_ he38_ c65_fp c86_tp hx91_)⟩), S100_, H102_⟩
     ·have c86_fp : ¬ ((rLastN x36_.l at_ x36_.l.length : Int) - 1 ≠ -1) := of_decide_eq_false c86_f
      have hrl_ := rLastN_le x36_.l at_ x36_.l.length
      refine C_skip (X_then (hK84_ _ _ ?_))
      clear hK84_
      refine C_seq (fun K103_ hK103_ => ?_)
      refine C_reg ?_
      refine S_list (T_val (v := (Value.agg #[(Value.int .i64 0), (Value.int .i64 0)])) (by kernel_rfl) ?_)
      refine S_list (T_val (v := (Value.agg #[(Value.int .i64 0), (Value.int .i64 0)])) (by kernel_rfl) ?_)
      refine S_list (T_val (v := (Value.iface 122 (Value.string (ByteArray.mk #[109, 118, 99, 99, 58, 32, 114, 101, 118, 105, 115, 105, 111, 110, 32, 110, 111, 116, 32, 102, 111, 117, 110, 100])))) (by kernel_rfl) ?_)
      refine S_list0 (T_storeN (vs := [(Value.int .i64 0), (Value.int .i64 0)]) rfl rfl z58 rfl (by simp [Value.oneCell']) H80_ 4 rfl (Nat.le_of_ble_eq_true (by rfl)) ?_)
      intro w104_ S106_ H105_
      have S107_ := Same.trans S83_ S106_
      refine S_list0 (T_storeN (vs := [(Value.int .i64 0), (Value.int .i64 0)]) rfl rfl z58 rfl (by simp [Value.oneCell']) H105_ 3 rfl (Nat.le_of_ble_eq_true (by rfl)) ?_)
      intro w108_ S110_ H109_
      have S111_ := Same.trans S107_ S110_
      refine S_list (T_val (v := (Value.int .i64 0)) (x_assign rfl) ?_)
      refine S_list (T_val (v := (Value.iface 122 (Value.string (ByteArray.mk #[109, 118, 99, 99, 58, 32, 114, 101, 118, 105, 115, 105, 111, 110, 32, 110, 111, 116, 32, 102, 111, 117, 110, 100])))) (x_assign rfl) ?_)
      refine wpList_nil ?_
      refine (X_then (hK103_ _ _ ?_))
      clear hK103_
      refine C_ret ?_
      refine R_any (v := (Value.tuple #[(Value.agg #[(Value.int .i64 0), (Value.int .i64 0)]), (Value.agg #[(Value.int .i64 0), (Value.int .i64 0)]), (Value.int .i64 0), (Value.iface 122 (Value.string (ByteArray.mk #[109, 118, 99, 99, 58, 32, 114, 101, 118, 105, 115, 105, 111, 110, 32, 110, 111, 116, 32, 102, 111, 117, 110, 100])))])) (run_results4 rfl ⟨_, rfl, load_resN Try.underlying58 rfl z58 rfl (vs := [(Value.int .i64 0), (Value.int .i64 0)]) (Holds.cl_cells H109_ 4 rfl 0 rfl)⟩ ⟨_, rfl, load_resN Try.underlying58 rfl z58 rfl (vs := [(Value.int .i64 0), (Value.int .i64 0)]) (Holds.cl_cells H109_ 3 rfl 0 rfl)⟩ rfl rfl) ?_
      have H112_ : Holds w108_ (ro R :: cl kb 104 [(Value.slice ka kl kc), (Value.int .i64 m), (Value.int .i64 n), gv] :: F) := (Holds.pkF H109_ [0, 1] 3 :)
      exact ⟨_, _, rfl, (.inl ⟨rfl, rfl, (iGet_no he37_ he38_ c65_fp c86_fp)⟩), S111_, H112_⟩
 ·have c21_fp : ¬ (((List.length N) : Int) = 1) := of_decide_eq_false c21_f
  refine S_no (j := 6) (dj := 9) (b := false) rfl rfl (congrArg Value.bool c21_f) (by decide) ?_
  refine S_no (j := 6) (dj := 9) (b := false) rfl rfl (congrArg Value.bool c21_f) (by decide) ?_
  refine S_no (j := 6) (dj := 9) (b := false) rfl rfl (congrArg Value.bool c21_f) (by decide) ?_
  refine S_no (j := 6) (dj := 9) (b := false) rfl rfl (congrArg Value.bool c21_f) (by decide) ?_
  refine S_no (j := 6) (dj := 9) (b := false) rfl rfl (congrArg Value.bool c21_f) (by decide) ?_
  refine S_no (j := 6) (dj := 9) (b := false) rfl rfl (congrArg Value.bool c21_f) (by decide) ?_
  refine S_list (T_pickF (v := (Value.bool false)) (congrArg Value.bool c21_f) rfl ?_)
  refine S_list (T_val (v := (Value.bool false)) (x_assign rfl) ?_)
  refine wpList_nil ?_
  refine (X_then (hK20_ _ _ ?_))
  clear hK20_
  refine C_ret ?_
  refine R_any (v := (Value.bool false)) (run_results1 rfl rfl) ⟨_, rfl, ?_⟩
  refine wpList_nil ?_
  refine (X_then (hK18_ _ _ ?_))
  clear hK18_
  refine C_condF rfl ?_
  refine C_skip (X_then (hK17_ _ _ ?_))
  clear hK17_
  refine C_seq (fun K113_ hK113_ => ?_)
  refine C_reg ?_
  refine S_list (T_val (v := (Value.pointer (some ⟨kb, 0, none⟩))) (x_move rfl) ?_)
  refine S_list (T_val (v := (Value.int .i64 at_)) (x_load1 rfl Try.underlying2 rfl ((Holds.rd H14_ 2 rfl) 0 (Value.int .i64 at_) rfl)) ?_)
  have H120_ := ((Holds.bring (Holds.bring H14_ 4 rfl) 4 rfl) :)
  refine S_list (T_call (al := [(Value.pointer (some ⟨kb, 0, none⟩)), (Value.int .i64 at_)]) (pre := [cl kb 104 [(Value.slice ka kl kc), (Value.int .i64 m), (Value.int .i64 n), gv]]) rfl rfl cb70 (kFind R kb ka kl kc m n gv N at_ h1 (by first | assumption | omega) (by first | assumption | omega) (by first | assumption | omega)) H120_ ?_)
  rintro v114_ p124_ w121_ hq125_ S123_ H122_
  rcases hq125_ with ⟨rfl, rfl, he115_⟩ | ⟨j116_, x117_, rfl, rfl, he118_, he119_⟩
  ·skip
   have S126_ := Same.trans S16_ S123_
   refine S_list (T_val (v := (Value.pointer none)) (x_assign rfl) ?_)
   refine wpList_nil ?_
   refine (X_then (hK113_ _ _ ?_))
   clear hK113_
   refine C_seq (fun K128_ hK128_ => ?_)
   refine C_seq (fun K129_ hK129_ => ?_)
   refine C_reg ?_
   refine S_list (T_val (v := (Value.pointer none)) (x_move rfl) ?_)
   refine S_list (T_callW (al := [(Value.pointer none)]) rfl rfl cb69 (Calls.into (n := 13) (al := [(Value.pointer none)]) Try.func69 rfl Try.ntmps69 rfl rfl ?_))
   refine C_seq (fun K130_ hK130_ => ?_)
   refine C_reg ?_
   refine S_list (T_val (v := (Value.bool false)) (x_assign rfl) ?_)
   refine wpList_nil ?_
   refine (X_then (hK130_ _ _ ?_))
   clear hK130_
   refine C_seq (fun K131_ hK131_ => ?_)
   refine C_reg ?_
   refine S_list (T_val (v := (Value.pointer none)) (x_move rfl) ?_)
   refine S_list (T_val (v := (Value.bool true)) (by kernel_rfl) ?_)
   refine S_list (T_val (v := (Value.bool true)) (x_move rfl) ?_)
   refine S_no (j := 2) (dj := 5) (b := true) rfl rfl rfl (by decide) ?_
   refine S_no (j := 2) (dj := 5) (b := true) rfl rfl rfl (by decide) ?_
   refine S_no (j := 2) (dj := 5) (b := true) rfl rfl rfl (by decide) ?_
   refine S_no (j := 2) (dj := 5) (b := true) rfl rfl rfl (by decide) ?_
   refine S_no (j := 2) (dj := 5) (b := true) rfl rfl rfl (by decide) ?_
   refine S_no (j := 2) (dj := 5) (b := true) rfl rfl rfl (by decide) ?_
   refine S_list (T_pickT (v := (Value.bool true)) rfl rfl ?_)
   refine S_list (T_val (v := (Value.bool true)) (x_assign rfl) ?_)
   refine wpList_nil ?_
   refine (X_then (hK131_ _ _ ?_))
   clear hK131_
   refine C_ret ?_
   refine R_any (v := (Value.bool true)) (run_results1 rfl rfl) ⟨_, rfl, ?_⟩
   refine wpList_nil ?_
   refine (X_then (hK129_ _ _ ?_))
   clear hK129_
   refine C_condT rfl ?_
   refine C_seq (fun K132_ hK132_ => ?_)
   refine C_reg ?_
   refine S_list (T_val (v := (Value.agg #[(Value.int .i64 0), (Value.int .i64 0)])) (by kernel_rfl) ?_)
   refine S_list (T_val (v := (Value.agg #[(Value.int .i64 0), (Value.int .i64 0)])) (by kernel_rfl) ?_)
   refine S_list (T_val (v := (Value.iface 122 (Value.string (ByteArray.mk #[109, 118, 99, 99, 58, 32, 114, 101, 118, 105, 115, 105, 111, 110, 32, 110, 111, 116, 32, 102, 111, 117, 110, 100])))) (by kernel_rfl) ?_)
   refine S_list0 (T_storeN (vs := [(Value.int .i64 0), (Value.int .i64 0)]) rfl rfl z58 rfl (by simp [Value.oneCell']) H122_ 3 rfl (Nat.le_of_ble_eq_true (by rfl)) ?_)
   intro w133_ S135_ H134_
   have S136_ := Same.trans S126_ S135_
   refine S_list0 (T_storeN (vs := [(Value.int .i64 0), (Value.int .i64 0)]) rfl rfl z58 rfl (by simp [Value.oneCell']) H134_ 2 rfl (Nat.le_of_ble_eq_true (by rfl)) ?_)
   intro w137_ S139_ H138_
   have S140_ := Same.trans S136_ S139_
   refine S_list (T_val (v := (Value.int .i64 0)) (x_assign rfl) ?_)
   refine S_list (T_val (v := (Value.iface 122 (Value.string (ByteArray.mk #[109, 118, 99, 99, 58, 32, 114, 101, 118, 105, 115, 105, 111, 110, 32, 110, 111, 116, 32, 102, 111, 117, 110, 100])))) (x_assign rfl) ?_)
   refine wpList_nil ?_
   refine (X_then (hK132_ _ _ ?_))
   clear hK132_
   refine C_ret (X_thenR ?_)
   refine R_any (v := (Value.tuple #[(Value.agg #[(Value.int .i64 0), (Value.int .i64 0)]), (Value.agg #[(Value.int .i64 0), (Value.int .i64 0)]), (Value.int .i64 0), (Value.iface 122 (Value.string (ByteArray.mk #[109, 118, 99, 99, 58, 32, 114, 101, 118, 105, 115, 105, 111, 110, 32, 110, 111, 116, 32, 102, 111, 117, 110, 100])))])) (run_results4 rfl ⟨_, rfl, load_resN Try.underlying58 rfl z58 rfl (vs := [(Value.int .i64 0), (Value.int .i64 0)]) (Holds.cl_cells H138_ 3 rfl 0 rfl)⟩ ⟨_, rfl, load_resN Try.underlying58 rfl z58 rfl (vs := [(Value.int .i64 0), (Value.int .i64 0)]) (Holds.cl_cells H138_ 2 rfl 0 rfl)⟩ rfl rfl) ?_
   have H141_ : Holds w137_ (ro R :: cl kb 104 [(Value.slice ka kl kc), (Value.int .i64 m), (Value.int .i64 n), gv] :: F) := (Holds.pkF H138_ [0, 0] 3 :)
   exact ⟨_, _, rfl, (.inl ⟨rfl, rfl, (iGet_none he115_)⟩), S140_, H141_⟩
  ·skip
   replace H122_ : Holds w121_ (ro R :: cl kb 104 [(Value.slice ka kl kc), (Value.int .i64 m), (Value.int .i64 n), gv] :: cl b12_ 58 [(Value.int .i64 0), (Value.int .i64 0)] :: cl b7_ 58 [(Value.int .i64 0), (Value.int .i64 0)] :: cl b2_ 2 [(Value.int .i64 at_)] :: F) := H122_
   have S127_ := Same.trans S16_ S123_
   have hfm_ := List.mem_of_getElem? he119_
   have hfg_ := hg1 x117_ hfm_
   have hfb_ := hb2 x117_ hfm_
   have hfv_ := hbv x117_ hfm_
   refine S_list (T_val (v := (Value.pointer (some ⟨(sb gv), so gv + (j116_ * 4 + 0), none⟩))) (x_assign rfl) ?_)
   refine wpList_nil ?_
   refine (X_then (hK113_ _ _ ?_))
   clear hK113_
   refine C_seq (fun K142_ hK142_ => ?_)
   refine C_seq (fun K143_ hK143_ => ?_)
   refine C_reg ?_
   refine S_list (T_val (v := (Value.pointer (some ⟨(sb gv), so gv + (j116_ * 4 + 0), none⟩))) (x_move rfl) ?_)
   refine S_list (T_callW (al := [(Value.pointer (some ⟨(sb gv), so gv + (j116_ * 4 + 0), none⟩))]) rfl rfl cb69 (Calls.into (n := 13) (al := [(Value.pointer (some ⟨(sb gv), so gv + (j116_ * 4 + 0), none⟩))]) Try.func69 rfl Try.ntmps69 rfl rfl ?_))
   refine C_seq (fun K144_ hK144_ => ?_)
   refine C_reg ?_
   refine S_list (T_val (v := (Value.bool false)) (x_assign rfl) ?_)
   refine wpList_nil ?_
   refine (X_then (hK144_ _ _ ?_))
   clear hK144_
   refine C_seq (fun K145_ hK145_ => ?_)
   refine C_reg ?_
   refine S_list (T_val (v := (Value.pointer (some ⟨(sb gv), so gv + (j116_ * 4 + 0), none⟩))) (x_move rfl) ?_)
   refine S_list (T_val (v := (Value.bool false)) (by kernel_rfl) ?_)
   refine S_list (T_val (v := (Value.bool false)) (x_move rfl) ?_)
   refine S_yes (j := 2) (dj := 5) (b := false) rfl rfl rfl (T_val (v := (Value.pointer (some ⟨(sb gv), so gv + (j116_ * 4 + 0), none⟩))) (x_move rfl) ?_)
   refine S_yes (j := 2) (dj := 5) (b := false) rfl rfl rfl (T_val (v := (Value.pointer (some ⟨(sb gv), so gv + (j116_ * 4 + 0), none⟩))) (by kernel_rfl) ?_)
   refine S_yes (j := 2) (dj := 5) (b := false) rfl rfl rfl (T_val (v := (Value.pointer (some ⟨(sb gv), so gv + (j116_ * 4 + 3), none⟩))) (by kernel_rfl) ?_)
   refine S_yes (j := 2) (dj := 5) (b := false) rfl rfl rfl (T_val (v := x117_.revs) (x_load1 rfl Try.underlying80 rfl (RC.cell (RS.rc h1) (Holds.ro_at H122_ 0 rfl) (j := j116_ * 4 + 3) (u := x117_.revs) (fm_cell GN.len he119_ (i := 3) rfl))) ?_)
   refine S_yes (j := 2) (dj := 5) (b := false) rfl rfl rfl (T_val (v := (Value.int .i64 ((List.length x117_.l) : Int))) (x_lenRS rfl hfg_ Try.underlying80) ?_)
   refine S_yes (j := 2) (dj := 5) (b := false) rfl rfl rfl (T_val (v := (Value.bool (decide (((List.length x117_.l) : Int) = 0)))) (x_bin rfl rfl rfl) ?_)
   refine S_list (T_pickF (v := (Value.bool (decide (((List.length x117_.l) : Int) = 0)))) rfl rfl ?_)
   refine S_list (T_val (v := (Value.bool (decide (((List.length x117_.l) : Int) = 0)))) (x_assign rfl) ?_)
   refine wpList_nil ?_
   refine (X_then (hK145_ _ _ ?_))
   clear hK145_
   refine C_ret ?_
   refine R_any (v := (Value.bool (decide (((List.length x117_.l) : Int) = 0)))) (run_results1 rfl rfl) ⟨_, rfl, ?_⟩
   refine wpList_nil ?_
   refine (X_then (hK143_ _ _ ?_))
   clear hK143_
   refine C_cond (b := decide (((List.length x117_.l) : Int) = 0)) rfl (fun c146_t => ?_) (fun c146_f => ?_)
   ·have c146_tp : ((List.length x117_.l) : Int) = 0 := of_decide_eq_true c146_t
    refine C_seq (fun K147_ hK147_ => ?_)
    refine C_reg ?_
    refine S_list (T_val (v := (Value.agg #[(Value.int .i64 0), (Value.int .i64 0)])) (by kernel_rfl) ?_)
    refine S_list (T_val (v := (Value.agg #[(Value.int .i64 0), (Value.int .i64 0)])) (by kernel_rfl) ?_)
    refine S_list (T_val (v := (Value.iface 122 (Value.string (ByteArray.mk #[109, 118, 99, 99, 58, 32, 114, 101, 118, 105, 115, 105, 111, 110, 32, 110, 111, 116, 32, 102, 111, 117, 110, 100])))) (by kernel_rfl) ?_)
    refine S_list0 (T_storeN (vs := [(Value.int .i64 0), (Value.int .i64 0)]) rfl rfl z58 rfl (by simp [Value.oneCell']) H122_ 3 rfl (Nat.le_of_ble_eq_true (by rfl)) ?_)
    intro w148_ S150_ H149_
    have S151_ := Same.trans S127_ S150_
    refine S_list0 (T_storeN (vs := [(Value.int .i64 0), (Value.int .i64 0)]) rfl rfl z58 rfl (by simp [Value.oneCell']) H149_ 2 rfl (Nat.le_of_ble_eq_true (by rfl)) ?_)
    intro w152_ S154_ H153_
    have S155_ := Same.trans S151_ S154_
    refine S_list (T_val (v := (Value.int .i64 0)) (x_assign rfl) ?_)
    refine S_list (T_val (v := (Value.iface 122 (Value.string (ByteArray.mk #[109, 118, 99, 99, 58, 32, 114, 101, 118, 105, 115, 105, 111, 110, 32, 110, 111, 116, 32, 102, 111, 117, 110, 100])))) (x_assign rfl) ?_)
    refine wpList_nil ?_
    refine (X_then (hK147_ _ _ ?_))
    clear hK147_
    refine C_ret (X_thenR ?_)
    refine R_any (v := (Value.tuple #[(Value.agg #[(Value.int .i64 0), (Value.int .i64 0)]), (Value.agg #[(Value.int .i64 0), (Value.int .i64 0)]), (Value.int .i64 0), (Value.iface 122 (Value.string (ByteArray.mk #[109, 118, 99, 99, 58, 32, 114, 101, 118, 105, 115, 105, 111, 110, 32, 110, 111, 116, 32, 102, 111, 117, 110, 100])))])) (run_results4 rfl ⟨_, rfl, load_resN Try.underlying58 rfl z58 rfl (vs := [(Value.int .i64 0), (Value.int .i64 0)]) (Holds.cl_cells H153_ 3 rfl 0 rfl)⟩ ⟨_, rfl, load_resN Try.underlying58 rfl z58 rfl (vs := [(Value.int .i64 0), (Value.int .i64 0)]) (Holds.cl_cells H153_ 2 rfl 0 rfl)⟩ rfl rfl) ?_
    have H156_ : Holds w152_ (ro R :: cl kb 104 [(Value.slice ka kl kc), (Value.int .i64 m), (Value.int .i64 n), gv] :: F) := (Holds.pkF H153_ [0, 0] 3 :)
    exact ⟨_, _, rfl, (.inl ⟨rfl, rfl, (iGet_emp he118_ he119_ c146_tp)⟩), S155_, H156_⟩
   ·have c146_fp : ¬ (((List.length x117_.l) : Int) = 0) := of_decide_eq_false c146_f
    refine C_skip (X_then (hK142_ _ _ ?_))
    clear hK142_
    refine C_seq (fun K157_ hK157_ => ?_)
    refine C_reg ?_
    refine S_list (T_val (v := (Value.pointer (some ⟨(sb gv), so gv + (j116_ * 4 + 0), none⟩))) (x_move rfl) ?_)
    refine S_list (T_val (v := (Value.func (.func 72) #[] #[(Value.pointer (some ⟨b2_, 0, none⟩))])) (by kernel_rfl) ?_)
    have H159_ := ((Holds.bring (Holds.bring H122_ 4 rfl) 1 rfl) :)
    refine S_list (T_call (al := [(Value.pointer (some ⟨(sb gv), so gv + (j116_ * 4 + 0), none⟩)), (Value.func (.func 72) #[] #[(Value.pointer (some ⟨b2_, 0, none⟩))])]) (pre := [cl b2_ 2 [(Value.int .i64 at_)]]) rfl rfl cb71 (kWalk R gv N j116_ x117_ b2_ at_ h1 (he119_) (hfg_) (hfb_)) H159_ ?_)
    rintro v158_ p163_ w160_ ⟨rfl, rfl⟩ S162_ H161_
    have S164_ := Same.trans S127_ S162_
    refine S_list (T_val (v := (Value.int .i64 ((rLastN x117_.l at_ x117_.l.length : Int) - 1))) (x_assign rfl) ?_)
    refine wpList_nil ?_
    refine (X_then (hK157_ _ _ ?_))
    clear hK157_
    refine C_seq (fun K165_ hK165_ => ?_)
    refine C_seq (fun K166_ hK166_ => ?_)
    refine C_reg ?_
    refine S_list (T_val (v := (Value.int .i64 ((rLastN x117_.l at_ x117_.l.length : Int) - 1))) (x_move rfl) ?_)
    refine S_list (T_val (v := (Value.bool (decide ((rLastN x117_.l at_ x117_.l.length : Int) - 1 ≠ -1)))) (x_bin rfl rfl rfl) ?_)
    refine wpList_nil ?_
    refine (X_then (hK166_ _ _ ?_))
    clear hK166_
    refine C_cond (b := decide ((rLastN x117_.l at_ x117_.l.length : Int) - 1 ≠ -1)) rfl (fun c167_t => ?_) (fun c167_f => ?_)
    ·have c167_tp : (rLastN x117_.l at_ x117_.l.length : Int) - 1 ≠ -1 := of_decide_eq_true c167_t
     have hrl_ := rLastN_le x117_.l at_ x117_.l.length
     refine C_seq (fun K168_ hK168_ => ?_)
     refine A_start (S := fun w => Sub R (hp w)) (N := 28) foll rfl rfl ?_
     have H169_ := Holds.drew_ H161_
     have hq170_ := ((Holds.ro_at H169_ 0 rfl))
     refine A_tk 0 (v := (Value.pointer (some ⟨(sb gv), so gv + (j116_ * 4 + 0), none⟩))) rfl (by kernel_rfl) (fun w hS => x_move rfl) hq170_ ?_
     refine A_tk 1 (v := (Value.pointer (some ⟨(sb gv), so gv + (j116_ * 4 + 0), none⟩))) rfl (by kernel_rfl) (fun w hS => by kernel_rfl) hq170_ ?_
     refine A_tk 2 (v := (Value.pointer (some ⟨(sb gv), so gv + (j116_ * 4 + 3), none⟩))) rfl (by kernel_rfl) (fun w hS => by kernel_rfl) hq170_ ?_
     refine A_tk 3 (v := x117_.revs) rfl (by kernel_rfl) (fun w hS => x_load1 rfl Try.underlying80 rfl (RC.cell (RS.rc h1) hS (j := j116_ * 4 + 3) (u := x117_.revs) (fm_cell GN.len he119_ (i := 3) rfl))) hq170_ ?_
     refine A_tk 4 (v := (Value.int .i64 ((rLastN x117_.l at_ x117_.l.length : Int) - 1))) rfl (by kernel_rfl) (fun w hS => x_move rfl) hq170_ ?_
     obtain ⟨x171_, hx172_, hm173_⟩ := elem_at x117_.l (((rLastN x117_.l at_ x117_.l.length : Int) - 1).toNat) (by omega)
     refine A_tk 5 (v := (Value.pointer (some ⟨(sb x117_.revs), so x117_.revs + ((((rLastN x117_.l at_ x117_.l.length : Int) - 1).toNat) * 2 + 0), none⟩))) rfl (by kernel_rfl) (fun w hS => x_idxRS (v := x117_.revs) rfl hfg_ rfl Try.underlying80 z58 (by omega) (by omega) (by omega : _ = ((rLastN x117_.l at_ x117_.l.length : Int) - 1).toNat) rfl) hq170_ ?_
     refine A_tk 6 (v := (Value.agg #[(Value.int .i64 x171_.main), (Value.int .i64 x171_.sub)])) rfl (by kernel_rfl) (fun w hS => x_loadN (vs := [(Value.int .i64 x171_.main), (Value.int .i64 x171_.sub)]) rfl Try.underlying58 rfl z58 rfl (RC.cells (RS.rc hfg_) hS ((((rLastN x117_.l at_ x117_.l.length : Int) - 1).toNat) * 2 + 0) (fm_cells RV.len hx172_ (i := 0) rfl))) hq170_ ?_
     refine A_tk 7 (v := (Value.pointer (some ⟨(sb gv), so gv + (j116_ * 4 + 0), none⟩))) rfl (by kernel_rfl) (fun w hS => x_move rfl) hq170_ ?_
     refine A_tk 8 (v := (Value.pointer (some ⟨(sb gv), so gv + (j116_ * 4 + 0), none⟩))) rfl (by kernel_rfl) (fun w hS => by kernel_rfl) hq170_ ?_
     refine A_tk 9 (v := (Value.pointer (some ⟨(sb gv), so gv + (j116_ * 4 + 1), none⟩))) rfl (by kernel_rfl) (fun w hS => by kernel_rfl) hq170_ ?_
     refine A_tk 10 (v := (Value.agg #[(Value.int .i64 x117_.created_Main), (Value.int .i64 x117_.created_Sub)])) rfl (by kernel_rfl) (fun w hS => x_loadN (vs := [(Value.int .i64 x117_.created_Main), (Value.int .i64 x117_.created_Sub)]) rfl Try.underlying58 rfl z58 rfl (RC.cells (RS.rc h1) hS (j116_ * 4 + 1) (fm_cells GN.len he119_ (i := 1) rfl))) hq170_ ?_
     refine A_tk 11 (v := (Value.pointer (some ⟨(sb gv), so gv + (j116_ * 4 + 0), none⟩))) rfl (by kernel_rfl) (fun w hS => x_move rfl) hq170_ ?_
     refine A_tk 12 (v := (Value.pointer (some ⟨(sb gv), so gv + (j116_ * 4 + 0), none⟩))) rfl (by kernel_rfl) (fun w hS => by kernel_rfl) hq170_ ?_
     refine A_tk 13 (v := (Value.pointer (some ⟨(sb gv), so gv + (j116_ * 4 + 0), none⟩))) rfl (by kernel_rfl) (fun w hS => by kernel_rfl) hq170_ ?_
     refine A_tk 14 (v := (Value.int .i64 x117_.ver)) rfl (by kernel_rfl) (fun w hS => x_load1 rfl Try.underlying2 rfl (RC.cell (RS.rc h1) hS (j := j116_ * 4 + 0) (u := (Value.int .i64 x117_.ver)) (fm_cell GN.len he119_ (i := 0) rfl))) hq170_ ?_
     refine A_tk 15 (v := (Value.pointer (some ⟨(sb gv), so gv + (j116_ * 4 + 0), none⟩))) rfl (by kernel_rfl) (fun w hS => x_move rfl) hq170_ ?_
     refine A_tk 16 (v := (Value.pointer (some ⟨(sb gv), so gv + (j116_ * 4 + 0), none⟩))) rfl (by kernel_rfl) (fun w hS => by kernel_rfl) hq170_ ?_
     refine A_tk 17 (v := (Value.pointer (some ⟨(sb gv), so gv + (j116_ * 4 + 3), none⟩))) rfl (by kernel_rfl) (fun w hS => by kernel_rfl) hq170_ ?_
     refine A_tk 18 (v := x117_.revs) rfl (by kernel_rfl) (fun w hS => x_load1 rfl Try.underlying80 rfl (RC.cell (RS.rc h1) hS (j := j116_ * 4 + 3) (u := x117_.revs) (fm_cell GN.len he119_ (i := 3) rfl))) hq170_ ?_
     refine A_tk 19 (v := (Value.int .i64 ((List.length x117_.l) : Int))) rfl (by kernel_rfl) (fun w hS => x_lenRS rfl hfg_ Try.underlying80) hq170_ ?_
     refine A_tk 20 (v := (Value.int .i64 ((rLastN x117_.l at_ x117_.l.length : Int) - 1))) rfl (by kernel_rfl) (fun w hS => x_move rfl) hq170_ ?_
     refine A_tk 21 (v := (Value.int .i64 (((List.length x117_.l) : Int) - ((rLastN x117_.l at_ x117_.l.length : Int) - 1)))) rfl (by kernel_rfl) (fun w hS => x_bin rfl rfl (ib_sub (IntWalk.i64_in _ (by omega)))) hq170_ ?_
     refine A_tk 22 (v := (Value.int .i64 ((((List.length x117_.l) : Int) - ((rLastN x117_.l at_ x117_.l.length : Int) - 1)) - 1))) rfl (by kernel_rfl) (fun w hS => x_bin rfl rfl (ib_sub (IntWalk.i64_in _ (by omega)))) hq170_ ?_
     refine A_tk 23 (v := (Value.int .i64 (x117_.ver - ((((List.length x117_.l) : Int) - ((rLastN x117_.l at_ x117_.l.length : Int) - 1)) - 1)))) rfl (by kernel_rfl) (fun w hS => x_bin rfl rfl (ib_sub (IntWalk.i64_in _ (by omega)))) hq170_ ?_
     refine A_ready (i := 24) (rs := []) (by kernel_rfl) ?_
     refine AllR.cons ?_ AllR.nil
     refine A_op0 (ls' := #[true, true, true, true, true, true, true, true, true, true, true, true, true, true, true, true, true, true, true, true, true, true, true, true, true, false, false, false]) rfl (by kernel_rfl) (T_storeN (vs := [(Value.int .i64 x171_.main), (Value.int .i64 x171_.sub)]) rfl rfl z58 rfl (by simp [Value.oneCell']) H169_ 4 rfl (Nat.le_of_ble_eq_true (by rfl)) ?_)
     intro w174_ S176_ H175_
     replace H175_ : Holds w174_ (ro R :: cl b2_ 2 [(Value.int .i64 at_)] :: cl kb 104 [(Value.slice ka kl kc), (Value.int .i64 m), (Value.int .i64 n), gv] :: cl b12_ 58 [(Value.int .i64 0), (Value.int .i64 0)] :: cl b7_ 58 [(Value.int .i64 x171_.main), (Value.int .i64 x171_.sub)] :: F) := H175_
     have S177_ := Same.trans (Same.trans S164_ (Same.drew _)) S176_
     refine ⟨((Holds.ro_at H175_ 0 rfl)), ?_⟩
     refine A_ready (i := 25) (rs := []) (by kernel_rfl) ?_
     refine AllR.cons ?_ AllR.nil
     refine A_op0 (ls' := #[true, true, true, true, true, true, true, true, true, true, true, true, true, true, true, true, true, true, true, true, true, true, true, true, true, true, false, false]) rfl (by kernel_rfl) (T_storeN (vs := [(Value.int .i64 x117_.created_Main), (Value.int .i64 x117_.created_Sub)]) rfl rfl z58 rfl (by simp [Value.oneCell']) H175_ 3 rfl (Nat.le_of_ble_eq_true (by rfl)) ?_)
     intro w178_ S180_ H179_
     have S181_ := Same.trans S177_ S180_
     refine ⟨((Holds.ro_at H179_ 0 rfl)), ?_⟩
     have hq182_ := ((Holds.ro_at H179_ 0 rfl))
     refine A_tk 26 (v := (Value.int .i64 (x117_.ver - ((((List.length x117_.l) : Int) - ((rLastN x117_.l at_ x117_.l.length : Int) - 1)) - 1)))) rfl (by kernel_rfl) (fun w hS => x_assign rfl) hq182_ ?_
     refine A_tk 27 (v := (Value.nilIface)) rfl (by kernel_rfl) (fun w hS => x_assign rfl) hq182_ ?_
     refine A_done (by kernel_rfl) ?_
     refine (X_then (hK168_ _ _ ?_))
     clear hK168_
     refine C_ret (X_thenR ?_)
     refine R_any (v := (Value.tuple #[(Value.agg #[(Value.int .i64 x171_.main), (Value.int .i64 x171_.sub)]), (Value.agg #[(Value.int .i64 x117_.created_Main), (Value.int .i64 x117_.created_Sub)]), (Value.int .i64 (x117_.ver - ((((List.length x117_.l) : Int) - ((rLastN x117_.l at_ x117_.l.length : Int) - 1)) - 1))), (Value.nilIface)])) (run_results4 rfl ⟨_, rfl, load_resN Try.underlying58 rfl z58 rfl (vs := [(Value.int .i64 x171_.main), (Value.int .i64 x171_.sub)]) (Holds.cl_cells H179_ 4 rfl 0 rfl)⟩ ⟨_, rfl, load_resN Try.underlying58 rfl z58 rfl (vs := [(Value.int .i64 x117_.created_Main), (Value.int .i64 x117_.created_Sub)]) (Holds.cl_cells H179_ 3 rfl 0 rfl)⟩ rfl rfl) ?_
     have H183_ : Holds w178_ (ro R :: cl kb 104 [(Value.slice ka kl kc), (Value.int .i64 m), (Value.int .i64 n), gv] :: F) := (Holds.pkF H179_ [0, 1] 3 :)
     exact ⟨_, _, rfl, (.inr ⟨x171_.main, x171_.sub, x117_.created_Main, x117_.created_Sub, x117_.ver - ((((List.length x117_.l) : Int) - ((rLastN x117_.l at_ x117_.l.length : Int) - 1)) - 1), rfl, rfl, (iGet_yes he118_ he119_ c146_fp c167_tp hx172_)⟩), S181_, H183_⟩
    ·have c167_fp : ¬ ((rLastN x117_.l at_ x117_.l.length : Int) - 1 ≠ -1) := of_decide_eq_false c167_f
     have hrl_ := rLastN_le x117_.l at_ x117_.l.length
     refine C_skip (X_then (hK165_ _ _ ?_))
     clear hK165_
     refine C_seq (fun K184_ hK184_ => ?_)
     refine C_reg ?_
     refine S_list (T_val (v := (Value.agg #[(Value.int .i64 0), (Value.int .i64 0)])) (by kernel_rfl) ?_)
     refine S_list (T_val (v := (Value.agg #[(Value.int .i64 0), (Value.int .i64 0)])) (by kernel_rfl) ?_)
     refine S_list (T_val (v := (Value.iface 122 (Value.string (ByteArray.mk #[109, 118, 99, 99, 58, 32, 114, 101, 118, 105, 115, 105, 111, 110, 32, 110, 111, 116, 32, 102, 111, 117, 110, 100])))) (by kernel_rfl) ?_)
     refine S_list0 (T_storeN (vs := [(Value.int .i64 0), (Value.int .i64 0)]) rfl rfl z58 rfl (by simp [Value.oneCell']) H161_ 4 rfl (Nat.le_of_ble_eq_true (by rfl)) ?_)
     intro w185_ S187_ H186_
     have S188_ := Same.trans S164_ S187_
     refine S_list0 (T_storeN (vs := [(Value.int .i64 0), (Value.int .i64 0)]) rfl rfl z58 rfl (by simp [Value.oneCell']) H186_ 3 rfl (Nat.le_of_ble_eq_true (by rfl)) ?_)
     intro w189_ S191_ H190_
     have S192_ := Same.trans S188_ S191_
     refine S_list (T_val (v := (Value.int .i64 0)) (x_assign rfl) ?_)
     refine S_list (T_val (v := (Value.iface 122 (Value.string (ByteArray.mk #[109, 118, 99, 99, 58, 32, 114, 101, 118, 105, 115, 105, 111, 110, 32, 110, 111, 116, 32, 102, 111, 117, 110, 100])))) (x_assign rfl) ?_)
     refine wpList_nil ?_
     refine (X_then (hK184_ _ _ ?_))
     clear hK184_
     refine C_ret ?_
     refine R_any (v := (Value.tuple #[(Value.agg #[(Value.int .i64 0), (Value.int .i64 0)]), (Value.agg #[(Value.int .i64 0), (Value.int .i64 0)]), (Value.int .i64 0), (Value.iface 122 (Value.string (ByteArray.mk #[109, 118, 99, 99, 58, 32, 114, 101, 118, 105, 115, 105, 111, 110, 32, 110, 111, 116, 32, 102, 111, 117, 110, 100])))])) (run_results4 rfl ⟨_, rfl, load_resN Try.underlying58 rfl z58 rfl (vs := [(Value.int .i64 0), (Value.int .i64 0)]) (Holds.cl_cells H190_ 4 rfl 0 rfl)⟩ ⟨_, rfl, load_resN Try.underlying58 rfl z58 rfl (vs := [(Value.int .i64 0), (Value.int .i64 0)]) (Holds.cl_cells H190_ 3 rfl 0 rfl)⟩ rfl rfl) ?_
     have H193_ : Holds w189_ (ro R :: cl kb 104 [(Value.slice ka kl kc), (Value.int .i64 m), (Value.int .i64 n), gv] :: F) := (Holds.pkF H190_ [0, 1] 3 :)
     exact ⟨_, _, rfl, (.inl ⟨rfl, rfl, (iGet_no he118_ he119_ c146_fp c167_fp)⟩), S192_, H193_⟩
end Go.Proofs.Ytiblemgccgbhoaa
