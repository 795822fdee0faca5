/- Ranges alone overlap nothing. -/
import Derived.Test.YtlnihndjepjagaaCkO0
set_option linter.unusedVariables false
set_option linter.unusedSimpArgs false
namespace Go.Proofs.Ytlnihndjepjagaa
open Go Go.RowKit Gw

set_option maxHeartbeats 400000 in
theorem ckNewIv (R : HP) (i1 i2 : ByteArray) :
    Tri Try.prog 52 #[(Value.string i1), (Value.string i2)] R [] (fun v__ post__ => v__ = (Value.agg #[(Value.iface 166 (Value.string i1)), (Value.iface 166 (Value.string i2))]) ∧ post__ = []) := by
 refine Tri.into (n := 10) (al := [(Value.string i1), (Value.string i2)]) Try.func52 rfl Try.ntmps52 rfl rfl fun w F H => ?_
 refine C_seq (fun K1_ hK1_ => ?_)
 refine C_reg ?_
 refine S_list (T_alloc z111 H ?_)
 intro b2_ w3_ S5_ H4_
 have S6_ := Same.trans (Same.refl w) S5_
 refine wpList_nil ?_
 refine (X_then (hK1_ _ _ ?_))
 clear hK1_
 refine C_seq (fun K7_ hK7_ => ?_)
 refine C_reg ?_
 refine S_list (T_val (v := (Value.string i1)) (x_move rfl) ?_)
 refine S_list (T_val (v := (Value.iface 166 (Value.string i1))) (by kernel_rfl) ?_)
 refine S_list (T_val (v := (Value.string i2)) (x_move rfl) ?_)
 refine S_list (T_val (v := (Value.iface 166 (Value.string i2))) (by kernel_rfl) ?_)
 refine S_list (T_val (v := (Value.agg #[(Value.iface 166 (Value.string i1)), (Value.iface 166 (Value.string i2))])) (by kernel_rfl) ?_)
 refine S_list0 (T_storeN (vs := [(Value.iface 166 (Value.string i1)), (Value.iface 166 (Value.string i2))]) rfl rfl z111 rfl (by simp [Value.oneCell']) H4_ 0 rfl (Nat.le_of_ble_eq_true (by rfl)) ?_)
 intro w8_ S10_ H9_
 replace H9_ : Holds w8_ (cl b2_ 111 [(Value.iface 166 (Value.string i1)), (Value.iface 166 (Value.string i2))] :: ro R :: F) := H9_
 have S11_ := Same.trans S6_ S10_
 refine wpList_nil ?_
 refine (X_then (hK7_ _ _ ?_))
 clear hK7_
 refine C_ret ?_
 refine R_any (v := (Value.agg #[(Value.iface 166 (Value.string i1)), (Value.iface 166 (Value.string i2))])) (run_results1 rfl ⟨_, rfl, load_resN Try.underlying111 rfl z111 rfl (vs := [(Value.iface 166 (Value.string i1)), (Value.iface 166 (Value.string i2))]) (Holds.cl_cells H9_ 0 rfl 0 rfl)⟩) ?_
 have H12_ : Holds w8_ (ro R :: F) := (Holds.pkF H9_ [1] 1 :)
 exact ⟨_, _, rfl, ⟨rfl, rfl⟩, S11_, H12_⟩

set_option maxHeartbeats 2000000 in
theorem ckIntervals_step (R : HP) (v : Value) (T : List Nat) (L : List RT) (n__ : Nat) (hv : RS R 1 v (List.length T) (T.map pv)) (hT : All2 (OpAt R) T L) (hP : ∀ y ∈ L, Pln y) (hl : L.length ≤ 200) (hn__ : (lsz L) ≤ n__) (ih : ∀ (R : HP) (v : Value) (T : List Nat) (L : List RT) (hv : RS R 1 v (List.length T) (T.map pv)) (hT : All2 (OpAt R) T L) (hP : ∀ y ∈ L, Pln y) (hl : L.length ≤ 200) (hms : (lsz L) < n__), Tri Try.prog 72 #[v] R [] (fun v__ post__ => ∃ (mb tb sb : Nat), v__ = (Value.tuple #[(Value.map (some mb)), (Value.iface 186 (Value.pointer (some ⟨tb, 0, none⟩))), (Value.nilIface)]) ∧ post__ = [mp Value.string mb [], cl tb 188 [(Value.pointer (some ⟨sb, 0, none⟩)), (Value.int .i64 0), (Value.pointer (some ⟨sb, 0, none⟩))], cl sb 185 [(Value.nilIface), (Value.nilIface), (Value.nilIface), (Value.nilIface), (Value.pointer none), (Value.pointer none), (Value.pointer none), (Value.int .i64 0)]])) :
    Tri Try.prog 72 #[v] R [] (fun v__ post__ => ∃ (mb tb sb : Nat), v__ = (Value.tuple #[(Value.map (some mb)), (Value.iface 186 (Value.pointer (some ⟨tb, 0, none⟩))), (Value.nilIface)]) ∧ post__ = [mp Value.string mb [], cl tb 188 [(Value.pointer (some ⟨sb, 0, none⟩)), (Value.int .i64 0), (Value.pointer (some ⟨sb, 0, none⟩))], cl sb 185 [(Value.nilIface), (Value.nilIface), (Value.nilIface), (Value.nilIface), (Value.pointer none), (Value.pointer none), (Value.pointer none), (Value.int .i64 0)]]) := by
 have hT1 := hT.1
 refine Tri.into (n := 270) (al := [v]) Try.func72 rfl Try.ntmps72 rfl rfl fun w F H => ?_
 refine C_seq (fun K1_ hK1_ => ?_)
 refine C_reg ?_
 refine S_list (T_val (v := (Value.map none)) (x_assign rfl) ?_)
 refine S_list (T_val (v := (Value.nilIface)) (x_assign rfl) ?_)
 refine S_list (T_val (v := (Value.nilIface)) (x_assign rfl) ?_)
 refine wpList_nil ?_
 refine (X_then (hK1_ _ _ ?_))
 clear hK1_
 refine C_seq (fun K2_ hK2_ => ?_)
 refine C_reg ?_
 refine S_list (T_callW (al := []) rfl rfl cb62 (Calls.into (n := 10) (al := []) Try.func62 rfl Try.ntmps62 rfl rfl ?_))
 refine C_seq (fun K3_ hK3_ => ?_)
 refine C_reg ?_
 refine S_list (T_val (v := (Value.nilIface)) (x_assign rfl) ?_)
 refine wpList_nil ?_
 refine (X_then (hK3_ _ _ ?_))
 clear hK3_
 refine C_seq (fun K4_ hK4_ => ?_)
 refine C_reg ?_
 refine S_list (T_val (v := (Value.agg #[(Value.nilIface), (Value.nilIface), (Value.nilIface)])) (by kernel_rfl) ?_)
 refine S_list (T_val (v := (Value.agg #[(Value.nilIface), (Value.nilIface), (Value.nilIface), (Value.nilIface), (Value.pointer none), (Value.pointer none), (Value.pointer none), (Value.int .i64 0)])) (by kernel_rfl) ?_)
 refine S_list (T_box (v := (Value.agg #[(Value.nilIface), (Value.nilIface), (Value.nilIface), (Value.nilIface), (Value.pointer none), (Value.pointer none), (Value.pointer none), (Value.int .i64 0)])) rfl H ?_)
 intro b5_ w6_ S8_ H7_
 have S9_ := Same.trans (Same.refl w) S8_
 refine S_list (T_val (v := (Value.pointer (some ⟨b5_, 0, none⟩))) (x_assign rfl) ?_)
 refine wpList_nil ?_
 refine (X_then (hK4_ _ _ ?_))
 clear hK4_
 refine C_seq (fun K10_ hK10_ => ?_)
 refine C_reg ?_
 refine S_list (T_val (v := (Value.pointer (some ⟨b5_, 0, none⟩))) (x_move rfl) ?_)
 refine S_list (T_val (v := (Value.pointer (some ⟨b5_, 0, none⟩))) (x_move rfl) ?_)
 refine S_list (T_val (v := (Value.agg #[(Value.pointer (some ⟨b5_, 0, none⟩)), (Value.int .i64 0), (Value.pointer (some ⟨b5_, 0, none⟩))])) (by kernel_rfl) ?_)
 refine S_list (T_box (v := (Value.agg #[(Value.pointer (some ⟨b5_, 0, none⟩)), (Value.int .i64 0), (Value.pointer (some ⟨b5_, 0, none⟩))])) rfl H7_ ?_)
 intro b11_ w12_ S14_ H13_
 replace H13_ : Holds w12_ (cl b11_ 188 [(Value.pointer (some ⟨b5_, 0, none⟩)), (Value.int .i64 0), (Value.pointer (some ⟨b5_, 0, none⟩))] :: cl b5_ 185 [(Value.nilIface), (Value.nilIface), (Value.nilIface), (Value.nilIface), (Value.pointer none), (Value.pointer none), (Value.pointer none), (Value.int .i64 0)] :: ro R :: F) := H13_
 have S15_ := Same.trans S9_ S14_
 refine S_list (T_val (v := (Value.iface 186 (Value.pointer (some ⟨b11_, 0, none⟩)))) (by kernel_rfl) ?_)
 refine S_list (T_val (v := (Value.iface 186 (Value.pointer (some ⟨b11_, 0, none⟩)))) (x_assign rfl) ?_)
 refine wpList_nil ?_
 refine (X_then (hK10_ _ _ ?_))
 clear hK10_
 refine C_ret ?_
 refine R_any (v := (Value.iface 186 (Value.pointer (some ⟨b11_, 0, none⟩)))) (run_results1 rfl rfl) ⟨_, rfl, ?_⟩
 refine S_list (T_val (v := (Value.iface 186 (Value.pointer (some ⟨b11_, 0, none⟩)))) (x_assign rfl) ?_)
 refine wpList_nil ?_
 refine (X_then (hK2_ _ _ ?_))
 clear hK2_
 refine C_seq (fun K16_ hK16_ => ?_)
 refine C_seq (fun K17_ hK17_ => ?_)
 refine C_reg ?_
 refine S_list (T_val (v := v) (x_move rfl) ?_)
 refine S_list (T_val (v := (Value.int .i64 ((List.length T) : Int))) (x_lenRS rfl hv Try.underlying104) ?_)
 refine S_list (T_val (v := (Value.int .i64 0)) (x_move rfl) ?_)
 refine wpList_nil ?_
 refine (X_then (hK17_ _ _ ?_))
 clear hK17_
 refine C_block ?_
 refine C_loop (γ := Nat) (fun k a__ w1__ => ∃ h : Env, a__ = mkA 270 (upd (upd (upd (upd (upd (upd (upd (upd h 0 v) 2 (Value.map none)) 3 (Value.nilIface)) 4 (Value.nilIface)) 5 (Value.iface 186 (Value.pointer (some ⟨b11_, 0, none⟩)))) 38 v) 39 (Value.int .i64 ((List.length T) : Int))) 40 (Value.int .i64 (k : Int))) [] ∧ Holds w1__ (cl b11_ 188 [(Value.pointer (some ⟨b5_, 0, none⟩)), (Value.int .i64 0), (Value.pointer (some ⟨b5_, 0, none⟩))] :: cl b5_ 185 [(Value.nilIface), (Value.nilIface), (Value.nilIface), (Value.nilIface), (Value.pointer none), (Value.pointer none), (Value.pointer none), (Value.int .i64 0)] :: ro R :: F) ∧ Same w w1__ ∧ (k ≤ T.length)) (fun k => T.length - k) (0) ⟨_, congrArg (fun e => mkA 270 e []) (ch (ch (ch (ch (ch (ch (ch (ch rfl rfl) rfl) rfl) rfl) rfl) rfl) rfl) (congrArg (Value.int .i64) ((by first | rfl | omega | (simp; done) | (simp; omega)) : 0 = (0 : Int)))), H13_, S15_, (by first | assumption | omega | exact rfl)⟩ ?_
 rintro k _ w18_ ⟨h, rfl, H19_, S20_, hkk⟩
 refine C_seq (fun K21_ hK21_ => ?_)
 refine C_reg ?_
 refine S_list (T_val (v := (Value.bool (decide ((k : Int) < ((List.length T) : Int))))) (x_bin rfl rfl rfl) ?_)
 refine wpList_nil ?_
 refine (X_then (hK21_ _ _ ?_))
 clear hK21_
 refine C_seq (fun K22_ hK22_ => ?_)
 refine C_cond (b := decide ((k : Int) < ((List.length T) : Int))) rfl (fun c23_t => ?_) (fun c23_f => ?_)
 ·have c23_tp : (k : Int) < ((List.length T) : Int) := of_decide_eq_true c23_t
  refine C_skip (X_then (hK22_ _ _ ?_))
  clear hK22_
  refine C_seq (fun K24_ hK24_ => ?_)
  refine C_block ?_
  refine C_seq (fun K25_ hK25_ => ?_)
  refine C_reg ?_
  obtain ⟨p26_, hx27_, hm28_⟩ := elem_at T k (by omega)
  obtain ⟨y29_, hy30_, q31_o⟩ := hT.at_ hx27_
  have q31_m := List.mem_of_getElem? hy30_
  have := RT.sz_mem q31_m
  have := y29_.sz_tt
  have := y29_.sz_ee
  refine S_list (T_val (v := (Value.pointer (some ⟨(sb v), so v + k, none⟩))) (x_idxRS (v := v) rfl hv rfl Try.underlying104 z149 (by omega) (by omega) (by omega : _ = k) (by rw [Nat.mul_one])) ?_)
  refine S_list (T_val (v := (Value.pointer (some ⟨p26_, 0, none⟩))) (x_load1 rfl Try.underlying149 rfl (RC.cell (RS.rc hv) (Holds.ro_at H19_ 2 rfl) (j := k) (u := (Value.pointer (some ⟨p26_, 0, none⟩))) ((map_at hx27_)))) ?_)
  refine S_list (T_val (v := (Value.pointer (some ⟨p26_, 0, none⟩))) (x_assign rfl) ?_)
  refine wpList_nil ?_
  refine (X_then (hK25_ _ _ ?_))
  clear hK25_
  refine C_seq (fun K32_ hK32_ => ?_)
  refine C_reg ?_
  refine S_list (T_val (v := (Value.pointer (some ⟨p26_, 0, none⟩))) (x_move rfl) ?_)
  refine S_list (T_val (v := (Value.pointer (some ⟨p26_, 0, none⟩))) (by kernel_rfl) ?_)
  refine S_list (T_val (v := (Value.pointer (some ⟨p26_, 0, none⟩))) (by kernel_rfl) ?_)
  rcases q31_o.inv with ⟨f33_b1, f33_b2, f33_h1, f33_hc, f33_hc1, f33_hr⟩ | ⟨f33_b1, f33_b2, f33_h4, f33_hc, f33_hc1, f33_v1, f33_v2, f33_v3, f33_C, f33_T, f33_E, f33_hrc, f33_hv1, f33_hv2, f33_hv3, f33_hC, f33_hT, f33_hE⟩
  ·skip
   refine S_list (T_val (v := (Value.iface 150 (Value.pointer (some ⟨f33_b1, 0, none⟩)))) (x_load1 rfl Try.underlying20 rfl (RC.cell f33_hc (Holds.ro_at H19_ 2 rfl) (j := 0) (u := (Value.iface 150 (Value.pointer (some ⟨f33_b1, 0, none⟩)))) (rfl))) ?_)
   refine S_list (T_val (v := (Value.tuple #[(Value.pointer none), (Value.bool false)])) (by kernel_rfl) ?_)
   refine S_list (T_val (v := (Value.tuple #[(Value.pointer none), (Value.bool false)])) (x_move rfl) ?_)
   refine S_list (T_val (v := (Value.pointer none)) (by kernel_rfl) ?_)
   refine S_list (T_val (v := (Value.bool false)) (by kernel_rfl) ?_)
   refine S_list (T_val (v := (Value.pointer none)) (x_assign rfl) ?_)
   refine S_list (T_val (v := (Value.bool false)) (x_assign rfl) ?_)
   refine wpList_nil ?_
   refine (X_then (hK32_ _ _ ?_))
   clear hK32_
   refine C_seq (fun K34_ hK34_ => ?_)
   refine C_seq (fun K35_ hK35_ => ?_)
   refine C_reg ?_
   refine S_list (T_val (v := (Value.bool false)) (x_move rfl) ?_)
   refine S_list (T_val (v := (Value.bool true)) (x_cast (x_not (b := false) rfl) rfl) ?_)
   refine wpList_nil ?_
   refine (X_then (hK35_ _ _ ?_))
   clear hK35_
   refine C_condT rfl ?_
   refine C_exit (X_thenX (X_blkHit ?_))
   refine (X_then (hK24_ _ _ ?_))
   clear hK24_
   refine C_reg ?_
   refine S_list (T_val (v := (Value.int .i64 ((k : Int) + 1))) (x_bin rfl rfl (ib_add (IntWalk.i64_in _ (by omega)))) ?_)
   refine S_list (T_val (v := (Value.int .i64 ((k : Int) + 1))) (x_move rfl) ?_)
   refine wpList_nil ?_
   refine (X_then ?_)
   exact ⟨(k + 1), ⟨_, congrArg (fun e => mkA 270 e []) (ch (ch (ch (ch (ch (ch (ch (ch rfl rfl) rfl) rfl) rfl) rfl) rfl) rfl) (congrArg (Value.int .i64) ((by first | rfl | omega | (simp; done) | (simp; omega)) : (k : Int) + 1 = ((k + 1 : Nat) : Int)))), H19_, S20_, (by first | assumption | omega | exact rfl)⟩, by first | omega | (dsimp only; omega) | (simp; omega)⟩
  ·skip
   have f33_bd := (hP y29_ q31_m).b f33_h4
   refine S_list (T_val (v := (Value.iface 161 (Value.pointer (some ⟨f33_b1, 0, none⟩)))) (x_load1 rfl Try.underlying20 rfl (RC.cell f33_hc (Holds.ro_at H19_ 2 rfl) (j := 0) (u := (Value.iface 161 (Value.pointer (some ⟨f33_b1, 0, none⟩)))) (rfl))) ?_)
   refine S_list (T_val (v := (Value.tuple #[(Value.pointer none), (Value.bool false)])) (by kernel_rfl) ?_)
   refine S_list (T_val (v := (Value.tuple #[(Value.pointer none), (Value.bool false)])) (x_move rfl) ?_)
   refine S_list (T_val (v := (Value.pointer none)) (by kernel_rfl) ?_)
   refine S_list (T_val (v := (Value.bool false)) (by kernel_rfl) ?_)
   refine S_list (T_val (v := (Value.pointer none)) (x_assign rfl) ?_)
   refine S_list (T_val (v := (Value.bool false)) (x_assign rfl) ?_)
   refine wpList_nil ?_
   refine (X_then (hK32_ _ _ ?_))
   clear hK32_
   refine C_seq (fun K36_ hK36_ => ?_)
   refine C_seq (fun K37_ hK37_ => ?_)
   refine C_reg ?_
   refine S_list (T_val (v := (Value.bool false)) (x_move rfl) ?_)
   refine S_list (T_val (v := (Value.bool true)) (x_cast (x_not (b := false) rfl) rfl) ?_)
   refine wpList_nil ?_
   refine (X_then (hK37_ _ _ ?_))
   clear hK37_
   refine C_condT rfl ?_
   refine C_exit (X_thenX (X_blkHit ?_))
   refine (X_then (hK24_ _ _ ?_))
   clear hK24_
   refine C_reg ?_
   refine S_list (T_val (v := (Value.int .i64 ((k : Int) + 1))) (x_bin rfl rfl (ib_add (IntWalk.i64_in _ (by omega)))) ?_)
   refine S_list (T_val (v := (Value.int .i64 ((k : Int) + 1))) (x_move rfl) ?_)
   refine wpList_nil ?_
   refine (X_then ?_)
   exact ⟨(k + 1), ⟨_, congrArg (fun e => mkA 270 e []) (ch (ch (ch (ch (ch (ch (ch (ch rfl rfl) rfl) rfl) rfl) rfl) rfl) rfl) (congrArg (Value.int .i64) ((by first | rfl | omega | (simp; done) | (simp; omega)) : (k : Int) + 1 = ((k + 1 : Nat) : Int)))), H19_, S20_, (by first | assumption | omega | exact rfl)⟩, by first | omega | (dsimp only; omega) | (simp; omega)⟩
 ·have c23_fp : ¬ ((k : Int) < ((List.length T) : Int)) := of_decide_eq_false c23_f
  refine C_exit (X_thenX (X_thenX (X_blkHit ?_)))
  refine (X_then (hK16_ _ _ ?_))
  clear hK16_
  refine C_seq (fun K38_ hK38_ => ?_)
  refine C_reg ?_
  refine S_list (T_makeMap Value.string H19_ ?_)
  intro b39_ w40_ S42_ H41_
  have S43_ := Same.trans S20_ S42_
  refine S_list (T_val (v := (Value.map (some b39_))) (x_assign rfl) ?_)
  refine wpList_nil ?_
  refine (X_then (hK38_ _ _ ?_))
  clear hK38_
  refine C_seq (fun K44_ hK44_ => ?_)
  refine C_seq (fun K45_ hK45_ => ?_)
  refine C_reg ?_
  refine S_list (T_val (v := v) (x_move rfl) ?_)
  refine S_list (T_val (v := (Value.int .i64 ((List.length T) : Int))) (x_lenRS rfl hv Try.underlying104) ?_)
  refine S_list (T_val (v := (Value.int .i64 0)) (x_move rfl) ?_)
  refine wpList_nil ?_
  refine (X_then (hK45_ _ _ ?_))
  clear hK45_
  refine C_block ?_
  refine C_loop (γ := Nat × Value × Value × Value) (fun x__ a__ w1__ => match x__ with | ⟨k2, s2_v, t3_v, t4_v⟩ => ∃ h : Env, a__ = mkA 270 (upd (upd (upd (upd (upd (upd (upd (upd (upd h 0 v) 2 s2_v) 3 t3_v) 4 t4_v) 5 (Value.iface 186 (Value.pointer (some ⟨b11_, 0, none⟩)))) 12 (Value.map (some b39_))) 90 v) 91 (Value.int .i64 ((List.length T) : Int))) 92 (Value.int .i64 (k2 : Int))) [] ∧ Holds w1__ (mp Value.string b39_ [] :: cl b11_ 188 [(Value.pointer (some ⟨b5_, 0, none⟩)), (Value.int .i64 0), (Value.pointer (some ⟨b5_, 0, none⟩))] :: cl b5_ 185 [(Value.nilIface), (Value.nilIface), (Value.nilIface), (Value.nilIface), (Value.pointer none), (Value.pointer none), (Value.pointer none), (Value.int .i64 0)] :: ro R :: F) ∧ Same w w1__ ∧ (k2 ≤ T.length)) (fun x__ => match x__ with | ⟨k2, s2_v, t3_v, t4_v⟩ => T.length - k2) (⟨0, (Value.map none), (Value.nilIface), (Value.nilIface)⟩) ⟨_, congrArg (fun e => mkA 270 e []) (ch (ch (ch (ch (ch (ch (ch (ch (ch rfl rfl) (rfl : (Value.map none) = ((Value.map none)))) (rfl : (Value.nilIface) = ((Value.nilIface)))) (rfl : (Value.nilIface) = ((Value.nilIface)))) rfl) rfl) rfl) rfl) (congrArg (Value.int .i64) ((by first | rfl | omega | (simp; done) | (simp; omega)) : 0 = (0 : Int)))), H41_, S43_, (by first | assumption | omega | exact rfl)⟩ ?_
  rintro ⟨k2, s2_v, t3_v, t4_v⟩ _ w46_ ⟨h, rfl, H47_, S48_, hkk2⟩
  refine C_seq (fun K49_ hK49_ => ?_)
  refine C_reg ?_
  refine S_list (T_val (v := (Value.bool (decide ((k2 : Int) < ((List.length T) : Int))))) (x_bin rfl rfl rfl) ?_)
  refine wpList_nil ?_
  refine (X_then (hK49_ _ _ ?_))
  clear hK49_
  refine C_seq (fun K50_ hK50_ => ?_)
  refine C_cond (b := decide ((k2 : Int) < ((List.length T) : Int))) rfl (fun c51_t => ?_) (fun c51_f => ?_)
  ·have c51_tp : (k2 : Int) < ((List.length T) : Int) := of_decide_eq_true c51_t
   refine C_skip (X_then (hK50_ _ _ ?_))
   clear hK50_
   refine C_seq (fun K52_ hK52_ => ?_)
   refine C_block ?_
   refine C_seq (fun K53_ hK53_ => ?_)
   refine C_reg ?_
   obtain ⟨p54_, hx55_, hm56_⟩ := elem_at T k2 (by omega)
   obtain ⟨y57_, hy58_, q59_o⟩ := hT.at_ hx55_
   have q59_m := List.mem_of_getElem? hy58_
   have := RT.sz_mem q59_m
   have := y57_.sz_tt
   have := y57_.sz_ee
   refine S_list (T_val (v := (Value.pointer (some ⟨(sb v), so v + k2, none⟩))) (x_idxRS (v := v) rfl hv rfl Try.underlying104 z149 (by omega) (by omega) (by omega : _ = k2) (by rw [Nat.mul_one])) ?_)
   refine S_list (T_val (v := (Value.pointer (some ⟨p54_, 0, none⟩))) (x_load1 rfl Try.underlying149 rfl (RC.cell (RS.rc hv) (Holds.ro_at H47_ 3 rfl) (j := k2) (u := (Value.pointer (some ⟨p54_, 0, none⟩))) ((map_at hx55_)))) ?_)
   refine S_list (T_val (v := (Value.pointer (some ⟨p54_, 0, none⟩))) (x_assign rfl) ?_)
   refine wpList_nil ?_
   refine (X_then (hK53_ _ _ ?_))
   clear hK53_
   refine C_seq (fun K60_ hK60_ => ?_)
   refine C_reg ?_
   refine S_list (T_val (v := (Value.pointer (some ⟨p54_, 0, none⟩))) (x_move rfl) ?_)
   refine S_list (T_val (v := (Value.pointer (some ⟨p54_, 0, none⟩))) (by kernel_rfl) ?_)
   refine S_list (T_val (v := (Value.pointer (some ⟨p54_, 0, none⟩))) (by kernel_rfl) ?_)
   rcases q59_o.inv with ⟨f61_b1, f61_b2, f61_h1, f61_hc, f61_hc1, f61_hr⟩ | ⟨f61_b1, f61_b2, f61_h4, f61_hc, f61_hc1, f61_v1, f61_v2, f61_v3, f61_C, f61_T, f61_E, f61_hrc, f61_hv1, f61_hv2, f61_hv3, f61_hC, f61_hT, f61_hE⟩
   ·skip
    refine S_list (T_val (v := (Value.iface 150 (Value.pointer (some ⟨f61_b1, 0, none⟩)))) (x_load1 rfl Try.underlying20 rfl (RC.cell f61_hc (Holds.ro_at H47_ 3 rfl) (j := 0) (u := (Value.iface 150 (Value.pointer (some ⟨f61_b1, 0, none⟩)))) (rfl))) ?_)
    refine S_list (T_val (v := (Value.tuple #[(Value.pointer none), (Value.bool false)])) (by kernel_rfl) ?_)
    refine S_list (T_val (v := (Value.tuple #[(Value.pointer none), (Value.bool false)])) (x_move rfl) ?_)
    refine S_list (T_val (v := (Value.pointer none)) (by kernel_rfl) ?_)
    refine S_list (T_val (v := (Value.bool false)) (by kernel_rfl) ?_)
    refine S_list (T_val (v := (Value.pointer none)) (x_assign rfl) ?_)
    refine S_list (T_val (v := (Value.bool false)) (x_assign rfl) ?_)
    refine wpList_nil ?_
    refine (X_then (hK60_ _ _ ?_))
    clear hK60_
    refine C_seq (fun K62_ hK62_ => ?_)
    refine C_seq (fun K63_ hK63_ => ?_)
    refine C_reg ?_
    refine S_list (T_val (v := (Value.bool false)) (x_move rfl) ?_)
    refine S_list (T_val (v := (Value.bool true)) (x_cast (x_not (b := false) rfl) rfl) ?_)
    refine wpList_nil ?_
    refine (X_then (hK63_ _ _ ?_))
    clear hK63_
    refine C_condT rfl ?_
    refine C_exit (X_thenX (X_blkHit ?_))
    refine (X_then (hK52_ _ _ ?_))
    clear hK52_
    refine C_reg ?_
    refine S_list (T_val (v := (Value.int .i64 ((k2 : Int) + 1))) (x_bin rfl rfl (ib_add (IntWalk.i64_in _ (by omega)))) ?_)
    refine S_list (T_val (v := (Value.int .i64 ((k2 : Int) + 1))) (x_move rfl) ?_)
    refine wpList_nil ?_
    refine (X_then ?_)
    exact ⟨⟨k2 + 1, s2_v, t3_v, t4_v⟩, ⟨_, congrArg (fun e => mkA 270 e []) (ch (ch (ch (ch (ch (ch (ch (ch (ch rfl rfl) rfl) rfl) rfl) rfl) rfl) rfl) rfl) (congrArg (Value.int .i64) ((by first | rfl | omega | (simp; done) | (simp; omega)) : (k2 : Int) + 1 = ((k2 + 1 : Nat) : Int)))), H47_, S48_, (by first | assumption | omega | exact rfl)⟩, by first | omega | (dsimp only; omega) | (simp; omega)⟩
   ·skip
    have f61_bd := (hP y57_ q59_m).b f61_h4
    refine S_list (T_val (v := (Value.iface 161 (Value.pointer (some ⟨f61_b1, 0, none⟩)))) (x_load1 rfl Try.underlying20 rfl (RC.cell f61_hc (Holds.ro_at H47_ 3 rfl) (j := 0) (u := (Value.iface 161 (Value.pointer (some ⟨f61_b1, 0, none⟩)))) (rfl))) ?_)
    refine S_list (T_val (v := (Value.tuple #[(Value.pointer (some ⟨f61_b1, 0, none⟩)), (Value.bool true)])) (by kernel_rfl) ?_)
    refine S_list (T_val (v := (Value.tuple #[(Value.pointer (some ⟨f61_b1, 0, none⟩)), (Value.bool true)])) (x_move rfl) ?_)
    refine S_list (T_val (v := (Value.pointer (some ⟨f61_b1, 0, none⟩))) (by kernel_rfl) ?_)
    refine S_list (T_val (v := (Value.bool true)) (by kernel_rfl) ?_)
    refine S_list (T_val (v := (Value.pointer (some ⟨f61_b1, 0, none⟩))) (x_assign rfl) ?_)
    refine S_list (T_val (v := (Value.bool true)) (x_assign rfl) ?_)
    refine wpList_nil ?_
    refine (X_then (hK60_ _ _ ?_))
    clear hK60_
    refine C_seq (fun K64_ hK64_ => ?_)
    refine C_seq (fun K65_ hK65_ => ?_)
    refine C_reg ?_
    refine S_list (T_val (v := (Value.bool true)) (x_move rfl) ?_)
    refine S_list (T_val (v := (Value.bool false)) (x_cast (x_not (b := true) rfl) rfl) ?_)
    refine wpList_nil ?_
    refine (X_then (hK65_ _ _ ?_))
    clear hK65_
    refine C_condF rfl ?_
    refine C_skip (X_then (hK64_ _ _ ?_))
    clear hK64_
    refine C_seq (fun K66_ hK66_ => ?_)
    refine C_reg ?_
    refine S_list (T_val (v := (Value.pointer (some ⟨f61_b1, 0, none⟩))) (x_move rfl) ?_)
    refine S_list (T_val (v := (Value.pointer (some ⟨f61_b1, 0, none⟩))) (by kernel_rfl) ?_)
    refine S_list (T_val (v := (Value.pointer (some ⟨f61_b1, 0, none⟩))) (by kernel_rfl) ?_)
    refine S_list (T_val (v := (Value.pointer (some ⟨f61_b2, 0, none⟩))) (x_load1 rfl Try.underlying95 rfl (RC.cell f61_hc1 (Holds.ro_at H47_ 3 rfl) (j := 0) (u := (Value.pointer (some ⟨f61_b2, 0, none⟩))) (rfl))) ?_)
    refine S_list (T_val (v := (Value.pointer (some ⟨f61_b2, 0, none⟩))) (by kernel_rfl) ?_)
    refine S_list (T_val (v := (Value.pointer (some ⟨f61_b2, 1, none⟩))) (by kernel_rfl) ?_)
    refine S_list (T_val (v := f61_v2) (x_load1 rfl Try.underlying104 rfl (RC.cell f61_hrc (Holds.ro_at H47_ 3 rfl) (j := 1) (u := f61_v2) (rfl))) ?_)
    have H71_ := ((Holds.bring H47_ 3 rfl) :)
    refine S_list (T_call (al := [f61_v2]) (pre := []) rfl rfl cb72 (ih R f61_v2 f61_T y57_.tt f61_hv2 (f61_hT) ((hP y57_ q59_m).tt f61_h4) (by omega) (by omega)) H71_ ?_)
    rintro v67_ p75_ w72_ ⟨mb68_, tb69_, sb70_, rfl, rfl⟩ S74_ H73_
    replace H73_ : Holds w72_ (ro R :: mp Value.string mb68_ [] :: cl tb69_ 188 [(Value.pointer (some ⟨sb70_, 0, none⟩)), (Value.int .i64 0), (Value.pointer (some ⟨sb70_, 0, none⟩))] :: cl sb70_ 185 [(Value.nilIface), (Value.nilIface), (Value.nilIface), (Value.nilIface), (Value.pointer none), (Value.pointer none), (Value.pointer none), (Value.int .i64 0)] :: mp Value.string b39_ [] :: cl b11_ 188 [(Value.pointer (some ⟨b5_, 0, none⟩)), (Value.int .i64 0), (Value.pointer (some ⟨b5_, 0, none⟩))] :: cl b5_ 185 [(Value.nilIface), (Value.nilIface), (Value.nilIface), (Value.nilIface), (Value.pointer none), (Value.pointer none), (Value.pointer none), (Value.int .i64 0)] :: F) := H73_
    have S76_ := Same.trans S48_ S74_
    refine S_list (T_val (v := (Value.tuple #[(Value.map (some mb68_)), (Value.iface 186 (Value.pointer (some ⟨tb69_, 0, none⟩))), (Value.nilIface)])) (x_move rfl) ?_)
    refine S_list (T_val (v := (Value.map (some mb68_))) (by kernel_rfl) ?_)
    refine S_list (T_val (v := (Value.iface 186 (Value.pointer (some ⟨tb69_, 0, none⟩)))) (by kernel_rfl) ?_)
    refine S_list (T_val (v := (Value.nilIface)) (by kernel_rfl) ?_)
    refine S_list (T_val (v := (Value.map (some mb68_))) (x_assign rfl) ?_)
    refine S_list (T_val (v := (Value.iface 186 (Value.pointer (some ⟨tb69_, 0, none⟩)))) (x_assign rfl) ?_)
    refine S_list (T_val (v := (Value.nilIface)) (x_assign rfl) ?_)
    refine wpList_nil ?_
    refine (X_then (hK66_ _ _ ?_))
    clear hK66_
    refine C_seq (fun K77_ hK77_ => ?_)
    refine C_seq (fun K78_ hK78_ => ?_)
    refine C_reg ?_
    refine S_list (T_val (v := (Value.nilIface)) (x_move rfl) ?_)
    refine S_list (T_val (v := (Value.bool false)) (by kernel_rfl) ?_)
    refine wpList_nil ?_
    refine (X_then (hK78_ _ _ ?_))
    clear hK78_
    refine C_condF rfl ?_
    refine C_skip (X_then (hK77_ _ _ ?_))
    clear hK77_
    refine C_seq (fun K79_ hK79_ => ?_)
    refine C_reg ?_
    refine S_list (T_val (v := (Value.pointer (some ⟨f61_b1, 0, none⟩))) (x_move rfl) ?_)
    refine S_list (T_val (v := (Value.pointer (some ⟨f61_b1, 0, none⟩))) (by kernel_rfl) ?_)
    refine S_list (T_val (v := (Value.pointer (some ⟨f61_b1, 0, none⟩))) (by kernel_rfl) ?_)
    refine S_list (T_val (v := (Value.pointer (some ⟨f61_b2, 0, none⟩))) (x_load1 rfl Try.underlying95 rfl (RC.cell f61_hc1 (Holds.ro_at H73_ 0 rfl) (j := 0) (u := (Value.pointer (some ⟨f61_b2, 0, none⟩))) (rfl))) ?_)
    refine S_list (T_val (v := (Value.pointer (some ⟨f61_b2, 0, none⟩))) (by kernel_rfl) ?_)
    refine S_list (T_val (v := (Value.pointer (some ⟨f61_b2, 2, none⟩))) (by kernel_rfl) ?_)
    refine S_list (T_val (v := f61_v3) (x_load1 rfl Try.underlying104 rfl (RC.cell f61_hrc (Holds.ro_at H73_ 0 rfl) (j := 2) (u := f61_v3) (rfl))) ?_)
    refine S_list (T_call (al := [f61_v3]) (pre := []) rfl rfl cb72 (ih R f61_v3 f61_E y57_.ee f61_hv3 (f61_hE) ((hP y57_ q59_m).ee f61_h4) (by omega) (by omega)) H73_ ?_)
    rintro v80_ p87_ w84_ ⟨mb81_, tb82_, sb83_, rfl, rfl⟩ S86_ H85_
    have S88_ := Same.trans S76_ S86_
    refine S_list (T_val (v := (Value.tuple #[(Value.map (some mb81_)), (Value.iface 186 (Value.pointer (some ⟨tb82_, 0, none⟩))), (Value.nilIface)])) (x_move rfl) ?_)
    refine S_list (T_val (v := (Value.map (some mb81_))) (by kernel_rfl) ?_)
    refine S_list (T_val (v := (Value.iface 186 (Value.pointer (some ⟨tb82_, 0, none⟩)))) (by kernel_rfl) ?_)
    refine S_list (T_val (v := (Value.nilIface)) (by kernel_rfl) ?_)
    refine S_list (T_val (v := (Value.map (some mb81_))) (x_assign rfl) ?_)
    refine S_list (T_val (v := (Value.iface 186 (Value.pointer (some ⟨tb82_, 0, none⟩)))) (x_assign rfl) ?_)
    refine S_list (T_val (v := (Value.nilIface)) (x_assign rfl) ?_)
    refine wpList_nil ?_
    refine (X_then (hK79_ _ _ ?_))
    clear hK79_
    refine C_seq (fun K89_ hK89_ => ?_)
    refine C_seq (fun K90_ hK90_ => ?_)
    refine C_reg ?_
    refine S_list (T_val (v := (Value.nilIface)) (x_move rfl) ?_)
    refine S_list (T_val (v := (Value.bool false)) (by kernel_rfl) ?_)
    refine wpList_nil ?_
    refine (X_then (hK90_ _ _ ?_))
    clear hK90_
    refine C_condF rfl ?_
    refine C_skip (X_then (hK89_ _ _ ?_))
    clear hK89_
    refine C_seq (fun K91_ hK91_ => ?_)
    refine C_seq (fun K92_ hK92_ => ?_)
    refine C_reg ?_
    refine S_list (T_val (v := (Value.map (some mb68_))) (x_move rfl) ?_)
    refine S_list (T_range rfl Try.underlying99 H85_ 4 rfl ?_)
    intro r93_ w94_ S96_ H95_
    have S97_ := Same.trans S88_ S96_
    refine wpList_nil ?_
    refine (X_then (hK92_ _ _ ?_))
    clear hK92_
    refine C_block ?_
    refine C_loop (γ := Value × Value × Value) (fun x__ a__ w1__ => match x__ with | ⟨s2_v, t3_v, t4_v⟩ => ∃ h : Env, a__ = mkA 270 (upd (upd (upd (upd (upd (upd (upd (upd (upd (upd (upd (upd (upd (upd h 0 v) 2 s2_v) 3 t3_v) 4 t4_v) 5 (Value.iface 186 (Value.pointer (some ⟨b11_, 0, none⟩)))) 12 (Value.map (some b39_))) 17 (Value.map (some mb68_))) 18 (Value.iface 186 (Value.pointer (some ⟨tb69_, 0, none⟩)))) 20 (Value.map (some mb81_))) 21 (Value.iface 186 (Value.pointer (some ⟨tb82_, 0, none⟩)))) 90 v) 91 (Value.int .i64 ((List.length T) : Int))) 92 (Value.int .i64 (k2 : Int))) 139 (Value.pointer (some ⟨r93_, 0, none⟩))) [] ∧ Holds w1__ (ro R :: mp Value.string mb81_ [] :: cl tb82_ 188 [(Value.pointer (some ⟨sb83_, 0, none⟩)), (Value.int .i64 0), (Value.pointer (some ⟨sb83_, 0, none⟩))] :: cl sb83_ 185 [(Value.nilIface), (Value.nilIface), (Value.nilIface), (Value.nilIface), (Value.pointer none), (Value.pointer none), (Value.pointer none), (Value.int .i64 0)] :: rg Value.string mb68_ r93_ [] [] none :: cl tb69_ 188 [(Value.pointer (some ⟨sb70_, 0, none⟩)), (Value.int .i64 0), (Value.pointer (some ⟨sb70_, 0, none⟩))] :: cl sb70_ 185 [(Value.nilIface), (Value.nilIface), (Value.nilIface), (Value.nilIface), (Value.pointer none), (Value.pointer none), (Value.pointer none), (Value.int .i64 0)] :: mp Value.string b39_ [] :: cl b11_ 188 [(Value.pointer (some ⟨b5_, 0, none⟩)), (Value.int .i64 0), (Value.pointer (some ⟨b5_, 0, none⟩))] :: cl b5_ 185 [(Value.nilIface), (Value.nilIface), (Value.nilIface), (Value.nilIface), (Value.pointer none), (Value.pointer none), (Value.pointer none), (Value.int .i64 0)] :: F) ∧ Same w w1__) (fun x__ => match x__ with | ⟨s2_v, t3_v, t4_v⟩ => 0) (⟨s2_v, t3_v, t4_v⟩) ⟨_, congrArg (fun e => mkA 270 e []) (ch (ch (ch (ch (ch (ch (ch (ch (ch (ch (ch (ch (ch (ch rfl rfl) rfl) rfl) rfl) rfl) rfl) rfl) rfl) rfl) rfl) rfl) rfl) rfl) rfl), H95_, S97_⟩ ?_
    rintro ⟨s2_v, t3_v, t4_v⟩ _ w98_ ⟨h, rfl, H99_, S100_⟩
    refine C_seq (fun K101_ hK101_ => ?_)
    refine C_reg ?_
    refine S_list (T_next rfl H99_ 4 rfl (fun _ => ?_) (fun _ l1__ l2__ he__ => absurd he__ (by cases l1__ <;> simp)))
    refine S_list (T_val (v := (Value.bool false)) (by kernel_rfl) ?_)
    refine wpList_nil ?_
    refine (X_then (hK101_ _ _ ?_))
    clear hK101_
    refine C_seq (fun K102_ hK102_ => ?_)
    refine C_condF rfl ?_
    refine C_exit (X_thenX (X_thenX (X_blkHit ?_)))
    refine (X_then (hK91_ _ _ ?_))
    clear hK91_
    refine C_seq (fun K103_ hK103_ => ?_)
    refine C_seq (fun K104_ hK104_ => ?_)
    refine C_reg ?_
    refine S_list (T_val (v := (Value.map (some mb81_))) (x_move rfl) ?_)
    refine S_list (T_range rfl Try.underlying99 H99_ 1 rfl ?_)
    intro r105_ w106_ S108_ H107_
    replace H107_ : Holds w106_ (ro R :: rg Value.string mb81_ r105_ [] [] none :: cl tb82_ 188 [(Value.pointer (some ⟨sb83_, 0, none⟩)), (Value.int .i64 0), (Value.pointer (some ⟨sb83_, 0, none⟩))] :: cl sb83_ 185 [(Value.nilIface), (Value.nilIface), (Value.nilIface), (Value.nilIface), (Value.pointer none), (Value.pointer none), (Value.pointer none), (Value.int .i64 0)] :: rg Value.string mb68_ r93_ [] [] none :: cl tb69_ 188 [(Value.pointer (some ⟨sb70_, 0, none⟩)), (Value.int .i64 0), (Value.pointer (some ⟨sb70_, 0, none⟩))] :: cl sb70_ 185 [(Value.nilIface), (Value.nilIface), (Value.nilIface), (Value.nilIface), (Value.pointer none), (Value.pointer none), (Value.pointer none), (Value.int .i64 0)] :: mp Value.string b39_ [] :: cl b11_ 188 [(Value.pointer (some ⟨b5_, 0, none⟩)), (Value.int .i64 0), (Value.pointer (some ⟨b5_, 0, none⟩))] :: cl b5_ 185 [(Value.nilIface), (Value.nilIface), (Value.nilIface), (Value.nilIface), (Value.pointer none), (Value.pointer none), (Value.pointer none), (Value.int .i64 0)] :: F) := H107_
    have S109_ := Same.trans S100_ S108_
    refine wpList_nil ?_
    refine (X_then (hK104_ _ _ ?_))
    clear hK104_
    refine C_block ?_
    refine C_loop (γ := Value × Value × Value) (fun x__ a__ w1__ => match x__ with | ⟨s2_v, t3_v, t4_v⟩ => ∃ h : Env, a__ = mkA 270 (upd (upd (upd (upd (upd (upd (upd (upd (upd (upd (upd (upd (upd (upd (upd h 0 v) 2 s2_v) 3 t3_v) 4 t4_v) 5 (Value.iface 186 (Value.pointer (some ⟨b11_, 0, none⟩)))) 12 (Value.map (some b39_))) 17 (Value.map (some mb68_))) 18 (Value.iface 186 (Value.pointer (some ⟨tb69_, 0, none⟩)))) 20 (Value.map (some mb81_))) 21 (Value.iface 186 (Value.pointer (some ⟨tb82_, 0, none⟩)))) 90 v) 91 (Value.int .i64 ((List.length T) : Int))) 92 (Value.int .i64 (k2 : Int))) 139 (Value.pointer (some ⟨r93_, 0, none⟩))) 166 (Value.pointer (some ⟨r105_, 0, none⟩))) [] ∧ Holds w1__ (ro R :: rg Value.string mb81_ r105_ [] [] none :: cl tb82_ 188 [(Value.pointer (some ⟨sb83_, 0, none⟩)), (Value.int .i64 0), (Value.pointer (some ⟨sb83_, 0, none⟩))] :: cl sb83_ 185 [(Value.nilIface), (Value.nilIface), (Value.nilIface), (Value.nilIface), (Value.pointer none), (Value.pointer none), (Value.pointer none), (Value.int .i64 0)] :: rg Value.string mb68_ r93_ [] [] none :: cl tb69_ 188 [(Value.pointer (some ⟨sb70_, 0, none⟩)), (Value.int .i64 0), (Value.pointer (some ⟨sb70_, 0, none⟩))] :: cl sb70_ 185 [(Value.nilIface), (Value.nilIface), (Value.nilIface), (Value.nilIface), (Value.pointer none), (Value.pointer none), (Value.pointer none), (Value.int .i64 0)] :: mp Value.string b39_ [] :: cl b11_ 188 [(Value.pointer (some ⟨b5_, 0, none⟩)), (Value.int .i64 0), (Value.pointer (some ⟨b5_, 0, none⟩))] :: cl b5_ 185 [(Value.nilIface), (Value.nilIface), (Value.nilIface), (Value.nilIface), (Value.pointer none), (Value.pointer none), (Value.pointer none), (Value.int .i64 0)] :: F) ∧ Same w w1__) (fun x__ => match x__ with | ⟨s2_v, t3_v, t4_v⟩ => 0) (⟨s2_v, t3_v, t4_v⟩) ⟨_, congrArg (fun e => mkA 270 e []) (ch (ch (ch (ch (ch (ch (ch (ch (ch (ch (ch (ch (ch (ch (ch rfl rfl) rfl) rfl) rfl) rfl) rfl) rfl) rfl) rfl) rfl) rfl) rfl) rfl) rfl) rfl), H107_, S109_⟩ ?_
    rintro ⟨s2_v, t3_v, t4_v⟩ _ w110_ ⟨h, rfl, H111_, S112_⟩
    refine C_seq (fun K113_ hK113_ => ?_)
    refine C_reg ?_
    refine S_list (T_next rfl H111_ 1 rfl (fun _ => ?_) (fun _ l1__ l2__ he__ => absurd he__ (by cases l1__ <;> simp)))
    refine S_list (T_val (v := (Value.bool false)) (by kernel_rfl) ?_)
    refine wpList_nil ?_
    refine (X_then (hK113_ _ _ ?_))
    clear hK113_
    refine C_seq (fun K114_ hK114_ => ?_)
    refine C_condF rfl ?_
    refine C_exit (X_thenX (X_thenX (X_blkHit ?_)))
    refine (X_then (hK103_ _ _ ?_))
    clear hK103_
    refine C_seq (fun K115_ hK115_ => ?_)
    refine A_start (S := fun w => Rd tb69_ [(Value.pointer (some ⟨sb70_, 0, none⟩)), (Value.int .i64 0), (Value.pointer (some ⟨sb70_, 0, none⟩))] w ∧ Rd sb70_ [(Value.nilIface), (Value.nilIface), (Value.nilIface), (Value.nilIface), (Value.pointer none), (Value.pointer none), (Value.pointer none), (Value.int .i64 0)] w ∧ MpRd Value.string b39_ [] w ∧ Rd b11_ [(Value.pointer (some ⟨b5_, 0, none⟩)), (Value.int .i64 0), (Value.pointer (some ⟨b5_, 0, none⟩))] w ∧ Rd b5_ [(Value.nilIface), (Value.nilIface), (Value.nilIface), (Value.nilIface), (Value.pointer none), (Value.pointer none), (Value.pointer none), (Value.int .i64 0)] w ∧ Sub R (hp w)) (N := 7) foll rfl rfl ?_
    have H116_ := Holds.drew_ H111_
    have hq117_ := And.intro (Holds.rd H116_ 5 rfl) (And.intro (Holds.rd H116_ 6 rfl) (And.intro (Holds.mprd H116_ 7 rfl) (And.intro (Holds.rd H116_ 8 rfl) (And.intro (Holds.rd H116_ 9 rfl) ((Holds.ro_at H116_ 0 rfl))))))
    refine A_tk 0 (v := (Value.iface 186 (Value.pointer (some ⟨b11_, 0, none⟩)))) rfl (by kernel_rfl) (fun w hS => x_move rfl) hq117_ ?_
    refine A_tk 1 (v := (Value.iface 186 (Value.pointer (some ⟨tb69_, 0, none⟩)))) rfl (by kernel_rfl) (fun w hS => x_move rfl) hq117_ ?_
    refine A_tk 3 (v := ((Value.func (.method "Union") #[(Value.iface 186 (Value.pointer (some ⟨b11_, 0, none⟩)))] #[]))) rfl (by kernel_rfl) (fun w hS => by kernel_rfl) hq117_ ?_
    refine A_tk 4 (v := ((Value.func (.method "Union") #[(Value.iface 186 (Value.pointer (some ⟨b11_, 0, none⟩)))] #[]))) rfl (by kernel_rfl) (fun w hS => by kernel_rfl) hq117_ ?_
    refine A_tk 5 (v := (Value.iface 186 (Value.pointer (some ⟨b11_, 0, none⟩)))) rfl (by kernel_rfl) (fun w hS => x_move rfl) hq117_ ?_
    refine A_ready (i := 2) (rs := []) (by kernel_rfl) ?_
    refine AllR.cons ?_ AllR.nil
    refine A_op (ls' := #[true, true, true, true, true, true, false]) rfl (by kernel_rfl) (T_call (al := [(Value.string (ByteArray.mk #[0])), (Value.string (ByteArray.mk #[]))]) (pre := []) rfl rfl cb52 (ckNewIv R (ByteArray.mk #[0]) (ByteArray.mk #[])) H116_ ?_)
    rintro v118_ p122_ w119_ ⟨rfl, rfl⟩ S121_ H120_
    have S123_ := Same.trans (Same.trans S112_ (Same.drew _)) S121_
    refine ⟨⟨Holds.rd H120_ 5 rfl, Holds.rd H120_ 6 rfl, Holds.mprd H120_ 7 rfl, Holds.rd H120_ 8 rfl, Holds.rd H120_ 9 rfl, (Holds.ro_at H120_ 0 rfl)⟩, ?_⟩
    refine A_ready (i := 6) (rs := []) (by kernel_rfl) ?_
    refine AllR.cons ?_ AllR.nil
    have H125_ := ((Holds.bring (Holds.bring H120_ 5 rfl) 1 rfl) :)
    refine A_op (ls' := #[true, true, true, true, true, true, true]) rfl (by kernel_rfl) (T_invoke (al := [(Value.pointer (some ⟨b11_, 0, none⟩)), (Value.iface 186 (Value.pointer (some ⟨tb69_, 0, none⟩))), (Value.agg #[(Value.iface 166 (Value.string (ByteArray.mk #[0]))), (Value.iface 166 (Value.string (ByteArray.mk #[])))])]) (pre := [cl tb69_ 188 [(Value.pointer (some ⟨sb70_, 0, none⟩)), (Value.int .i64 0), (Value.pointer (some ⟨sb70_, 0, none⟩))]]) rfl (fun w => by kernel_rfl) rfl cb152 (ckUnion R b11_ tb69_ sb70_ (ByteArray.mk #[0]) (ByteArray.mk #[])) H125_ ?_)
    rintro v124_ p129_ w126_ ⟨rfl, rfl⟩ S128_ H127_
    replace H127_ : Holds w126_ (ro R :: cl tb69_ 188 [(Value.pointer (some ⟨sb70_, 0, none⟩)), (Value.int .i64 0), (Value.pointer (some ⟨sb70_, 0, none⟩))] :: rg Value.string mb81_ r105_ [] [] none :: cl tb82_ 188 [(Value.pointer (some ⟨sb83_, 0, none⟩)), (Value.int .i64 0), (Value.pointer (some ⟨sb83_, 0, none⟩))] :: cl sb83_ 185 [(Value.nilIface), (Value.nilIface), (Value.nilIface), (Value.nilIface), (Value.pointer none), (Value.pointer none), (Value.pointer none), (Value.int .i64 0)] :: rg Value.string mb68_ r93_ [] [] none :: cl sb70_ 185 [(Value.nilIface), (Value.nilIface), (Value.nilIface), (Value.nilIface), (Value.pointer none), (Value.pointer none), (Value.pointer none), (Value.int .i64 0)] :: mp Value.string b39_ [] :: cl b11_ 188 [(Value.pointer (some ⟨b5_, 0, none⟩)), (Value.int .i64 0), (Value.pointer (some ⟨b5_, 0, none⟩))] :: cl b5_ 185 [(Value.nilIface), (Value.nilIface), (Value.nilIface), (Value.nilIface), (Value.pointer none), (Value.pointer none), (Value.pointer none), (Value.int .i64 0)] :: F) := H127_
    have S130_ := Same.trans S123_ S128_
    refine ⟨⟨Holds.rd H127_ 1 rfl, Holds.rd H127_ 6 rfl, Holds.mprd H127_ 7 rfl, Holds.rd H127_ 8 rfl, Holds.rd H127_ 9 rfl, (Holds.ro_at H127_ 0 rfl)⟩, ?_⟩
    refine A_done (by kernel_rfl) ?_
    refine (X_then (hK115_ _ _ ?_))
    clear hK115_
    refine A_start (S := fun w => Rd tb82_ [(Value.pointer (some ⟨sb83_, 0, none⟩)), (Value.int .i64 0), (Value.pointer (some ⟨sb83_, 0, none⟩))] w ∧ Rd sb83_ [(Value.nilIface), (Value.nilIface), (Value.nilIface), (Value.nilIface), (Value.pointer none), (Value.pointer none), (Value.pointer none), (Value.int .i64 0)] w ∧ MpRd Value.string b39_ [] w ∧ Rd b11_ [(Value.pointer (some ⟨b5_, 0, none⟩)), (Value.int .i64 0), (Value.pointer (some ⟨b5_, 0, none⟩))] w ∧ Rd b5_ [(Value.nilIface), (Value.nilIface), (Value.nilIface), (Value.nilIface), (Value.pointer none), (Value.pointer none), (Value.pointer none), (Value.int .i64 0)] w ∧ Sub R (hp w)) (N := 7) foll rfl rfl ?_
    have H131_ := Holds.drew_ H127_
    have hq132_ := And.intro (Holds.rd H131_ 3 rfl) (And.intro (Holds.rd H131_ 4 rfl) (And.intro (Holds.mprd H131_ 7 rfl) (And.intro (Holds.rd H131_ 8 rfl) (And.intro (Holds.rd H131_ 9 rfl) ((Holds.ro_at H131_ 0 rfl))))))
    refine A_tk 0 (v := (Value.iface 186 (Value.pointer (some ⟨b11_, 0, none⟩)))) rfl (by kernel_rfl) (fun w hS => x_move rfl) hq132_ ?_
    refine A_tk 1 (v := (Value.iface 186 (Value.pointer (some ⟨tb82_, 0, none⟩)))) rfl (by kernel_rfl) (fun w hS => x_move rfl) hq132_ ?_
    refine A_tk 3 (v := ((Value.func (.method "Union") #[(Value.iface 186 (Value.pointer (some ⟨b11_, 0, none⟩)))] #[]))) rfl (by kernel_rfl) (fun w hS => by kernel_rfl) hq132_ ?_
    refine A_tk 4 (v := ((Value.func (.method "Union") #[(Value.iface 186 (Value.pointer (some ⟨b11_, 0, none⟩)))] #[]))) rfl (by kernel_rfl) (fun w hS => by kernel_rfl) hq132_ ?_
    refine A_tk 5 (v := (Value.iface 186 (Value.pointer (some ⟨b11_, 0, none⟩)))) rfl (by kernel_rfl) (fun w hS => x_move rfl) hq132_ ?_
    refine A_ready (i := 2) (rs := []) (by kernel_rfl) ?_
    refine AllR.cons ?_ AllR.nil
    refine A_op (ls' := #[true, true, true, true, true, true, false]) rfl (by kernel_rfl) (T_call (al := [(Value.string (ByteArray.mk #[0])), (Value.string (ByteArray.mk #[]))]) (pre := []) rfl rfl cb52 (ckNewIv R (ByteArray.mk #[0]) (ByteArray.mk #[])) H131_ ?_)
    rintro v133_ p137_ w134_ ⟨rfl, rfl⟩ S136_ H135_
    have S138_ := Same.trans (Same.trans S130_ (Same.drew _)) S136_
    refine ⟨⟨Holds.rd H135_ 3 rfl, Holds.rd H135_ 4 rfl, Holds.mprd H135_ 7 rfl, Holds.rd H135_ 8 rfl, Holds.rd H135_ 9 rfl, (Holds.ro_at H135_ 0 rfl)⟩, ?_⟩
    refine A_ready (i := 6) (rs := []) (by kernel_rfl) ?_
    refine AllR.cons ?_ AllR.nil
    have H140_ := ((Holds.bring (Holds.bring H135_ 3 rfl) 1 rfl) :)
    refine A_op (ls' := #[true, true, true, true, true, true, true]) rfl (by kernel_rfl) (T_invoke (al := [(Value.pointer (some ⟨b11_, 0, none⟩)), (Value.iface 186 (Value.pointer (some ⟨tb82_, 0, none⟩))), (Value.agg #[(Value.iface 166 (Value.string (ByteArray.mk #[0]))), (Value.iface 166 (Value.string (ByteArray.mk #[])))])]) (pre := [cl tb82_ 188 [(Value.pointer (some ⟨sb83_, 0, none⟩)), (Value.int .i64 0), (Value.pointer (some ⟨sb83_, 0, none⟩))]]) rfl (fun w => by kernel_rfl) rfl cb152 (ckUnion R b11_ tb82_ sb83_ (ByteArray.mk #[0]) (ByteArray.mk #[])) H140_ ?_)
    rintro v139_ p144_ w141_ ⟨rfl, rfl⟩ S143_ H142_
    replace H142_ : Holds w141_ (ro R :: cl tb82_ 188 [(Value.pointer (some ⟨sb83_, 0, none⟩)), (Value.int .i64 0), (Value.pointer (some ⟨sb83_, 0, none⟩))] :: cl tb69_ 188 [(Value.pointer (some ⟨sb70_, 0, none⟩)), (Value.int .i64 0), (Value.pointer (some ⟨sb70_, 0, none⟩))] :: rg Value.string mb81_ r105_ [] [] none :: cl sb83_ 185 [(Value.nilIface), (Value.nilIface), (Value.nilIface), (Value.nilIface), (Value.pointer none), (Value.pointer none), (Value.pointer none), (Value.int .i64 0)] :: rg Value.string mb68_ r93_ [] [] none :: cl sb70_ 185 [(Value.nilIface), (Value.nilIface), (Value.nilIface), (Value.nilIface), (Value.pointer none), (Value.pointer none), (Value.pointer none), (Value.int .i64 0)] :: mp Value.string b39_ [] :: cl b11_ 188 [(Value.pointer (some ⟨b5_, 0, none⟩)), (Value.int .i64 0), (Value.pointer (some ⟨b5_, 0, none⟩))] :: cl b5_ 185 [(Value.nilIface), (Value.nilIface), (Value.nilIface), (Value.nilIface), (Value.pointer none), (Value.pointer none), (Value.pointer none), (Value.int .i64 0)] :: F) := H142_
    have S145_ := Same.trans S138_ S143_
    refine ⟨⟨Holds.rd H142_ 1 rfl, Holds.rd H142_ 4 rfl, Holds.mprd H142_ 7 rfl, Holds.rd H142_ 8 rfl, Holds.rd H142_ 9 rfl, (Holds.ro_at H142_ 0 rfl)⟩, ?_⟩
    refine A_done (by kernel_rfl) ?_
    refine (X_blkN (X_then (hK52_ _ _ ?_)))
    clear hK52_
    refine C_reg ?_
    refine S_list (T_val (v := (Value.int .i64 ((k2 : Int) + 1))) (x_bin rfl rfl (ib_add (IntWalk.i64_in _ (by omega)))) ?_)
    refine S_list (T_val (v := (Value.int .i64 ((k2 : Int) + 1))) (x_move rfl) ?_)
    refine wpList_nil ?_
    refine (X_then ?_)
    have H146_ : Holds w141_ (mp Value.string b39_ [] :: cl b11_ 188 [(Value.pointer (some ⟨b5_, 0, none⟩)), (Value.int .i64 0), (Value.pointer (some ⟨b5_, 0, none⟩))] :: cl b5_ 185 [(Value.nilIface), (Value.nilIface), (Value.nilIface), (Value.nilIface), (Value.pointer none), (Value.pointer none), (Value.pointer none), (Value.int .i64 0)] :: ro R :: F) := (Holds.pkF H142_ [7, 7, 7, 0] 6 :)
    exact ⟨⟨k2 + 1, s2_v, t3_v, t4_v⟩, ⟨_, congrArg (fun e => mkA 270 e []) (ch (ch (ch (ch (ch (ch (ch (ch (ch rfl rfl) rfl) rfl) rfl) rfl) rfl) rfl) rfl) (congrArg (Value.int .i64) ((by first | rfl | omega | (simp; done) | (simp; omega)) : (k2 : Int) + 1 = ((k2 + 1 : Nat) : Int)))), H146_, S145_, (by first | assumption | omega | exact rfl)⟩, by first | omega | (dsimp only; omega) | (simp; omega)⟩
  ·have c51_fp : ¬ ((k2 : Int) < ((List.length T) : Int)) := of_decide_eq_false c51_f
   refine C_exit (X_thenX (X_thenX (X_blkHit ?_)))
   refine (X_then (hK44_ _ _ ?_))
   clear hK44_
   refine C_seq (fun K147_ hK147_ => ?_)
   refine C_seq (fun K148_ hK148_ => ?_)
   refine C_reg ?_
   refine S_list (T_val (v := v) (x_move rfl) ?_)
   refine S_list (T_val (v := (Value.int .i64 ((List.length T) : Int))) (x_lenRS rfl hv Try.underlying104) ?_)
   refine S_list (T_val (v := (Value.int .i64 0)) (x_move rfl) ?_)
   refine wpList_nil ?_
   refine (X_then (hK148_ _ _ ?_))
   clear hK148_
   refine C_block ?_
   refine C_loop (γ := Nat × Value × Value × Value) (fun x__ a__ w1__ => match x__ with | ⟨k5, s2_v, t3_v, t4_v⟩ => ∃ h : Env, a__ = mkA 270 (upd (upd (upd (upd (upd (upd (upd (upd h 2 s2_v) 3 t3_v) 4 t4_v) 5 (Value.iface 186 (Value.pointer (some ⟨b11_, 0, none⟩)))) 12 (Value.map (some b39_))) 215 v) 216 (Value.int .i64 ((List.length T) : Int))) 217 (Value.int .i64 (k5 : Int))) [] ∧ Holds w1__ (mp Value.string b39_ [] :: cl b11_ 188 [(Value.pointer (some ⟨b5_, 0, none⟩)), (Value.int .i64 0), (Value.pointer (some ⟨b5_, 0, none⟩))] :: cl b5_ 185 [(Value.nilIface), (Value.nilIface), (Value.nilIface), (Value.nilIface), (Value.pointer none), (Value.pointer none), (Value.pointer none), (Value.int .i64 0)] :: ro R :: F) ∧ Same w w1__ ∧ (k5 ≤ T.length)) (fun x__ => match x__ with | ⟨k5, s2_v, t3_v, t4_v⟩ => T.length - k5) (⟨0, s2_v, t3_v, t4_v⟩) ⟨_, congrArg (fun e => mkA 270 e []) (ch (ch (ch (ch (ch (ch (ch (ch rfl rfl) rfl) rfl) rfl) rfl) rfl) rfl) (congrArg (Value.int .i64) ((by first | rfl | omega | (simp; done) | (simp; omega)) : 0 = (0 : Int)))), H47_, S48_, (by first | assumption | omega | exact rfl)⟩ ?_
   rintro ⟨k5, s2_v, t3_v, t4_v⟩ _ w149_ ⟨h, rfl, H150_, S151_, hkk5⟩
   refine C_seq (fun K152_ hK152_ => ?_)
   refine C_reg ?_
   refine S_list (T_val (v := (Value.bool (decide ((k5 : Int) < ((List.length T) : Int))))) (x_bin rfl rfl rfl) ?_)
   refine wpList_nil ?_
   refine (X_then (hK152_ _ _ ?_))
   clear hK152_
   refine C_seq (fun K153_ hK153_ => ?_)
   refine C_cond (b := decide ((k5 : Int) < ((List.length T) : Int))) rfl (fun c154_t => ?_) (fun c154_f => ?_)
   ·have c154_tp : (k5 : Int) < ((List.length T) : Int) := of_decide_eq_true c154_t
    refine C_skip (X_then (hK153_ _ _ ?_))
    clear hK153_
    refine C_seq (fun K155_ hK155_ => ?_)
    refine C_block ?_
    refine C_seq (fun K156_ hK156_ => ?_)
    refine C_reg ?_
    obtain ⟨p157_, hx158_, hm159_⟩ := elem_at T k5 (by omega)
    obtain ⟨y160_, hy161_, q162_o⟩ := hT.at_ hx158_
    have q162_m := List.mem_of_getElem? hy161_
    have := RT.sz_mem q162_m
    have := y160_.sz_tt
    have := y160_.sz_ee
    refine S_list (T_val (v := (Value.pointer (some ⟨(sb v), so v + k5, none⟩))) (x_idxRS (v := v) rfl hv rfl Try.underlying104 z149 (by omega) (by omega) (by omega : _ = k5) (by rw [Nat.mul_one])) ?_)
    refine S_list (T_val (v := (Value.pointer (some ⟨p157_, 0, none⟩))) (x_load1 rfl Try.underlying149 rfl (RC.cell (RS.rc hv) (Holds.ro_at H150_ 3 rfl) (j := k5) (u := (Value.pointer (some ⟨p157_, 0, none⟩))) ((map_at hx158_)))) ?_)
    refine S_list (T_val (v := (Value.pointer (some ⟨p157_, 0, none⟩))) (x_assign rfl) ?_)
    refine wpList_nil ?_
    refine (X_then (hK156_ _ _ ?_))
    clear hK156_
    refine C_seq (fun K163_ hK163_ => ?_)
    refine C_reg ?_
    refine S_list (T_val (v := (Value.pointer (some ⟨p157_, 0, none⟩))) (x_move rfl) ?_)
    refine S_list (T_val (v := (Value.pointer (some ⟨p157_, 0, none⟩))) (by kernel_rfl) ?_)
    refine S_list (T_val (v := (Value.pointer (some ⟨p157_, 0, none⟩))) (by kernel_rfl) ?_)
    rcases q162_o.inv with ⟨f164_b1, f164_b2, f164_h1, f164_hc, f164_hc1, f164_hr⟩ | ⟨f164_b1, f164_b2, f164_h4, f164_hc, f164_hc1, f164_v1, f164_v2, f164_v3, f164_C, f164_T, f164_E, f164_hrc, f164_hv1, f164_hv2, f164_hv3, f164_hC, f164_hT, f164_hE⟩
    ·skip
     refine S_list (T_val (v := (Value.iface 150 (Value.pointer (some ⟨f164_b1, 0, none⟩)))) (x_load1 rfl Try.underlying20 rfl (RC.cell f164_hc (Holds.ro_at H150_ 3 rfl) (j := 0) (u := (Value.iface 150 (Value.pointer (some ⟨f164_b1, 0, none⟩)))) (rfl))) ?_)
     refine S_list (T_val (v := (Value.tuple #[(Value.pointer none), (Value.bool false)])) (by kernel_rfl) ?_)
     refine S_list (T_val (v := (Value.tuple #[(Value.pointer none), (Value.bool false)])) (x_move rfl) ?_)
     refine S_list (T_val (v := (Value.pointer none)) (by kernel_rfl) ?_)
     refine S_list (T_val (v := (Value.bool false)) (by kernel_rfl) ?_)
     refine S_list (T_val (v := (Value.pointer none)) (x_assign rfl) ?_)
     refine S_list (T_val (v := (Value.bool false)) (x_assign rfl) ?_)
     refine wpList_nil ?_
     refine (X_then (hK163_ _ _ ?_))
     clear hK163_
     refine C_seq (fun K165_ hK165_ => ?_)
     refine C_seq (fun K166_ hK166_ => ?_)
     refine C_reg ?_
     refine S_list (T_val (v := (Value.bool false)) (x_move rfl) ?_)
     refine S_list (T_val (v := (Value.bool true)) (x_cast (x_not (b := false) rfl) rfl) ?_)
     refine S_list (T_val (v := (Value.bool true)) (x_move rfl) ?_)
     refine S_no (j := 2) (dj := 231) (b := true) rfl rfl rfl (by decide) ?_
     refine S_no (j := 2) (dj := 231) (b := true) rfl rfl rfl (by decide) ?_
     refine S_no (j := 2) (dj := 231) (b := true) rfl rfl rfl (by decide) ?_
     refine S_no (j := 2) (dj := 231) (b := true) rfl rfl rfl (by decide) ?_
     refine S_no (j := 2) (dj := 231) (b := true) rfl rfl rfl (by decide) ?_
     refine S_list (T_pickT (v := (Value.bool true)) rfl rfl ?_)
     refine wpList_nil ?_
     refine (X_then (hK166_ _ _ ?_))
     clear hK166_
     refine C_condT rfl ?_
     refine C_exit (X_thenX (X_blkHit ?_))
     refine (X_then (hK155_ _ _ ?_))
     clear hK155_
     refine C_reg ?_
     refine S_list (T_val (v := (Value.int .i64 ((k5 : Int) + 1))) (x_bin rfl rfl (ib_add (IntWalk.i64_in _ (by omega)))) ?_)
     refine S_list (T_val (v := (Value.int .i64 ((k5 : Int) + 1))) (x_move rfl) ?_)
     refine wpList_nil ?_
     refine (X_then ?_)
     exact ⟨⟨k5 + 1, s2_v, t3_v, t4_v⟩, ⟨_, congrArg (fun e => mkA 270 e []) (ch (ch (ch (ch (ch (ch (ch (ch rfl rfl) rfl) rfl) rfl) rfl) rfl) rfl) (congrArg (Value.int .i64) ((by first | rfl | omega | (simp; done) | (simp; omega)) : (k5 : Int) + 1 = ((k5 + 1 : Nat) : Int)))), H150_, S151_, (by first | assumption | omega | exact rfl)⟩, by first | omega | (dsimp only; omega) | (simp; omega)⟩
    ·skip
     have f164_bd := (hP y160_ q162_m).b f164_h4
     refine S_list (T_val (v := (Value.iface 161 (Value.pointer (some ⟨f164_b1, 0, none⟩)))) (x_load1 rfl Try.underlying20 rfl (RC.cell f164_hc (Holds.ro_at H150_ 3 rfl) (j := 0) (u := (Value.iface 161 (Value.pointer (some ⟨f164_b1, 0, none⟩)))) (rfl))) ?_)
     refine S_list (T_val (v := (Value.tuple #[(Value.pointer none), (Value.bool false)])) (by kernel_rfl) ?_)
     refine S_list (T_val (v := (Value.tuple #[(Value.pointer none), (Value.bool false)])) (x_move rfl) ?_)
     refine S_list (T_val (v := (Value.pointer none)) (by kernel_rfl) ?_)
     refine S_list (T_val (v := (Value.bool false)) (by kernel_rfl) ?_)
     refine S_list (T_val (v := (Value.pointer none)) (x_assign rfl) ?_)
     refine S_list (T_val (v := (Value.bool false)) (x_assign rfl) ?_)
     refine wpList_nil ?_
     refine (X_then (hK163_ _ _ ?_))
     clear hK163_
     refine C_seq (fun K167_ hK167_ => ?_)
     refine C_seq (fun K168_ hK168_ => ?_)
     refine C_reg ?_
     refine S_list (T_val (v := (Value.bool false)) (x_move rfl) ?_)
     refine S_list (T_val (v := (Value.bool true)) (x_cast (x_not (b := false) rfl) rfl) ?_)
     refine S_list (T_val (v := (Value.bool true)) (x_move rfl) ?_)
     refine S_no (j := 2) (dj := 231) (b := true) rfl rfl rfl (by decide) ?_
     refine S_no (j := 2) (dj := 231) (b := true) rfl rfl rfl (by decide) ?_
     refine S_no (j := 2) (dj := 231) (b := true) rfl rfl rfl (by decide) ?_
     refine S_no (j := 2) (dj := 231) (b := true) rfl rfl rfl (by decide) ?_
     refine S_no (j := 2) (dj := 231) (b := true) rfl rfl rfl (by decide) ?_
     refine S_list (T_pickT (v := (Value.bool true)) rfl rfl ?_)
     refine wpList_nil ?_
     refine (X_then (hK168_ _ _ ?_))
     clear hK168_
     refine C_condT rfl ?_
     refine C_exit (X_thenX (X_blkHit ?_))
     refine (X_then (hK155_ _ _ ?_))
     clear hK155_
     refine C_reg ?_
     refine S_list (T_val (v := (Value.int .i64 ((k5 : Int) + 1))) (x_bin rfl rfl (ib_add (IntWalk.i64_in _ (by omega)))) ?_)
     refine S_list (T_val (v := (Value.int .i64 ((k5 : Int) + 1))) (x_move rfl) ?_)
     refine wpList_nil ?_
     refine (X_then ?_)
     exact ⟨⟨k5 + 1, s2_v, t3_v, t4_v⟩, ⟨_, congrArg (fun e => mkA 270 e []) (ch (ch (ch (ch (ch (ch (ch (ch rfl rfl) rfl) rfl) rfl) rfl) rfl) rfl) (congrArg (Value.int .i64) ((by first | rfl | omega | (simp; done) | (simp; omega)) : (k5 : Int) + 1 = ((k5 + 1 : Nat) : Int)))), H150_, S151_, (by first | assumption | omega | exact rfl)⟩, by first | omega | (dsimp only; omega) | (simp; omega)⟩
   ·have c154_fp : ¬ ((k5 : Int) < ((List.length T) : Int)) := of_decide_eq_false c154_f
    refine C_exit (X_thenX (X_thenX (X_blkHit ?_)))
    refine (X_then (hK147_ _ _ ?_))
    clear hK147_
    refine C_seq (fun K169_ hK169_ => ?_)
    refine C_reg ?_
    refine S_list (T_val (v := (Value.map (some b39_))) (x_move rfl) ?_)
    refine S_list (T_val (v := (Value.iface 186 (Value.pointer (some ⟨b11_, 0, none⟩)))) (x_move rfl) ?_)
    refine S_list (T_val (v := (Value.map (some b39_))) (x_assign rfl) ?_)
    refine S_list (T_val (v := (Value.iface 186 (Value.pointer (some ⟨b11_, 0, none⟩)))) (x_assign rfl) ?_)
    refine S_list (T_val (v := (Value.nilIface)) (x_assign rfl) ?_)
    refine wpList_nil ?_
    refine (X_then (hK169_ _ _ ?_))
    clear hK169_
    refine C_ret ?_
    refine R_any (v := (Value.tuple #[(Value.map (some b39_)), (Value.iface 186 (Value.pointer (some ⟨b11_, 0, none⟩))), (Value.nilIface)])) (run_results3 rfl rfl rfl rfl) ?_
    have H170_ : Holds w149_ (ro R :: mp Value.string b39_ [] :: cl b11_ 188 [(Value.pointer (some ⟨b5_, 0, none⟩)), (Value.int .i64 0), (Value.pointer (some ⟨b5_, 0, none⟩))] :: cl b5_ 185 [(Value.nilIface), (Value.nilIface), (Value.nilIface), (Value.nilIface), (Value.pointer none), (Value.pointer none), (Value.pointer none), (Value.int .i64 0)] :: F) := (Holds.pkF H150_ [3, 0, 0, 0] 0 :)
    exact ⟨_, _, rfl, ⟨b39_, b11_, b5_, rfl, rfl⟩, S151_, H170_⟩

theorem ckIntervals (R : HP) (v : Value) (T : List Nat) (L : List RT) (hv : RS R 1 v (List.length T) (T.map pv)) (hT : All2 (OpAt R) T L) (hP : ∀ y ∈ L, Pln y) (hl : L.length ≤ 200) : Tri Try.prog 72 #[v] R [] (fun v__ post__ => ∃ (mb tb sb : Nat), v__ = (Value.tuple #[(Value.map (some mb)), (Value.iface 186 (Value.pointer (some ⟨tb, 0, none⟩))), (Value.nilIface)]) ∧ post__ = [mp Value.string mb [], cl tb 188 [(Value.pointer (some ⟨sb, 0, none⟩)), (Value.int .i64 0), (Value.pointer (some ⟨sb, 0, none⟩))], cl sb 185 [(Value.nilIface), (Value.nilIface), (Value.nilIface), (Value.nilIface), (Value.pointer none), (Value.pointer none), (Value.pointer none), (Value.int .i64 0)]]) := by
  have key : ∀ (n__ : Nat) (R : HP) (v : Value) (T : List Nat) (L : List RT) (hv : RS R 1 v (List.length T) (T.map pv)) (hT : All2 (OpAt R) T L) (hP : ∀ y ∈ L, Pln y) (hl : L.length ≤ 200) (hn__ : lsz L = n__), Tri Try.prog 72 #[v] R [] (fun v__ post__ => ∃ (mb tb sb : Nat), v__ = (Value.tuple #[(Value.map (some mb)), (Value.iface 186 (Value.pointer (some ⟨tb, 0, none⟩))), (Value.nilIface)]) ∧ post__ = [mp Value.string mb [], cl tb 188 [(Value.pointer (some ⟨sb, 0, none⟩)), (Value.int .i64 0), (Value.pointer (some ⟨sb, 0, none⟩))], cl sb 185 [(Value.nilIface), (Value.nilIface), (Value.nilIface), (Value.nilIface), (Value.pointer none), (Value.pointer none), (Value.pointer none), (Value.int .i64 0)]]) := by
    intro n__
    induction n__ using Nat.strongRecOn with
    | ind n__ ih => intro R v T L hv hT hP hl hn__; exact ckIntervals_step R v T L n__ hv hT hP hl (Nat.le_of_eq hn__) (fun R v T L hv hT hP hl hms => ih _ hms R v T L hv hT hP hl rfl)
  exact key _ R v T L hv hT hP hl rfl
end Go.Proofs.Ytlnihndjepjagaa
