/- Words, and proved steps, on which the proof leans. -/
import Derived.Test.YtlnihndjepjagaaGreatEc6
set_option linter.unusedVariables false
set_option linter.unusedSimpArgs false
namespace Go.Proofs.YtlnihndjepjagaaGreat
open Go Go.RowKit Gw Tryz
open Go.Value renaming int → vI, bool → vB, slice → vS, pointer → vP, agg → vA, tuple → vT

/-! ### Good rows -/
structure GoodR (x : RW) : Prop where
  m : 1 ≤ x.rev_Main
  s : 0 ≤ x.rev_Sub
  k0 : x.kV_Key.size ≠ 0
  k1 : x.kV_Key.size ≤ 60
  v1 : x.kV_Value.size ≤ 60
  g : x.gone = true → x.kV_Value = ByteArray.empty ∧ x.kV_Create = 0 ∧ x.kV_Mod = 0 ∧ x.kV_Version = 0 ∧ x.kV_Lease = 0
  n : x.gone = false → x.kV_Mod = x.rev_Main
def InR (x : RW) : Prop := (Lit.int .i64 x.rev_Main).wf = true ∧ (Lit.int .i64 x.rev_Sub).wf = true ∧ x.kV_Key.size ≤ maxLen ∧ x.kV_Value.size ≤ maxLen ∧ (Lit.int .i64 x.kV_Create).wf = true ∧ (Lit.int .i64 x.kV_Mod).wf = true ∧ (Lit.int .i64 x.kV_Version).wf = true ∧ (Lit.int .i64 x.kV_Lease).wf = true
theorem i64_wf {x : Int} (h : (Lit.int .i64 x).wf = true) : i64 x := by
  unfold i64
  simp only [Lit.wf, IntKind.min, IntKind.max, IntKind.signed, IntKind.bits, Bool.and_eq_true, decide_eq_true_eq, if_true] at h
  omega
theorem GoodR.ok {x : RW} (h : GoodR x) (hi : InR x) : RWok x := by
  obtain ⟨h1, h2, h3, h4, h5, h6, h7, h8⟩ := hi
  have e1 := i64_wf h1
  have e2 := i64_wf h2
  have g1 := h.m
  have g2 := h.s
  have g3 := h.k1
  have g4 := h.v1
  exact ⟨by omega, e1.2, h.s, e2.2, i64_wf h5, i64_wf h6, i64_wf h7, i64_wf h8, h.k0, by omega, by omega⟩
theorem good_ev {x : RW} (h : GoodR x) : evOf x = evSp x := by
  unfold evOf evSp RW.ks RW.vs
  rw [strI, strI]
  cases hg : x.gone
  · simp [h.n hg]
  · obtain ⟨e1, e2, e3, e4, e5⟩ := h.g hg
    simp [e1, e2, e4, e5]
theorem good_sel {M : List GW} {L : List RW} (h : ∀ x ∈ L, GoodR x) : (selR M L).map evOf = specL M L := by
  unfold selR specL sawB
  have e : (fun x : RW => M.any (fun w => seesB w (strN x.ks))) = (fun x : RW => M.any (fun w => seesB w x.kV_Key)) := by
    funext x
    unfold RW.ks
    rw [strI]
  rw [e]
  refine List.map_congr_left fun x hx => good_ev (h x (List.mem_filter.1 hx).1)
theorem goodr_snoc {L : List RW} {k : Nat} {x : RW} (h : ∀ y ∈ L.take k, GoodR y) (hx : L[k]? = some x) (hq : GoodR x) : ∀ y ∈ L.take (k + 1), GoodR y := by
  rw [take_snoc hx]
  intro y hy
  rcases List.mem_append.1 hy with hy | hy
  · exact h y hy
  · rw [List.mem_singleton.1 hy]; exact hq


set_option maxHeartbeats 1600000 in
theorem lwEqE (R : HP) (v1 v2 : Value) (A B : List EV) (h1 : RS R 7 v1 (List.length A) (A.flatMap EV.cells)) (h2 : RS R 7 v2 (List.length B) (B.flatMap EV.cells)) (hAB : A = B) (hl : A.length ≤ 1000) :
    Tri Tryz.prog 18 #[v1, v2] R [] (fun v__ post__ => v__ = (vB true) ∧ post__ = []) := by
 have hbb_ : ∀ a : ByteArray, (a == a) = true := fun a => (Go.MapKept.bytes_beq a a).2 rfl
 have hABl_ : A.length = B.length := by rw [hAB]
 refine Tri.into (n := 26) (al := [v1, v2]) func18 rfl ntmps18 rfl rfl fun w F H => ?_
 refine cR fun _ hK1_ => ?_
 refine sv (v := (vB false)) (x_assign rfl) ?_
 refine wn (hK1_ _ _ ?_)
 refine C_seq (fun _ hK2_ => ?_)
 refine cR fun _ hK3_ => ?_
 refine sv (v := v1) (x_move rfl) ?_
 refine sv (v := (vI .i64 ((List.length A) : Int))) (x_lenRS rfl h1 underlying27) ?_
 refine sv (v := v2) (x_move rfl) ?_
 refine sv (v := (vI .i64 ((List.length B) : Int))) (x_lenRS rfl h2 underlying27) ?_
 refine sv (v := (vB (decide (((List.length A) : Int) ≠ ((List.length B) : Int))))) (x_bin rfl rfl rfl) ?_
 refine wn (hK3_ _ _ ?_)
 refine C_cond (b := decide (((List.length A) : Int) ≠ ((List.length B) : Int))) rfl (fun c4_t => ?_) (fun c4_f => ?_)
 ·have c4_tp : ((List.length A) : Int) ≠ ((List.length B) : Int) := of_decide_eq_true c4_t
  omega
 ·have c4_fp : ¬ (((List.length A) : Int) ≠ ((List.length B) : Int)) := of_decide_eq_false c4_f
  refine C_skip (X_then (hK2_ _ _ ?_))
  refine C_seq (fun _ hK5_ => ?_)
  refine cR fun _ hK6_ => ?_
  refine sv (v := v1) (x_move rfl) ?_
  refine sv (v := (vI .i64 ((List.length A) : Int))) (x_lenRS rfl h1 underlying27) ?_
  refine sm (vI .i64 0) ?_
  refine wn (hK6_ _ _ ?_)
  refine C_block ?_
  refine C_loop (γ := Nat × Bool) (fun x__ a__ w1__ => match x__ with | ⟨k, t4_v⟩ => ∃ h : Env, a__ = mkA 26 (upd (upd (upd (upd (upd h 0 v1) 1 v2) 4 (vB t4_v)) 12 (vI .i64 ((List.length A) : Int))) 13 (vI .i64 (k : Int))) [] ∧ Holds w1__ (ro R :: F) ∧ Same w w1__ ∧ (k ≤ A.length)) (fun x__ => match x__ with | ⟨k, t4_v⟩ => A.length - k) (⟨0, false⟩) ⟨_, congrArg (fun e => mkA 26 e []) (ch (ch (ch (ch (ch rfl rfl) rfl) rfl) rfl) (congrArg (vI .i64) ((by first | rfl | omega | (simp; done) | (simp; omega)) : 0 = (0 : Int)))), H, (Same.refl w), (by first | assumption | omega | exact rfl)⟩ ?_
  rintro ⟨k, t4_v⟩ _ w7_ ⟨h, rfl, H8_, S9_, hkk⟩
  refine cR fun _ hK10_ => ?_
  refine sv (v := (vB (decide ((k : Int) < ((List.length A) : Int))))) (x_bin rfl rfl rfl) ?_
  refine wn (hK10_ _ _ ?_)
  refine C_seq (fun _ hK11_ => ?_)
  refine C_cond (b := decide ((k : Int) < ((List.length A) : Int))) rfl (fun c12_t => ?_) (fun c12_f => ?_)
  ·have c12_tp : (k : Int) < ((List.length A) : Int) := of_decide_eq_true c12_t
   refine C_skip (X_then (hK11_ _ _ ?_))
   refine C_seq (fun _ hK13_ => ?_)
   refine C_block ?_
   refine cR fun _ hK14_ => ?_
   refine sm (vI .i64 (k : Int)) ?_
   refine sv (v := (vI .i64 (k : Int))) (x_assign rfl) ?_
   refine wn (hK14_ _ _ ?_)
   refine C_seq (fun _ hK15_ => ?_)
   refine A_start (S := fun w => Sub R (hp w)) (N := 9) foll rfl rfl ?_
   have H16_ := Holds.drew_ H8_
   have hq17_ := ((Holds.ro_at H16_ 0 rfl))
   refine A_tk 0 (v := v1) rfl (by kernel_rfl) (fun w hS => x_move rfl) hq17_ ?_
   refine A_tk 1 (v := (vI .i64 (k : Int))) rfl (by kernel_rfl) (fun w hS => x_move rfl) hq17_ ?_
   obtain ⟨x18_, hx19_, hm20_⟩ := elem_at A k (by omega)
   refine A_tk 2 (v := (vP (some ⟨(sb v1), so v1 + (k * 7 + 0), none⟩))) rfl (by kernel_rfl) (fun w hS => x_idxRS (v := v1) rfl h1 rfl underlying27 z54 (by omega) (by omega) (by omega : _ = k) rfl) hq17_ ?_
   refine A_tk 3 (v := (vA #[(vB x18_.gone), (Value.string x18_.kV_Key), (Value.string x18_.kV_Value), (vI .i64 x18_.kV_Create), (vI .i64 x18_.kV_Mod), (vI .i64 x18_.kV_Version), (vI .i64 x18_.kV_Lease)])) rfl (by kernel_rfl) (fun w hS => x_loadN (vs := [(vB x18_.gone), (Value.string x18_.kV_Key), (Value.string x18_.kV_Value), (vI .i64 x18_.kV_Create), (vI .i64 x18_.kV_Mod), (vI .i64 x18_.kV_Version), (vI .i64 x18_.kV_Lease)]) rfl underlying54 rfl z54 rfl (RC.cells (RS.rc h1) hS (k * 7 + 0) (fm_cells EV.len hx19_ (i := 0) rfl))) hq17_ ?_
   refine A_tk 4 (v := v2) rfl (by kernel_rfl) (fun w hS => x_move rfl) hq17_ ?_
   refine A_tk 5 (v := (vI .i64 (k : Int))) rfl (by kernel_rfl) (fun w hS => x_move rfl) hq17_ ?_
   obtain ⟨x21_, hx22_, hm23_⟩ := elem_at B k (by omega)
   have hxy24_ : x21_ = x18_ := by rw [← hAB, hx19_] at hx22_; exact (Option.some.inj hx22_).symm
   refine A_tk 6 (v := (vP (some ⟨(sb v2), so v2 + (k * 7 + 0), none⟩))) rfl (by kernel_rfl) (fun w hS => x_idxRS (v := v2) rfl h2 rfl underlying27 z54 (by omega) (by omega) (by omega : _ = k) rfl) hq17_ ?_
   refine A_tk 7 (v := (vA #[(vB x21_.gone), (Value.string x21_.kV_Key), (Value.string x21_.kV_Value), (vI .i64 x21_.kV_Create), (vI .i64 x21_.kV_Mod), (vI .i64 x21_.kV_Version), (vI .i64 x21_.kV_Lease)])) rfl (by kernel_rfl) (fun w hS => x_loadN (vs := [(vB x21_.gone), (Value.string x21_.kV_Key), (Value.string x21_.kV_Value), (vI .i64 x21_.kV_Create), (vI .i64 x21_.kV_Mod), (vI .i64 x21_.kV_Version), (vI .i64 x21_.kV_Lease)]) rfl underlying54 rfl z54 rfl (RC.cells (RS.rc h2) hS (k * 7 + 0) (fm_cells EV.len hx22_ (i := 0) rfl))) hq17_ ?_
   refine A_tk 8 (v := (vB (!((x18_.gone == x21_.gone) && (((x18_.kV_Key == x21_.kV_Key) && ((x18_.kV_Value == x21_.kV_Value) && ((decide (x18_.kV_Create = x21_.kV_Create)) && ((decide (x18_.kV_Mod = x21_.kV_Mod)) && ((decide (x18_.kV_Version = x21_.kV_Version)) && ((decide (x18_.kV_Lease = x21_.kV_Lease)) && (true))))))) && (true)))))) rfl (by kernel_rfl) (fun w hS => x_neqS rfl rfl (by kernel_rfl) (eq_struct underlying54 (by kernel_rfl) (eqf_cons rfl (run_part1 underlying4 rfl rfl) (run_part1 underlying4 rfl rfl) (eq_bool underlying4) (eqf_cons rfl (run_partN underlying52 rfl z52) (run_partN underlying52 rfl z52) (eq_struct underlying52 (by kernel_rfl) (eqf_cons rfl (run_part1 underlying9 rfl rfl) (run_part1 underlying9 rfl rfl) (eq_str underlying9) (eqf_cons rfl (run_part1 underlying9 rfl rfl) (run_part1 underlying9 rfl rfl) (eq_str underlying9) (eqf_cons rfl (run_part1 underlying2 rfl rfl) (run_part1 underlying2 rfl rfl) (eq_int underlying2) (eqf_cons rfl (run_part1 underlying2 rfl rfl) (run_part1 underlying2 rfl rfl) (eq_int underlying2) (eqf_cons rfl (run_part1 underlying2 rfl rfl) (run_part1 underlying2 rfl rfl) (eq_int underlying2) (eqf_cons rfl (run_part1 underlying2 rfl rfl) (run_part1 underlying2 rfl rfl) (eq_int underlying2) (eqf_nil)))))))) (eqf_nil))))) hq17_ ?_
   refine A_done (by kernel_rfl) ?_
   refine (X_then (hK15_ _ _ ?_))
   refine C_cond (b := !((x18_.gone == x21_.gone) && (((x18_.kV_Key == x21_.kV_Key) && ((x18_.kV_Value == x21_.kV_Value) && ((decide (x18_.kV_Create = x21_.kV_Create)) && ((decide (x18_.kV_Mod = x21_.kV_Mod)) && ((decide (x18_.kV_Version = x21_.kV_Version)) && ((decide (x18_.kV_Lease = x21_.kV_Lease)) && (true))))))) && (true)))) rfl (fun c25_t => ?_) (fun c25_f => ?_)
   ·skip
    (rw [hxy24_] at c25_t; simp [hbb_] at c25_t)
   ·skip
    refine C_skip (X_blkN (X_then (hK13_ _ _ ?_)))
    refine C_reg ?_
    refine sv (v := (vI .i64 ((k : Int) + 1))) (x_bin rfl rfl (ib_add (IntWalk.i64_in _ (by omega)))) ?_
    refine sm (vI .i64 ((k : Int) + 1)) ?_
    refine wpList_nil (X_then ?_)
    exact ⟨⟨k + 1, t4_v⟩, ⟨_, congrArg (fun e => mkA 26 e []) (ch (ch (ch (ch (ch rfl rfl) rfl) rfl) rfl) (congrArg (vI .i64) ((by first | rfl | omega | (simp; done) | (simp; omega)) : (k : Int) + 1 = ((k + 1 : Nat) : Int)))), H16_, (Same.trans S9_ (Same.drew _)), (by first | assumption | omega | exact rfl)⟩, by first | omega | (dsimp only; omega) | (simp; omega)⟩
  ·have c12_fp : ¬ ((k : Int) < ((List.length A) : Int)) := of_decide_eq_false c12_f
   refine C_exit (X_thenX (X_thenX (X_blkHit ?_)))
   refine (X_then (hK5_ _ _ ?_))
   refine cR fun _ hK26_ => ?_
   refine sv (v := (vB true)) (x_assign rfl) ?_
   refine wn (hK26_ _ _ ?_)
   refine C_ret ?_
   refine R_any (v := (vB true)) (run_results1 rfl rfl) ?_
   exact ⟨_, _, rfl, ⟨rfl, rfl⟩, S9_, H8_⟩

set_option maxHeartbeats 1600000 in
theorem lwF31 (R : HP) (v : Value) (L : List RW) (hL : RS R 9 v L.length (L.flatMap RW.cells)) :
    Tri Tryz.prog 14 #[v] R [] (fun v__ post__ => ∃ (b : Bool), v__ = (vB b) ∧ post__ = [] ∧ (b = true → L.length ≤ 2147483647)) := by
 refine Tri.into (n := 18) (al := [v]) func14 rfl ntmps14 rfl rfl fun w F H => ?_
 refine cR fun _ hK1_ => ?_
 refine sv (v := (vB false)) (x_assign rfl) ?_
 refine wn (hK1_ _ _ ?_)
 refine C_seq (fun _ hK2_ => ?_)
 refine cR fun _ hK3_ => ?_
 refine sv (v := v) (x_move rfl) ?_
 refine sv (v := (vI .i64 (L.length : Int))) (x_lenRS rfl hL underlying47) ?_
 refine sv (v := (vB (decide (2147483647 < (L.length : Int))))) (x_bin rfl rfl rfl) ?_
 refine wn (hK3_ _ _ ?_)
 refine C_cond (b := decide (2147483647 < (L.length : Int))) rfl (fun c4_t => ?_) (fun c4_f => ?_)
 ·have c4_tp : 2147483647 < (L.length : Int) := of_decide_eq_true c4_t
  refine cR fun _ hK5_ => ?_
  refine sv (v := (vB false)) (x_assign rfl) ?_
  refine wn (hK5_ _ _ ?_)
  refine C_ret (X_thenR ?_)
  refine R_any (v := (vB false)) (run_results1 rfl rfl) ?_
  exact ⟨_, _, rfl, ⟨false, rfl, rfl, (fun h => by cases h)⟩, (Same.refl w), H⟩
 ·have c4_fp : ¬ (2147483647 < (L.length : Int)) := of_decide_eq_false c4_f
  refine C_skip (X_then (hK2_ _ _ ?_))
  refine C_seq (fun _ hK6_ => ?_)
  refine cR fun _ hK7_ => ?_
  refine sv (v := v) (x_move rfl) ?_
  refine sv (v := (vI .i64 (L.length : Int))) (x_lenRS rfl hL underlying47) ?_
  refine sm (vI .i64 0) ?_
  refine wn (hK7_ _ _ ?_)
  refine C_block ?_
  refine C_loop (γ := Nat × Bool) (fun x__ a__ w1__ => match x__ with | ⟨k, t2_v⟩ => ∃ h : Env, a__ = mkA 18 (upd (upd (upd (upd h 2 (vB t2_v)) 8 v) 9 (vI .i64 (L.length : Int))) 10 (vI .i64 (k : Int))) [] ∧ Holds w1__ (ro R :: F) ∧ Same w w1__ ∧ (k ≤ L.length)) (fun x__ => match x__ with | ⟨k, t2_v⟩ => L.length - k) (⟨0, false⟩) ⟨_, congrArg (fun e => mkA 18 e []) (ch (ch (ch (ch rfl rfl) rfl) rfl) (congrArg (vI .i64) ((by first | rfl | omega | (simp; done) | (simp; omega)) : 0 = (0 : Int)))), H, (Same.refl w), (by first | assumption | omega | exact rfl)⟩ ?_
  rintro ⟨k, t2_v⟩ _ w8_ ⟨h, rfl, H9_, S10_, hkk⟩
  refine cR fun _ hK11_ => ?_
  refine sv (v := (vB (decide ((k : Int) < (L.length : Int))))) (x_bin rfl rfl rfl) ?_
  refine wn (hK11_ _ _ ?_)
  refine C_seq (fun _ hK12_ => ?_)
  refine C_cond (b := decide ((k : Int) < (L.length : Int))) rfl (fun c13_t => ?_) (fun c13_f => ?_)
  ·have c13_tp : (k : Int) < (L.length : Int) := of_decide_eq_true c13_t
   refine C_skip (X_then (hK12_ _ _ ?_))
   refine C_seq (fun _ hK14_ => ?_)
   refine C_block ?_
   refine cR fun _ hK15_ => ?_
   obtain ⟨x16_, hx17_, hm18_⟩ := elem_at L k (by omega)
   refine sv (v := (vP (some ⟨(sb v), so v + (k * 9 + 0), none⟩))) (x_idxRS (v := v) rfl hL rfl underlying47 z70 (by omega) (by omega) (by omega : _ = k) rfl) ?_
   refine sv (v := (vA #[(vI .i64 x16_.rev_Main), (vI .i64 x16_.rev_Sub), (vB x16_.gone), (Value.string x16_.kV_Key), (Value.string x16_.kV_Value), (vI .i64 x16_.kV_Create), (vI .i64 x16_.kV_Mod), (vI .i64 x16_.kV_Version), (vI .i64 x16_.kV_Lease)])) (x_loadN (vs := [(vI .i64 x16_.rev_Main), (vI .i64 x16_.rev_Sub), (vB x16_.gone), (Value.string x16_.kV_Key), (Value.string x16_.kV_Value), (vI .i64 x16_.kV_Create), (vI .i64 x16_.kV_Mod), (vI .i64 x16_.kV_Version), (vI .i64 x16_.kV_Lease)]) rfl underlying70 rfl z70 rfl (RC.cells (RS.rc hL) (Holds.ro_at H9_ 0 rfl) (k * 9 + 0) (fm_cells RW.len hx17_ (i := 0) rfl))) ?_
   refine S_list (T_alloc z70 H9_ ?_)
   intro b19_ w20_ S22_ H21_
   have S23_ := Same.trans S10_ S22_
   refine S_list0 (T_storeN (vs := [(vI .i64 x16_.rev_Main), (vI .i64 x16_.rev_Sub), (vB x16_.gone), (Value.string x16_.kV_Key), (Value.string x16_.kV_Value), (vI .i64 x16_.kV_Create), (vI .i64 x16_.kV_Mod), (vI .i64 x16_.kV_Version), (vI .i64 x16_.kV_Lease)]) rfl rfl z70 rfl (by simp [Value.oneCell']) H21_ 0 rfl (Nat.le_of_ble_eq_true (by rfl)) ?_)
   intro w24_ S26_ H25_
   have S27_ := Same.trans S23_ S26_
   refine wn (hK15_ _ _ ?_)
   refine cR fun _ hK28_ => ?_
   refine sv (v := (vA #[(vI .i64 x16_.rev_Main), (vI .i64 x16_.rev_Sub), (vB x16_.gone), (Value.string x16_.kV_Key), (Value.string x16_.kV_Value), (vI .i64 x16_.kV_Create), (vI .i64 x16_.kV_Mod), (vI .i64 x16_.kV_Version), (vI .i64 x16_.kV_Lease)])) (x_loadN (vs := [(vI .i64 x16_.rev_Main), (vI .i64 x16_.rev_Sub), (vB x16_.gone), (Value.string x16_.kV_Key), (Value.string x16_.kV_Value), (vI .i64 x16_.kV_Create), (vI .i64 x16_.kV_Mod), (vI .i64 x16_.kV_Version), (vI .i64 x16_.kV_Lease)]) rfl underlying70 rfl z70 rfl (Rd.cells (Holds.rd H25_ 0 rfl) 0 rfl)) ?_
   refine S_list (T_callW (al := [(vA #[(vI .i64 x16_.rev_Main), (vI .i64 x16_.rev_Sub), (vB x16_.gone), (Value.string x16_.kV_Key), (Value.string x16_.kV_Value), (vI .i64 x16_.kV_Create), (vI .i64 x16_.kV_Mod), (vI .i64 x16_.kV_Version), (vI .i64 x16_.kV_Lease)])]) rfl rfl cb28 (Calls.into (n := 7) func28 rfl ntmps28 rfl rfl ?_))
   refine cR fun _ hK29_ => ?_
   refine S_list (T_box (v := (vA #[(vI .i64 x16_.rev_Main), (vI .i64 x16_.rev_Sub), (vB x16_.gone), (Value.string x16_.kV_Key), (Value.string x16_.kV_Value), (vI .i64 x16_.kV_Create), (vI .i64 x16_.kV_Mod), (vI .i64 x16_.kV_Version), (vI .i64 x16_.kV_Lease)])) rfl H25_ ?_)
   intro b30_ w31_ S33_ H32_
   have S34_ := Same.trans S27_ S33_
   refine sv (v := (vB false)) (x_assign rfl) ?_
   refine wn (hK29_ _ _ ?_)
   refine C_seq (fun _ hK35_ => ?_)
   refine cR fun _ hK36_ => ?_
   refine sv (v := (vP (some ⟨b30_, 3, none⟩))) (by kernel_rfl) ?_
   refine sv (v := (vA #[(Value.string x16_.kV_Key), (Value.string x16_.kV_Value), (vI .i64 x16_.kV_Create), (vI .i64 x16_.kV_Mod), (vI .i64 x16_.kV_Version), (vI .i64 x16_.kV_Lease)])) (x_loadN (vs := [(Value.string x16_.kV_Key), (Value.string x16_.kV_Value), (vI .i64 x16_.kV_Create), (vI .i64 x16_.kV_Mod), (vI .i64 x16_.kV_Version), (vI .i64 x16_.kV_Lease)]) rfl underlying52 rfl z52 rfl (Rd.cells (Holds.rd H32_ 0 rfl) 3 rfl)) ?_
   refine S_list (T_callW (al := [(vA #[(Value.string x16_.kV_Key), (Value.string x16_.kV_Value), (vI .i64 x16_.kV_Create), (vI .i64 x16_.kV_Mod), (vI .i64 x16_.kV_Version), (vI .i64 x16_.kV_Lease)])]) rfl rfl cb38 (Calls.into (n := 11) func38 rfl ntmps38 rfl rfl ?_))
   refine cR fun _ hK37_ => ?_
   refine S_list (T_box (v := (vA #[(Value.string x16_.kV_Key), (Value.string x16_.kV_Value), (vI .i64 x16_.kV_Create), (vI .i64 x16_.kV_Mod), (vI .i64 x16_.kV_Version), (vI .i64 x16_.kV_Lease)])) rfl H32_ ?_)
   intro b38_ w39_ S41_ H40_
   have S42_ := Same.trans S34_ S41_
   refine sv (v := (vB false)) (x_assign rfl) ?_
   refine wn (hK37_ _ _ ?_)
   refine C_seq (fun _ hK43_ => ?_)
   refine cR fun _ hK44_ => ?_
   refine sv (v := (vP (some ⟨b38_, 0, none⟩))) (by kernel_rfl) ?_
   refine sv (v := (Value.string x16_.kV_Key)) (x_load1 rfl underlying9 rfl ((Holds.rd H40_ 0 rfl) 0 (Value.string x16_.kV_Key) rfl)) ?_
   refine sv (v := (vI .i64 (x16_.kV_Key.size : Int))) (x_lenT rfl underlying9) ?_
   refine sv (v := (vB (decide (2147483647 < (x16_.kV_Key.size : Int))))) (x_bin rfl rfl rfl) ?_
   refine wn (hK44_ _ _ ?_)
   refine C_cond (b := decide (2147483647 < (x16_.kV_Key.size : Int))) rfl (fun c45_t => ?_) (fun c45_f => ?_)
   ·have c45_tp : 2147483647 < (x16_.kV_Key.size : Int) := of_decide_eq_true c45_t
    refine cR fun _ hK46_ => ?_
    refine sv (v := (vB false)) (x_assign rfl) ?_
    refine wn (hK46_ _ _ ?_)
    refine C_ret (X_thenR ?_)
    refine R_any (v := (vB false)) (run_results1 rfl rfl) ⟨_, rfl, ?_⟩
    refine sv (v := (vB true)) (x_cast (x_not (b := false) rfl) rfl) ?_
    refine wn (hK36_ _ _ ?_)
    refine C_condT rfl ?_
    refine cR fun _ hK47_ => ?_
    refine sv (v := (vB false)) (x_assign rfl) ?_
    refine wn (hK47_ _ _ ?_)
    refine C_ret (X_thenR ?_)
    refine R_any (v := (vB false)) (run_results1 rfl rfl) ⟨_, rfl, ?_⟩
    refine sv (v := (vB true)) (x_cast (x_not (b := false) rfl) rfl) ?_
    refine wn (hK28_ _ _ ?_)
    refine C_condT rfl ?_
    refine cR fun _ hK48_ => ?_
    refine sv (v := (vB false)) (x_assign rfl) ?_
    refine wn (hK48_ _ _ ?_)
    refine C_ret (X_blkR (X_thenR (X_thenR (X_blkR (X_thenR ?_)))))
    refine R_any (v := (vB false)) (run_results1 rfl rfl) ?_
    have H49_ := Holds.pkF H40_ [3] 3
    exact ⟨_, _, rfl, ⟨false, rfl, rfl, (fun h => by cases h)⟩, S42_, H49_⟩
   ·have c45_fp : ¬ (2147483647 < (x16_.kV_Key.size : Int)) := of_decide_eq_false c45_f
    refine C_skip (X_then (hK43_ _ _ ?_))
    refine C_seq (fun _ hK50_ => ?_)
    refine cR fun _ hK51_ => ?_
    refine sv (v := (vP (some ⟨b38_, 1, none⟩))) (by kernel_rfl) ?_
    refine sv (v := (Value.string x16_.kV_Value)) (x_load1 rfl underlying9 rfl ((Holds.rd H40_ 0 rfl) 1 (Value.string x16_.kV_Value) rfl)) ?_
    refine sv (v := (vI .i64 (x16_.kV_Value.size : Int))) (x_lenT rfl underlying9) ?_
    refine sv (v := (vB (decide (2147483647 < (x16_.kV_Value.size : Int))))) (x_bin rfl rfl rfl) ?_
    refine wn (hK51_ _ _ ?_)
    refine C_cond (b := decide (2147483647 < (x16_.kV_Value.size : Int))) rfl (fun c52_t => ?_) (fun c52_f => ?_)
    ·have c52_tp : 2147483647 < (x16_.kV_Value.size : Int) := of_decide_eq_true c52_t
     refine cR fun _ hK53_ => ?_
     refine sv (v := (vB false)) (x_assign rfl) ?_
     refine wn (hK53_ _ _ ?_)
     refine C_ret (X_thenR ?_)
     refine R_any (v := (vB false)) (run_results1 rfl rfl) ⟨_, rfl, ?_⟩
     refine sv (v := (vB true)) (x_cast (x_not (b := false) rfl) rfl) ?_
     refine wn (hK36_ _ _ ?_)
     refine C_condT rfl ?_
     refine cR fun _ hK54_ => ?_
     refine sv (v := (vB false)) (x_assign rfl) ?_
     refine wn (hK54_ _ _ ?_)
     refine C_ret (X_thenR ?_)
     refine R_any (v := (vB false)) (run_results1 rfl rfl) ⟨_, rfl, ?_⟩
     refine sv (v := (vB true)) (x_cast (x_not (b := false) rfl) rfl) ?_
     refine wn (hK28_ _ _ ?_)
     refine C_condT rfl ?_
     refine cR fun _ hK55_ => ?_
     refine sv (v := (vB false)) (x_assign rfl) ?_
     refine wn (hK55_ _ _ ?_)
     refine C_ret (X_blkR (X_thenR (X_thenR (X_blkR (X_thenR ?_)))))
     refine R_any (v := (vB false)) (run_results1 rfl rfl) ?_
     have H56_ := Holds.pkF H40_ [3] 3
     exact ⟨_, _, rfl, ⟨false, rfl, rfl, (fun h => by cases h)⟩, S42_, H56_⟩
    ·have c52_fp : ¬ (2147483647 < (x16_.kV_Value.size : Int)) := of_decide_eq_false c52_f
     refine C_skip (X_then (hK50_ _ _ ?_))
     refine cR fun _ hK57_ => ?_
     refine sv (v := (vB true)) (x_assign rfl) ?_
     refine wn (hK57_ _ _ ?_)
     refine C_ret ?_
     refine R_any (v := (vB true)) (run_results1 rfl rfl) ⟨_, rfl, ?_⟩
     refine sv (v := (vB false)) (x_cast (x_not (b := true) rfl) rfl) ?_
     refine wn (hK36_ _ _ ?_)
     refine C_condF rfl ?_
     refine C_skip (X_then (hK35_ _ _ ?_))
     refine cR fun _ hK58_ => ?_
     refine sv (v := (vB true)) (x_assign rfl) ?_
     refine wn (hK58_ _ _ ?_)
     refine C_ret ?_
     refine R_any (v := (vB true)) (run_results1 rfl rfl) ⟨_, rfl, ?_⟩
     refine sv (v := (vB false)) (x_cast (x_not (b := true) rfl) rfl) ?_
     refine wn (hK28_ _ _ ?_)
     refine C_condF rfl ?_
     refine C_skip (X_blkN (X_then (hK14_ _ _ ?_)))
     refine C_reg ?_
     refine sv (v := (vI .i64 ((k : Int) + 1))) (x_bin rfl rfl (ib_add (IntWalk.i64_in _ (by omega)))) ?_
     refine sm (vI .i64 ((k : Int) + 1)) ?_
     refine wpList_nil (X_then ?_)
     have H59_ := Holds.pkF H40_ [3] 3
     exact ⟨⟨k + 1, t2_v⟩, ⟨_, congrArg (fun e => mkA 18 e []) (ch (ch (ch (ch rfl rfl) rfl) rfl) (congrArg (vI .i64) ((by first | rfl | omega | (simp; done) | (simp; omega)) : (k : Int) + 1 = ((k + 1 : Nat) : Int)))), H59_, S42_, (by first | assumption | omega | exact rfl)⟩, by first | omega | (dsimp only; omega) | (simp; omega)⟩
  ·have c13_fp : ¬ ((k : Int) < (L.length : Int)) := of_decide_eq_false c13_f
   refine C_exit (X_thenX (X_thenX (X_blkHit ?_)))
   refine (X_then (hK6_ _ _ ?_))
   refine cR fun _ hK60_ => ?_
   refine sv (v := (vB true)) (x_assign rfl) ?_
   refine wn (hK60_ _ _ ?_)
   refine C_ret ?_
   refine R_any (v := (vB true)) (run_results1 rfl rfl) ?_
   exact ⟨_, _, rfl, ⟨true, rfl, rfl, (fun _ => by omega)⟩, S10_, H9_⟩
end Go.Proofs.YtlnihndjepjagaaGreat
set_option linter.unusedVariables false
set_option linter.unusedSimpArgs false
namespace Go.Proofs.YtlnihndjepjagaaGreat
open Go Go.RowKit Gw Tryz
open Go.Value renaming int → vI, bool → vB, slice → vS, pointer → vP, agg → vA, tuple → vT

set_option maxHeartbeats 1600000 in
theorem lLess (R : HP) (a b c d : Int) :
    Tri Tryz.prog 29 #[(vA #[(vI .i64 a), (vI .i64 b)]), (vA #[(vI .i64 c), (vI .i64 d)])] R [] (fun v__ post__ => ∃ (r : Bool), v__ = (vB r) ∧ post__ = []) := by
 refine Tri.into (n := 24) (al := [(vA #[(vI .i64 a), (vI .i64 b)]), (vA #[(vI .i64 c), (vI .i64 d)])]) func29 rfl ntmps29 rfl rfl fun w F H => ?_
 refine cR fun _ hK1_ => ?_
 refine S_list (T_box (v := (vA #[(vI .i64 a), (vI .i64 b)])) rfl H ?_)
 intro b2_ w3_ S5_ H4_
 have S6_ := Same.trans (Same.refl w) S5_
 refine S_list (T_box (v := (vA #[(vI .i64 c), (vI .i64 d)])) rfl H4_ ?_)
 intro b7_ w8_ S10_ H9_
 have S11_ := Same.trans S6_ S10_
 refine sv (v := (vB false)) (x_assign rfl) ?_
 refine wn (hK1_ _ _ ?_)
 refine cR fun _ hK12_ => ?_
 refine sv (v := (vP (some ⟨b2_, 0, none⟩))) (by kernel_rfl) ?_
 refine sv (v := (vI .i64 a)) (x_load1 rfl underlying2 rfl ((Holds.rd H9_ 1 rfl) 0 (vI .i64 a) rfl)) ?_
 refine sv (v := (vP (some ⟨b7_, 0, none⟩))) (by kernel_rfl) ?_
 refine sv (v := (vI .i64 c)) (x_load1 rfl underlying2 rfl ((Holds.rd H9_ 0 rfl) 0 (vI .i64 c) rfl)) ?_
 refine sv (v := (vB (decide (a < c)))) (x_bin rfl rfl rfl) ?_
 refine sm (vB (decide (a < c))) ?_
 rcases Bool.eq_false_or_eq_true (decide (a < c)) with c13_t | c13_f
 ·have c13_tp : a < c := of_decide_eq_true c13_t
  refine S_no (j := 5) (dj := 10) (b := true) rfl rfl (congrArg vB c13_t) (by decide) ?_
  refine S_no (j := 5) (dj := 10) (b := true) rfl rfl (congrArg vB c13_t) (by decide) ?_
  refine S_no (j := 5) (dj := 10) (b := true) rfl rfl (congrArg vB c13_t) (by decide) ?_
  refine S_no (j := 5) (dj := 10) (b := true) rfl rfl (congrArg vB c13_t) (by decide) ?_
  refine S_no (j := 5) (dj := 10) (b := true) rfl rfl (congrArg vB c13_t) (by decide) ?_
  refine S_no (j := 5) (dj := 10) (b := true) rfl rfl (congrArg vB c13_t) (by decide) ?_
  refine S_noU (j := 11) (dj := 16) rfl rfl rfl ?_
  refine S_noU (j := 11) (dj := 16) rfl rfl rfl ?_
  refine S_noU (j := 11) (dj := 16) rfl rfl rfl ?_
  refine S_noU (j := 11) (dj := 16) rfl rfl rfl ?_
  refine S_noU (j := 11) (dj := 16) rfl rfl rfl ?_
  refine S_no (j := 5) (dj := 10) (b := true) rfl rfl (congrArg vB c13_t) (by decide) ?_
  refine S_list (T_pickT (v := (vB true)) (congrArg vB c13_t) rfl ?_)
  refine sv (v := (vB true)) (x_assign rfl) ?_
  refine wn (hK12_ _ _ ?_)
  refine C_ret ?_
  refine R_any (v := (vB true)) (run_results1 rfl rfl) ?_
  have H14_ := Holds.pkF H9_ [2] 2
  exact ⟨_, _, rfl, ⟨true, rfl, rfl⟩, S11_, H14_⟩
 ·have c13_fp : ¬ (a < c) := of_decide_eq_false c13_f
  refine S_yes (j := 5) (dj := 10) (b := false) rfl rfl (congrArg vB c13_f) (T_val (v := (vP (some ⟨b2_, 0, none⟩))) (by kernel_rfl) ?_)
  refine S_yes (j := 5) (dj := 10) (b := false) rfl rfl (congrArg vB c13_f) (T_val (v := (vI .i64 a)) (x_load1 rfl underlying2 rfl ((Holds.rd H9_ 1 rfl) 0 (vI .i64 a) rfl)) ?_)
  refine S_yes (j := 5) (dj := 10) (b := false) rfl rfl (congrArg vB c13_f) (T_val (v := (vP (some ⟨b7_, 0, none⟩))) (by kernel_rfl) ?_)
  refine S_yes (j := 5) (dj := 10) (b := false) rfl rfl (congrArg vB c13_f) (T_val (v := (vI .i64 c)) (x_load1 rfl underlying2 rfl ((Holds.rd H9_ 0 rfl) 0 (vI .i64 c) rfl)) ?_)
  refine S_yes (j := 5) (dj := 10) (b := false) rfl rfl (congrArg vB c13_f) (T_val (v := (vB (decide (a = c)))) (x_bin rfl rfl rfl) ?_)
  refine S_yes (j := 5) (dj := 10) (b := false) rfl rfl (congrArg vB c13_f) (T_val (v := (vB (decide (a = c)))) (x_move rfl) ?_)
  rcases Bool.eq_false_or_eq_true (decide (a = c)) with c15_t | c15_f
  ·have c15_tp : a = c := of_decide_eq_true c15_t
   refine S_yes (j := 11) (dj := 16) (b := true) rfl rfl (congrArg vB c15_t) (T_val (v := (vP (some ⟨b2_, 1, none⟩))) (by kernel_rfl) ?_)
   refine S_yes (j := 11) (dj := 16) (b := true) rfl rfl (congrArg vB c15_t) (T_val (v := (vI .i64 b)) (x_load1 rfl underlying2 rfl ((Holds.rd H9_ 1 rfl) 1 (vI .i64 b) rfl)) ?_)
   refine S_yes (j := 11) (dj := 16) (b := true) rfl rfl (congrArg vB c15_t) (T_val (v := (vP (some ⟨b7_, 1, none⟩))) (by kernel_rfl) ?_)
   refine S_yes (j := 11) (dj := 16) (b := true) rfl rfl (congrArg vB c15_t) (T_val (v := (vI .i64 d)) (x_load1 rfl underlying2 rfl ((Holds.rd H9_ 0 rfl) 1 (vI .i64 d) rfl)) ?_)
   refine S_yes (j := 11) (dj := 16) (b := true) rfl rfl (congrArg vB c15_t) (T_val (v := (vB (decide (b < d)))) (x_bin rfl rfl rfl) ?_)
   refine S_yes (j := 5) (dj := 10) (b := false) rfl rfl (congrArg vB c13_f) (T_pickT (v := (vB (decide (b < d)))) (congrArg vB c15_t) rfl ?_)
   refine S_list (T_pickF (v := (vB (decide (b < d)))) (congrArg vB c13_f) rfl ?_)
   refine sv (v := (vB (decide (b < d)))) (x_assign rfl) ?_
   refine wn (hK12_ _ _ ?_)
   refine C_ret ?_
   refine R_any (v := (vB (decide (b < d)))) (run_results1 rfl rfl) ?_
   have H16_ := Holds.pkF H9_ [2] 2
   exact ⟨_, _, rfl, ⟨decide (b < d), rfl, rfl⟩, S11_, H16_⟩
  ·have c15_fp : ¬ (a = c) := of_decide_eq_false c15_f
   refine S_no (j := 11) (dj := 16) (b := false) rfl rfl (congrArg vB c15_f) (by decide) ?_
   refine S_no (j := 11) (dj := 16) (b := false) rfl rfl (congrArg vB c15_f) (by decide) ?_
   refine S_no (j := 11) (dj := 16) (b := false) rfl rfl (congrArg vB c15_f) (by decide) ?_
   refine S_no (j := 11) (dj := 16) (b := false) rfl rfl (congrArg vB c15_f) (by decide) ?_
   refine S_no (j := 11) (dj := 16) (b := false) rfl rfl (congrArg vB c15_f) (by decide) ?_
   refine S_yes (j := 5) (dj := 10) (b := false) rfl rfl (congrArg vB c13_f) (T_pickF (v := (vB false)) (congrArg vB c15_f) rfl ?_)
   refine S_list (T_pickF (v := (vB false)) (congrArg vB c13_f) rfl ?_)
   refine sv (v := (vB false)) (x_assign rfl) ?_
   refine wn (hK12_ _ _ ?_)
   refine C_ret ?_
   refine R_any (v := (vB false)) (run_results1 rfl rfl) ?_
   have H17_ := Holds.pkF H9_ [2] 2
   exact ⟨_, _, rfl, ⟨false, rfl, rfl⟩, S11_, H17_⟩

set_option maxHeartbeats 16000000 in
theorem lwRoGood (R : HP) (v : Value) (L : List RW) (hL : RS R 9 v L.length (L.flatMap RW.cells)) :
    Tri Tryz.prog 15 #[v] R [] (fun v__ post__ => ∃ (b : Bool), v__ = (vB b) ∧ post__ = [] ∧ (b = true → L.length ≤ 200 ∧ ∀ x ∈ L, GoodR x)) := by
 refine Tri.into (n := 112) (al := [v]) func15 rfl ntmps15 rfl rfl fun w F H => ?_
 refine cR fun _ hK1_ => ?_
 refine sv (v := (vB false)) (x_assign rfl) ?_
 refine wn (hK1_ _ _ ?_)
 refine C_seq (fun _ hK2_ => ?_)
 refine cR fun _ hK3_ => ?_
 refine sv (v := v) (x_move rfl) ?_
 refine sv (v := (vI .i64 (L.length : Int))) (x_lenRS rfl hL underlying47) ?_
 refine sv (v := (vB (decide (200 < (L.length : Int))))) (x_bin rfl rfl rfl) ?_
 refine wn (hK3_ _ _ ?_)
 refine C_cond (b := decide (200 < (L.length : Int))) rfl (fun c4_t => ?_) (fun c4_f => ?_)
 ·have c4_tp : 200 < (L.length : Int) := of_decide_eq_true c4_t
  refine cR fun _ hK5_ => ?_
  refine sv (v := (vB false)) (x_assign rfl) ?_
  refine wn (hK5_ _ _ ?_)
  refine C_ret (X_thenR ?_)
  refine R_any (v := (vB false)) (run_results1 rfl rfl) ?_
  exact ⟨_, _, rfl, ⟨false, rfl, rfl, (fun h => by cases h)⟩, (Same.refl w), H⟩
 ·have c4_fp : ¬ (200 < (L.length : Int)) := of_decide_eq_false c4_f
  refine C_skip (X_then (hK2_ _ _ ?_))
  refine C_seq (fun _ hK6_ => ?_)
  refine cR fun _ hK7_ => ?_
  refine sv (v := v) (x_move rfl) ?_
  refine sv (v := (vI .i64 (L.length : Int))) (x_lenRS rfl hL underlying47) ?_
  refine sm (vI .i64 0) ?_
  refine wn (hK7_ _ _ ?_)
  refine C_block ?_
  refine C_loop (γ := Nat × Bool) (fun x__ a__ w1__ => match x__ with | ⟨k, s2_v⟩ => ∃ h : Env, a__ = mkA 112 (upd (upd (upd (upd (upd h 0 v) 2 (vB s2_v)) 8 v) 9 (vI .i64 (L.length : Int))) 10 (vI .i64 (k : Int))) [] ∧ Holds w1__ (ro R :: F) ∧ Same w w1__ ∧ (k ≤ L.length) ∧ (∀ o ∈ L.take k, GoodR o)) (fun x__ => match x__ with | ⟨k, s2_v⟩ => L.length - k) (⟨0, false⟩) ⟨_, congrArg (fun e => mkA 112 e []) (ch (ch (ch (ch (ch rfl rfl) rfl) rfl) rfl) (congrArg (vI .i64) ((by first | rfl | omega | (simp; done) | (simp; omega)) : 0 = (0 : Int)))), H, (Same.refl w), (by first | assumption | omega | exact rfl), (fun o h => by simp at h)⟩ ?_
  rintro ⟨k, s2_v⟩ _ w8_ ⟨h, rfl, H9_, S10_, hkk, hok⟩
  refine cR fun _ hK11_ => ?_
  refine sv (v := (vB (decide ((k : Int) < (L.length : Int))))) (x_bin rfl rfl rfl) ?_
  refine wn (hK11_ _ _ ?_)
  refine C_seq (fun _ hK12_ => ?_)
  refine C_cond (b := decide ((k : Int) < (L.length : Int))) rfl (fun c13_t => ?_) (fun c13_f => ?_)
  ·have c13_tp : (k : Int) < (L.length : Int) := of_decide_eq_true c13_t
   refine C_skip (X_then (hK12_ _ _ ?_))
   refine C_seq (fun _ hK14_ => ?_)
   refine C_block ?_
   refine cR fun _ hK15_ => ?_
   refine sm (vI .i64 (k : Int)) ?_
   obtain ⟨x16_, hx17_, hm18_⟩ := elem_at L k (by omega)
   refine sv (v := (vP (some ⟨(sb v), so v + (k * 9 + 0), none⟩))) (x_idxRS (v := v) rfl hL rfl underlying47 z70 (by omega) (by omega) (by omega : _ = k) rfl) ?_
   refine sv (v := (vA #[(vI .i64 x16_.rev_Main), (vI .i64 x16_.rev_Sub), (vB x16_.gone), (Value.string x16_.kV_Key), (Value.string x16_.kV_Value), (vI .i64 x16_.kV_Create), (vI .i64 x16_.kV_Mod), (vI .i64 x16_.kV_Version), (vI .i64 x16_.kV_Lease)])) (x_loadN (vs := [(vI .i64 x16_.rev_Main), (vI .i64 x16_.rev_Sub), (vB x16_.gone), (Value.string x16_.kV_Key), (Value.string x16_.kV_Value), (vI .i64 x16_.kV_Create), (vI .i64 x16_.kV_Mod), (vI .i64 x16_.kV_Version), (vI .i64 x16_.kV_Lease)]) rfl underlying70 rfl z70 rfl (RC.cells (RS.rc hL) (Holds.ro_at H9_ 0 rfl) (k * 9 + 0) (fm_cells RW.len hx17_ (i := 0) rfl))) ?_
   refine S_list (T_alloc z70 H9_ ?_)
   intro b19_ w20_ S22_ H21_
   have S23_ := Same.trans S10_ S22_
   refine sv (v := (vI .i64 (k : Int))) (x_assign rfl) ?_
   refine S_list0 (T_storeN (vs := [(vI .i64 x16_.rev_Main), (vI .i64 x16_.rev_Sub), (vB x16_.gone), (Value.string x16_.kV_Key), (Value.string x16_.kV_Value), (vI .i64 x16_.kV_Create), (vI .i64 x16_.kV_Mod), (vI .i64 x16_.kV_Version), (vI .i64 x16_.kV_Lease)]) rfl rfl z70 rfl (by simp [Value.oneCell']) H21_ 0 rfl (Nat.le_of_ble_eq_true (by rfl)) ?_)
   intro w24_ S26_ H25_
   have S27_ := Same.trans S23_ S26_
   refine wn (hK15_ _ _ ?_)
   refine C_cut (fun a__ w1__ => ∃ s2_v : Bool, ∃ h : Env, a__ = mkA 112 (upd (upd (upd (upd (upd (upd h 0 v) 2 (vB s2_v)) 4 (vP (some ⟨b19_, 0, none⟩))) 8 v) 9 (vI .i64 (L.length : Int))) 10 (vI .i64 (k : Int))) [] ∧ Holds w1__ (cl b19_ 70 [(vI .i64 x16_.rev_Main), (vI .i64 x16_.rev_Sub), (vB x16_.gone), (Value.string x16_.kV_Key), (Value.string x16_.kV_Value), (vI .i64 x16_.kV_Create), (vI .i64 x16_.kV_Mod), (vI .i64 x16_.kV_Version), (vI .i64 x16_.kV_Lease)] :: ro R :: F) ∧ Same w w1__ ∧ (1 ≤ x16_.rev_Main ∧ 0 ≤ x16_.rev_Sub ∧ x16_.kV_Key.size ≠ 0 ∧ x16_.kV_Key.size ≤ 60 ∧ x16_.kV_Value.size ≤ 60)) ?_ ?_
   ·refine C_seq (fun _ hK31_ => ?_)
    refine A_start (S := fun w => Rd b19_ [(vI .i64 x16_.rev_Main), (vI .i64 x16_.rev_Sub), (vB x16_.gone), (Value.string x16_.kV_Key), (Value.string x16_.kV_Value), (vI .i64 x16_.kV_Create), (vI .i64 x16_.kV_Mod), (vI .i64 x16_.kV_Version), (vI .i64 x16_.kV_Lease)] w ∧ Sub R (hp w)) (N := 46) foll rfl rfl ?_
    have H32_ := Holds.drew_ H25_
    have hq33_ := And.intro (Holds.rd H32_ 0 rfl) ((Holds.ro_at H32_ 1 rfl))
    refine A_tk 0 (v := (vP (some ⟨b19_, 0, none⟩))) rfl (by kernel_rfl) (fun w hS => by kernel_rfl) hq33_ ?_
    refine A_tk 1 (v := (vP (some ⟨b19_, 0, none⟩))) rfl (by kernel_rfl) (fun w hS => by kernel_rfl) hq33_ ?_
    refine A_tk 2 (v := (vI .i64 x16_.rev_Main)) rfl (by kernel_rfl) (fun w hS => x_load1 rfl underlying2 rfl (hS.1 0 (vI .i64 x16_.rev_Main) rfl)) hq33_ ?_
    refine A_tk 3 (v := (vB (decide (x16_.rev_Main < 1)))) rfl (by kernel_rfl) (fun w hS => x_bin rfl rfl rfl) hq33_ ?_
    refine A_tk 4 (v := (vB (decide (x16_.rev_Main < 1)))) rfl (by kernel_rfl) (fun w hS => x_move rfl) hq33_ ?_
    rcases Bool.eq_false_or_eq_true (decide (x16_.rev_Main < 1)) with c34_t | c34_f
    ·have c34_tp : x16_.rev_Main < 1 := of_decide_eq_true c34_t
     refine A_tkN 5 (j := 4) (dj := 19) (b := true) rfl (by kernel_rfl) rfl rfl (congrArg vB c34_t) (by decide) hq33_ ?_
     refine A_tkN 6 (j := 4) (dj := 19) (b := true) rfl (by kernel_rfl) rfl rfl (congrArg vB c34_t) (by decide) hq33_ ?_
     refine A_tkN 7 (j := 4) (dj := 19) (b := true) rfl (by kernel_rfl) rfl rfl (congrArg vB c34_t) (by decide) hq33_ ?_
     refine A_tkN 8 (j := 4) (dj := 19) (b := true) rfl (by kernel_rfl) rfl rfl (congrArg vB c34_t) (by decide) hq33_ ?_
     refine A_tk 9 (v := (vB true)) rfl (by kernel_rfl) (fun w hS => (x_pickT (congrArg vB c34_t) rfl)) hq33_ ?_
     refine A_tk 10 (v := (vB true)) rfl (by kernel_rfl) (fun w hS => x_move rfl) hq33_ ?_
     refine A_tkN 11 (j := 10) (dj := 25) (b := true) rfl (by kernel_rfl) rfl rfl rfl (by decide) hq33_ ?_
     refine A_tkN 12 (j := 10) (dj := 25) (b := true) rfl (by kernel_rfl) rfl rfl rfl (by decide) hq33_ ?_
     refine A_tkN 13 (j := 10) (dj := 25) (b := true) rfl (by kernel_rfl) rfl rfl rfl (by decide) hq33_ ?_
     refine A_takeNoU 14 (ls' := #[true, true, true, true, true, true, true, true, true, true, true, true, true, true, true, false, false, false, false, false, false, false, false, false, false, false, false, false, false, false, false, false, false, false, false, false, false, false, false, false, false, false, false, false, false, false]) (j := 13) (dj := 28) rfl (by kernel_rfl) (by kernel_rfl) (by kernel_rfl) (by kernel_rfl) (fun _ _ _ h => h) rfl rfl rfl ⟨Holds.rd H32_ 0 rfl, (Holds.ro_at H32_ 1 rfl)⟩ ?_
     refine A_takeNoU 15 (ls' := #[true, true, true, true, true, true, true, true, true, true, true, true, true, true, true, true, false, false, false, false, false, false, false, false, false, false, false, false, false, false, false, false, false, false, false, false, false, false, false, false, false, false, false, false, false, false]) (j := 13) (dj := 28) rfl (by kernel_rfl) (by kernel_rfl) (by kernel_rfl) (by kernel_rfl) (fun _ _ _ h => h) rfl rfl rfl ⟨Holds.rd H32_ 0 rfl, (Holds.ro_at H32_ 1 rfl)⟩ ?_
     refine A_takeNoU 16 (ls' := #[true, true, true, true, true, true, true, true, true, true, true, true, true, true, true, true, true, false, false, false, false, false, false, false, false, false, false, false, false, false, false, false, false, false, false, false, false, false, false, false, false, false, false, false, false, false]) (j := 13) (dj := 28) rfl (by kernel_rfl) (by kernel_rfl) (by kernel_rfl) (by kernel_rfl) (fun _ _ _ h => h) rfl rfl rfl ⟨Holds.rd H32_ 0 rfl, (Holds.ro_at H32_ 1 rfl)⟩ ?_
     refine A_takeNoU 17 (ls' := #[true, true, true, true, true, true, true, true, true, true, true, true, true, true, true, true, true, true, false, false, false, false, false, false, false, false, false, false, false, false, false, false, false, false, false, false, false, false, false, false, false, false, false, false, false, false]) (j := 13) (dj := 28) rfl (by kernel_rfl) (by kernel_rfl) (by kernel_rfl) (by kernel_rfl) (fun _ _ _ h => h) rfl rfl rfl ⟨Holds.rd H32_ 0 rfl, (Holds.ro_at H32_ 1 rfl)⟩ ?_
     refine A_takeNoU 18 (ls' := #[true, true, true, true, true, true, true, true, true, true, true, true, true, true, true, true, true, true, true, false, false, false, false, false, false, false, false, false, false, false, false, false, false, false, false, false, false, false, false, false, false, false, false, false, false, false]) (j := 13) (dj := 28) rfl (by kernel_rfl) (by kernel_rfl) (by kernel_rfl) (by kernel_rfl) (fun _ _ _ h => h) rfl rfl rfl ⟨Holds.rd H32_ 0 rfl, (Holds.ro_at H32_ 1 rfl)⟩ ?_
     refine A_takeNoU 19 (ls' := #[true, true, true, true, true, true, true, true, true, true, true, true, true, true, true, true, true, true, true, true, false, false, false, false, false, false, false, false, false, false, false, false, false, false, false, false, false, false, false, false, false, false, false, false, false, false]) (j := 13) (dj := 28) rfl (by kernel_rfl) (by kernel_rfl) (by kernel_rfl) (by kernel_rfl) (fun _ _ _ h => h) rfl rfl rfl ⟨Holds.rd H32_ 0 rfl, (Holds.ro_at H32_ 1 rfl)⟩ ?_
     refine A_takeNoU 20 (ls' := #[true, true, true, true, true, true, true, true, true, true, true, true, true, true, true, true, true, true, true, true, true, false, false, false, false, false, false, false, false, false, false, false, false, false, false, false, false, false, false, false, false, false, false, false, false, false]) (j := 13) (dj := 28) rfl (by kernel_rfl) (by kernel_rfl) (by kernel_rfl) (by kernel_rfl) (fun _ _ _ h => h) rfl rfl rfl ⟨Holds.rd H32_ 0 rfl, (Holds.ro_at H32_ 1 rfl)⟩ ?_
     refine A_takeNoU 21 (ls' := #[true, true, true, true, true, true, true, true, true, true, true, true, true, true, true, true, true, true, true, true, true, true, false, false, false, false, false, false, false, false, false, false, false, false, false, false, false, false, false, false, false, false, false, false, false, false]) (j := 13) (dj := 28) rfl (by kernel_rfl) (by kernel_rfl) (by kernel_rfl) (by kernel_rfl) (fun _ _ _ h => h) rfl rfl rfl ⟨Holds.rd H32_ 0 rfl, (Holds.ro_at H32_ 1 rfl)⟩ ?_
     refine A_takeNoU 22 (ls' := #[true, true, true, true, true, true, true, true, true, true, true, true, true, true, true, true, true, true, true, true, true, true, true, false, false, false, false, false, false, false, false, false, false, false, false, false, false, false, false, false, false, false, false, false, false, false]) (j := 13) (dj := 28) rfl (by kernel_rfl) (by kernel_rfl) (by kernel_rfl) (by kernel_rfl) (fun _ _ _ h => h) rfl rfl rfl ⟨Holds.rd H32_ 0 rfl, (Holds.ro_at H32_ 1 rfl)⟩ ?_
     refine A_takeNoU 23 (ls' := #[true, true, true, true, true, true, true, true, true, true, true, true, true, true, true, true, true, true, true, true, true, true, true, true, false, false, false, false, false, false, false, false, false, false, false, false, false, false, false, false, false, false, false, false, false, false]) (j := 13) (dj := 28) rfl (by kernel_rfl) (by kernel_rfl) (by kernel_rfl) (by kernel_rfl) (fun _ _ _ h => h) rfl rfl rfl ⟨Holds.rd H32_ 0 rfl, (Holds.ro_at H32_ 1 rfl)⟩ ?_
     refine A_tkN 24 (j := 10) (dj := 25) (b := true) rfl (by kernel_rfl) rfl rfl rfl (by decide) hq33_ ?_
     refine A_tk 25 (v := (vB true)) rfl (by kernel_rfl) (fun w hS => (x_pickT rfl rfl)) hq33_ ?_
     refine A_tk 26 (v := (vB true)) rfl (by kernel_rfl) (fun w hS => x_move rfl) hq33_ ?_
     refine A_tkN 27 (j := 26) (dj := 41) (b := true) rfl (by kernel_rfl) rfl rfl rfl (by decide) hq33_ ?_
     refine A_tkN 28 (j := 26) (dj := 41) (b := true) rfl (by kernel_rfl) rfl rfl rfl (by decide) hq33_ ?_
     refine A_tkN 29 (j := 26) (dj := 41) (b := true) rfl (by kernel_rfl) rfl rfl rfl (by decide) hq33_ ?_
     refine A_tkN 30 (j := 26) (dj := 41) (b := true) rfl (by kernel_rfl) rfl rfl rfl (by decide) hq33_ ?_
     refine A_tk 31 (v := (vB true)) rfl (by kernel_rfl) (fun w hS => (x_pickT rfl rfl)) hq33_ ?_
     refine A_tk 32 (v := (vB true)) rfl (by kernel_rfl) (fun w hS => x_move rfl) hq33_ ?_
     refine A_tkN 33 (j := 32) (dj := 47) (b := true) rfl (by kernel_rfl) rfl rfl rfl (by decide) hq33_ ?_
     refine A_tkN 34 (j := 32) (dj := 47) (b := true) rfl (by kernel_rfl) rfl rfl rfl (by decide) hq33_ ?_
     refine A_tkN 35 (j := 32) (dj := 47) (b := true) rfl (by kernel_rfl) rfl rfl rfl (by decide) hq33_ ?_
     refine A_tkN 36 (j := 32) (dj := 47) (b := true) rfl (by kernel_rfl) rfl rfl rfl (by decide) hq33_ ?_
     refine A_tkN 37 (j := 32) (dj := 47) (b := true) rfl (by kernel_rfl) rfl rfl rfl (by decide) hq33_ ?_
     refine A_tk 38 (v := (vB true)) rfl (by kernel_rfl) (fun w hS => (x_pickT rfl rfl)) hq33_ ?_
     refine A_tk 39 (v := (vB true)) rfl (by kernel_rfl) (fun w hS => x_move rfl) hq33_ ?_
     refine A_tkN 40 (j := 39) (dj := 54) (b := true) rfl (by kernel_rfl) rfl rfl rfl (by decide) hq33_ ?_
     refine A_tkN 41 (j := 39) (dj := 54) (b := true) rfl (by kernel_rfl) rfl rfl rfl (by decide) hq33_ ?_
     refine A_tkN 42 (j := 39) (dj := 54) (b := true) rfl (by kernel_rfl) rfl rfl rfl (by decide) hq33_ ?_
     refine A_tkN 43 (j := 39) (dj := 54) (b := true) rfl (by kernel_rfl) rfl rfl rfl (by decide) hq33_ ?_
     refine A_tkN 44 (j := 39) (dj := 54) (b := true) rfl (by kernel_rfl) rfl rfl rfl (by decide) hq33_ ?_
     refine A_tk 45 (v := (vB true)) rfl (by kernel_rfl) (fun w hS => (x_pickT rfl rfl)) hq33_ ?_
     refine A_done (by kernel_rfl) ?_
     refine (X_then (hK31_ _ _ ?_))
     refine C_condT rfl ?_
     refine cR fun _ hK35_ => ?_
     refine sv (v := (vB false)) (x_assign rfl) ?_
     refine wn (hK35_ _ _ ?_)
     refine C_ret (X_thenR (X_blkR (X_thenR (X_thenR (X_blkR (X_thenR ?_))))))
     refine R_any (v := (vB false)) (run_results1 rfl rfl) ?_
     have H36_ := Holds.pkF H32_ [1] 1
     exact ⟨_, _, rfl, ⟨false, rfl, rfl, (fun h => by cases h)⟩, (Same.trans S27_ (Same.drew _)), H36_⟩
    ·have c34_fp : ¬ (x16_.rev_Main < 1) := of_decide_eq_false c34_f
     refine A_tkY 5 (j := 4) (dj := 19) (b := false) (v := (vP (some ⟨b19_, 0, none⟩))) rfl (by kernel_rfl) rfl rfl (congrArg vB c34_f) (fun w hS => by kernel_rfl) hq33_ ?_
     refine A_tkY 6 (j := 4) (dj := 19) (b := false) (v := (vP (some ⟨b19_, 1, none⟩))) rfl (by kernel_rfl) rfl rfl (congrArg vB c34_f) (fun w hS => by kernel_rfl) hq33_ ?_
     refine A_tkY 7 (j := 4) (dj := 19) (b := false) (v := (vI .i64 x16_.rev_Sub)) rfl (by kernel_rfl) rfl rfl (congrArg vB c34_f) (fun w hS => x_load1 rfl underlying2 rfl (hS.1 1 (vI .i64 x16_.rev_Sub) rfl)) hq33_ ?_
     refine A_tkY 8 (j := 4) (dj := 19) (b := false) (v := (vB (decide (x16_.rev_Sub < 0)))) rfl (by kernel_rfl) rfl rfl (congrArg vB c34_f) (fun w hS => x_bin rfl rfl rfl) hq33_ ?_
     refine A_tk 9 (v := (vB (decide (x16_.rev_Sub < 0)))) rfl (by kernel_rfl) (fun w hS => (x_pickF (congrArg vB c34_f) rfl)) hq33_ ?_
     refine A_tk 10 (v := (vB (decide (x16_.rev_Sub < 0)))) rfl (by kernel_rfl) (fun w hS => x_move rfl) hq33_ ?_
     rcases Bool.eq_false_or_eq_true (decide (x16_.rev_Sub < 0)) with c37_t | c37_f
     ·have c37_tp : x16_.rev_Sub < 0 := of_decide_eq_true c37_t
      refine A_tkN 11 (j := 10) (dj := 25) (b := true) rfl (by kernel_rfl) rfl rfl (congrArg vB c37_t) (by decide) hq33_ ?_
      refine A_tkN 12 (j := 10) (dj := 25) (b := true) rfl (by kernel_rfl) rfl rfl (congrArg vB c37_t) (by decide) hq33_ ?_
      refine A_tkN 13 (j := 10) (dj := 25) (b := true) rfl (by kernel_rfl) rfl rfl (congrArg vB c37_t) (by decide) hq33_ ?_
      refine A_takeNoU 14 (ls' := #[true, true, true, true, true, true, true, true, true, true, true, true, true, true, true, false, false, false, false, false, false, false, false, false, false, false, false, false, false, false, false, false, false, false, false, false, false, false, false, false, false, false, false, false, false, false]) (j := 13) (dj := 28) rfl (by kernel_rfl) (by kernel_rfl) (by kernel_rfl) (by kernel_rfl) (fun _ _ _ h => h) rfl rfl rfl ⟨Holds.rd H32_ 0 rfl, (Holds.ro_at H32_ 1 rfl)⟩ ?_
      refine A_takeNoU 15 (ls' := #[true, true, true, true, true, true, true, true, true, true, true, true, true, true, true, true, false, false, false, false, false, false, false, false, false, false, false, false, false, false, false, false, false, false, false, false, false, false, false, false, false, false, false, false, false, false]) (j := 13) (dj := 28) rfl (by kernel_rfl) (by kernel_rfl) (by kernel_rfl) (by kernel_rfl) (fun _ _ _ h => h) rfl rfl rfl ⟨Holds.rd H32_ 0 rfl, (Holds.ro_at H32_ 1 rfl)⟩ ?_
      refine A_takeNoU 16 (ls' := #[true, true, true, true, true, true, true, true, true, true, true, true, true, true, true, true, true, false, false, false, false, false, false, false, false, false, false, false, false, false, false, false, false, false, false, false, false, false, false, false, false, false, false, false, false, false]) (j := 13) (dj := 28) rfl (by kernel_rfl) (by kernel_rfl) (by kernel_rfl) (by kernel_rfl) (fun _ _ _ h => h) rfl rfl rfl ⟨Holds.rd H32_ 0 rfl, (Holds.ro_at H32_ 1 rfl)⟩ ?_
      refine A_takeNoU 17 (ls' := #[true, true, true, true, true, true, true, true, true, true, true, true, true, true, true, true, true, true, false, false, false, false, false, false, false, false, false, false, false, false, false, false, false, false, false, false, false, false, false, false, false, false, false, false, false, false]) (j := 13) (dj := 28) rfl (by kernel_rfl) (by kernel_rfl) (by kernel_rfl) (by kernel_rfl) (fun _ _ _ h => h) rfl rfl rfl ⟨Holds.rd H32_ 0 rfl, (Holds.ro_at H32_ 1 rfl)⟩ ?_
      refine A_takeNoU 18 (ls' := #[true, true, true, true, true, true, true, true, true, true, true, true, true, true, true, true, true, true, true, false, false, false, false, false, false, false, false, false, false, false, false, false, false, false, false, false, false, false, false, false, false, false, false, false, false, false]) (j := 13) (dj := 28) rfl (by kernel_rfl) (by kernel_rfl) (by kernel_rfl) (by kernel_rfl) (fun _ _ _ h => h) rfl rfl rfl ⟨Holds.rd H32_ 0 rfl, (Holds.ro_at H32_ 1 rfl)⟩ ?_
      refine A_takeNoU 19 (ls' := #[true, true, true, true, true, true, true, true, true, true, true, true, true, true, true, true, true, true, true, true, false, false, false, false, false, false, false, false, false, false, false, false, false, false, false, false, false, false, false, false, false, false, false, false, false, false]) (j := 13) (dj := 28) rfl (by kernel_rfl) (by kernel_rfl) (by kernel_rfl) (by kernel_rfl) (fun _ _ _ h => h) rfl rfl rfl ⟨Holds.rd H32_ 0 rfl, (Holds.ro_at H32_ 1 rfl)⟩ ?_
      refine A_takeNoU 20 (ls' := #[true, true, true, true, true, true, true, true, true, true, true, true, true, true, true, true, true, true, true, true, true, false, false, false, false, false, false, false, false, false, false, false, false, false, false, false, false, false, false, false, false, false, false, false, false, false]) (j := 13) (dj := 28) rfl (by kernel_rfl) (by kernel_rfl) (by kernel_rfl) (by kernel_rfl) (fun _ _ _ h => h) rfl rfl rfl ⟨Holds.rd H32_ 0 rfl, (Holds.ro_at H32_ 1 rfl)⟩ ?_
      refine A_takeNoU 21 (ls' := #[true, true, true, true, true, true, true, true, true, true, true, true, true, true, true, true, true, true, true, true, true, true, false, false, false, false, false, false, false, false, false, false, false, false, false, false, false, false, false, false, false, false, false, false, false, false]) (j := 13) (dj := 28) rfl (by kernel_rfl) (by kernel_rfl) (by kernel_rfl) (by kernel_rfl) (fun _ _ _ h => h) rfl rfl rfl ⟨Holds.rd H32_ 0 rfl, (Holds.ro_at H32_ 1 rfl)⟩ ?_
      refine A_takeNoU 22 (ls' := #[true, true, true, true, true, true, true, true, true, true, true, true, true, true, true, true, true, true, true, true, true, true, true, false, false, false, false, false, false, false, false, false, false, false, false, false, false, false, false, false, false, false, false, false, false, false]) (j := 13) (dj := 28) rfl (by kernel_rfl) (by kernel_rfl) (by kernel_rfl) (by kernel_rfl) (fun _ _ _ h => h) rfl rfl rfl ⟨Holds.rd H32_ 0 rfl, (Holds.ro_at H32_ 1 rfl)⟩ ?_
      refine A_takeNoU 23 (ls' := #[true, true, true, true, true, true, true, true, true, true, true, true, true, true, true, true, true, true, true, true, true, true, true, true, false, false, false, false, false, false, false, false, false, false, false, false, false, false, false, false, false, false, false, false, false, false]) (j := 13) (dj := 28) rfl (by kernel_rfl) (by kernel_rfl) (by kernel_rfl) (by kernel_rfl) (fun _ _ _ h => h) rfl rfl rfl ⟨Holds.rd H32_ 0 rfl, (Holds.ro_at H32_ 1 rfl)⟩ ?_
      refine A_tkN 24 (j := 10) (dj := 25) (b := true) rfl (by kernel_rfl) rfl rfl (congrArg vB c37_t) (by decide) hq33_ ?_
      refine A_tk 25 (v := (vB true)) rfl (by kernel_rfl) (fun w hS => (x_pickT (congrArg vB c37_t) rfl)) hq33_ ?_
      refine A_tk 26 (v := (vB true)) rfl (by kernel_rfl) (fun w hS => x_move rfl) hq33_ ?_
      refine A_tkN 27 (j := 26) (dj := 41) (b := true) rfl (by kernel_rfl) rfl rfl rfl (by decide) hq33_ ?_
      refine A_tkN 28 (j := 26) (dj := 41) (b := true) rfl (by kernel_rfl) rfl rfl rfl (by decide) hq33_ ?_
      refine A_tkN 29 (j := 26) (dj := 41) (b := true) rfl (by kernel_rfl) rfl rfl rfl (by decide) hq33_ ?_
      refine A_tkN 30 (j := 26) (dj := 41) (b := true) rfl (by kernel_rfl) rfl rfl rfl (by decide) hq33_ ?_
      refine A_tk 31 (v := (vB true)) rfl (by kernel_rfl) (fun w hS => (x_pickT rfl rfl)) hq33_ ?_
      refine A_tk 32 (v := (vB true)) rfl (by kernel_rfl) (fun w hS => x_move rfl) hq33_ ?_
      refine A_tkN 33 (j := 32) (dj := 47) (b := true) rfl (by kernel_rfl) rfl rfl rfl (by decide) hq33_ ?_
      refine A_tkN 34 (j := 32) (dj := 47) (b := true) rfl (by kernel_rfl) rfl rfl rfl (by decide) hq33_ ?_
      refine A_tkN 35 (j := 32) (dj := 47) (b := true) rfl (by kernel_rfl) rfl rfl rfl (by decide) hq33_ ?_
      refine A_tkN 36 (j := 32) (dj := 47) (b := true) rfl (by kernel_rfl) rfl rfl rfl (by decide) hq33_ ?_
      refine A_tkN 37 (j := 32) (dj := 47) (b := true) rfl (by kernel_rfl) rfl rfl rfl (by decide) hq33_ ?_
      refine A_tk 38 (v := (vB true)) rfl (by kernel_rfl) (fun w hS => (x_pickT rfl rfl)) hq33_ ?_
      refine A_tk 39 (v := (vB true)) rfl (by kernel_rfl) (fun w hS => x_move rfl) hq33_ ?_
      refine A_tkN 40 (j := 39) (dj := 54) (b := true) rfl (by kernel_rfl) rfl rfl rfl (by decide) hq33_ ?_
      refine A_tkN 41 (j := 39) (dj := 54) (b := true) rfl (by kernel_rfl) rfl rfl rfl (by decide) hq33_ ?_
      refine A_tkN 42 (j := 39) (dj := 54) (b := true) rfl (by kernel_rfl) rfl rfl rfl (by decide) hq33_ ?_
      refine A_tkN 43 (j := 39) (dj := 54) (b := true) rfl (by kernel_rfl) rfl rfl rfl (by decide) hq33_ ?_
      refine A_tkN 44 (j := 39) (dj := 54) (b := true) rfl (by kernel_rfl) rfl rfl rfl (by decide) hq33_ ?_
      refine A_tk 45 (v := (vB true)) rfl (by kernel_rfl) (fun w hS => (x_pickT rfl rfl)) hq33_ ?_
      refine A_done (by kernel_rfl) ?_
      refine (X_then (hK31_ _ _ ?_))
      refine C_condT rfl ?_
      refine cR fun _ hK38_ => ?_
      refine sv (v := (vB false)) (x_assign rfl) ?_
      refine wn (hK38_ _ _ ?_)
      refine C_ret (X_thenR (X_blkR (X_thenR (X_thenR (X_blkR (X_thenR ?_))))))
      refine R_any (v := (vB false)) (run_results1 rfl rfl) ?_
      have H39_ := Holds.pkF H32_ [1] 1
      exact ⟨_, _, rfl, ⟨false, rfl, rfl, (fun h => by cases h)⟩, (Same.trans S27_ (Same.drew _)), H39_⟩
     ·have c37_fp : ¬ (x16_.rev_Sub < 0) := of_decide_eq_false c37_f
      refine A_tkY 11 (j := 10) (dj := 25) (b := false) (v := (vI .i64 (k : Int))) rfl (by kernel_rfl) rfl rfl (congrArg vB c37_f) (fun w hS => x_move rfl) hq33_ ?_
      refine A_tkY 12 (j := 10) (dj := 25) (b := false) (v := (vB (decide (0 < (k : Int))))) rfl (by kernel_rfl) rfl rfl (congrArg vB c37_f) (fun w hS => x_bin rfl rfl rfl) hq33_ ?_
      refine A_tkY 13 (j := 10) (dj := 25) (b := false) (v := (vB (decide (0 < (k : Int))))) rfl (by kernel_rfl) rfl rfl (congrArg vB c37_f) (fun w hS => x_move rfl) hq33_ ?_
      rcases Bool.eq_false_or_eq_true (decide (0 < (k : Int))) with c40_t | c40_f
      ·have c40_tp : 0 < (k : Int) := of_decide_eq_true c40_t
       refine A_tkY 14 (j := 13) (dj := 28) (b := true) (v := v) rfl (by kernel_rfl) rfl rfl (congrArg vB c40_t) (fun w hS => x_move rfl) hq33_ ?_
       refine A_tkY 15 (j := 13) (dj := 28) (b := true) (v := (vI .i64 (k : Int))) rfl (by kernel_rfl) rfl rfl (congrArg vB c40_t) (fun w hS => x_move rfl) hq33_ ?_
       refine A_tkY 16 (j := 13) (dj := 28) (b := true) (v := (vI .i64 ((k : Int) - 1))) rfl (by kernel_rfl) rfl rfl (congrArg vB c40_t) (fun w hS => x_bin rfl rfl (ib_sub (IntWalk.i64_in _ (by omega)))) hq33_ ?_
       obtain ⟨x41_, hx42_, hm43_⟩ := elem_at L (((k : Int) - 1).toNat) (by omega)
       refine A_tkY 17 (j := 13) (dj := 28) (b := true) (v := (vP (some ⟨(sb v), so v + ((((k : Int) - 1).toNat) * 9 + 0), none⟩))) rfl (by kernel_rfl) rfl rfl (congrArg vB c40_t) (fun w hS => x_idxRS (v := v) rfl hL rfl underlying47 z70 (by omega) (by omega) (by omega : _ = ((k : Int) - 1).toNat) rfl) hq33_ ?_
       refine A_tkY 18 (j := 13) (dj := 28) (b := true) (v := (vP (some ⟨(sb v), so v + ((((k : Int) - 1).toNat) * 9 + 0), none⟩))) rfl (by kernel_rfl) rfl rfl (congrArg vB c40_t) (fun w hS => by kernel_rfl) hq33_ ?_
       refine A_tkY 19 (j := 13) (dj := 28) (b := true) (v := (vA #[(vI .i64 x41_.rev_Main), (vI .i64 x41_.rev_Sub)])) rfl (by kernel_rfl) rfl rfl (congrArg vB c40_t) (fun w hS => x_loadN (vs := [(vI .i64 x41_.rev_Main), (vI .i64 x41_.rev_Sub)]) rfl underlying68 rfl z68 rfl (RC.cells (RS.rc hL) hS.2 ((((k : Int) - 1).toNat) * 9 + 0) (fm_cells RW.len hx42_ (i := 0) rfl))) hq33_ ?_
       refine A_tkY 20 (j := 13) (dj := 28) (b := true) (v := (vP (some ⟨b19_, 0, none⟩))) rfl (by kernel_rfl) rfl rfl (congrArg vB c40_t) (fun w hS => by kernel_rfl) hq33_ ?_
       refine A_tkY 21 (j := 13) (dj := 28) (b := true) (v := (vA #[(vI .i64 x16_.rev_Main), (vI .i64 x16_.rev_Sub)])) rfl (by kernel_rfl) rfl rfl (congrArg vB c40_t) (fun w hS => x_loadN (vs := [(vI .i64 x16_.rev_Main), (vI .i64 x16_.rev_Sub)]) rfl underlying68 rfl z68 rfl (Rd.cells hS.1 0 rfl)) hq33_ ?_
       refine A_ready (i := 22) (rs := []) (by kernel_rfl) ?_
       refine AllR.cons ?_ AllR.nil
       have H46_ := ((Holds.bring H32_ 1 rfl) :)
       refine A_opYes (ls' := #[true, true, true, true, true, true, true, true, true, true, true, true, true, true, true, true, true, true, true, true, true, true, true, false, false, false, false, false, false, false, false, false, false, false, false, false, false, false, false, false, false, false, false, false, false, false]) (j := 13) (dj := 28) (b := true) rfl (by kernel_rfl) rfl rfl (congrArg vB c40_t) (T_call (al := [(vA #[(vI .i64 x41_.rev_Main), (vI .i64 x41_.rev_Sub)]), (vA #[(vI .i64 x16_.rev_Main), (vI .i64 x16_.rev_Sub)])]) (pre := []) rfl rfl cb29 (lLess R x41_.rev_Main x41_.rev_Sub x16_.rev_Main x16_.rev_Sub) H46_ ?_)
       rintro v44_ p50_ w47_ ⟨r45_, rfl, rfl⟩ S49_ H48_
       have S51_ := Same.trans (Same.trans S27_ (Same.drew _)) S49_
       refine ⟨⟨Holds.rd H48_ 1 rfl, (Holds.ro_at H48_ 0 rfl)⟩, ?_⟩
       have hq52_ := And.intro (Holds.rd H48_ 1 rfl) ((Holds.ro_at H48_ 0 rfl))
       refine A_tkY 23 (j := 13) (dj := 28) (b := true) (v := (vB (!r45_))) rfl (by kernel_rfl) rfl rfl (congrArg vB c40_t) (fun w hS => x_not rfl) hq52_ ?_
       refine A_tkY 24 (j := 10) (dj := 25) (b := false) (v := (vB (!r45_))) rfl (by kernel_rfl) rfl rfl (congrArg vB c37_f) (fun w hS => (x_pickT (congrArg vB c40_t) rfl)) hq52_ ?_
       refine A_tk 25 (v := (vB (!r45_))) rfl (by kernel_rfl) (fun w hS => (x_pickF (congrArg vB c37_f) rfl)) hq52_ ?_
       refine A_tk 26 (v := (vB (!r45_))) rfl (by kernel_rfl) (fun w hS => x_move rfl) hq52_ ?_
       rcases Bool.eq_false_or_eq_true (!r45_) with c53_t | c53_f
       ·skip
        refine A_tkN 27 (j := 26) (dj := 41) (b := true) rfl (by kernel_rfl) rfl rfl (congrArg vB c53_t) (by decide) hq52_ ?_
        refine A_tkN 28 (j := 26) (dj := 41) (b := true) rfl (by kernel_rfl) rfl rfl (congrArg vB c53_t) (by decide) hq52_ ?_
        refine A_tkN 29 (j := 26) (dj := 41) (b := true) rfl (by kernel_rfl) rfl rfl (congrArg vB c53_t) (by decide) hq52_ ?_
        refine A_tkN 30 (j := 26) (dj := 41) (b := true) rfl (by kernel_rfl) rfl rfl (congrArg vB c53_t) (by decide) hq52_ ?_
        refine A_tk 31 (v := (vB true)) rfl (by kernel_rfl) (fun w hS => (x_pickT (congrArg vB c53_t) rfl)) hq52_ ?_
        refine A_tk 32 (v := (vB true)) rfl (by kernel_rfl) (fun w hS => x_move rfl) hq52_ ?_
        refine A_tkN 33 (j := 32) (dj := 47) (b := true) rfl (by kernel_rfl) rfl rfl rfl (by decide) hq52_ ?_
        refine A_tkN 34 (j := 32) (dj := 47) (b := true) rfl (by kernel_rfl) rfl rfl rfl (by decide) hq52_ ?_
        refine A_tkN 35 (j := 32) (dj := 47) (b := true) rfl (by kernel_rfl) rfl rfl rfl (by decide) hq52_ ?_
        refine A_tkN 36 (j := 32) (dj := 47) (b := true) rfl (by kernel_rfl) rfl rfl rfl (by decide) hq52_ ?_
        refine A_tkN 37 (j := 32) (dj := 47) (b := true) rfl (by kernel_rfl) rfl rfl rfl (by decide) hq52_ ?_
        refine A_tk 38 (v := (vB true)) rfl (by kernel_rfl) (fun w hS => (x_pickT rfl rfl)) hq52_ ?_
        refine A_tk 39 (v := (vB true)) rfl (by kernel_rfl) (fun w hS => x_move rfl) hq52_ ?_
        refine A_tkN 40 (j := 39) (dj := 54) (b := true) rfl (by kernel_rfl) rfl rfl rfl (by decide) hq52_ ?_
        refine A_tkN 41 (j := 39) (dj := 54) (b := true) rfl (by kernel_rfl) rfl rfl rfl (by decide) hq52_ ?_
        refine A_tkN 42 (j := 39) (dj := 54) (b := true) rfl (by kernel_rfl) rfl rfl rfl (by decide) hq52_ ?_
        refine A_tkN 43 (j := 39) (dj := 54) (b := true) rfl (by kernel_rfl) rfl rfl rfl (by decide) hq52_ ?_
        refine A_tkN 44 (j := 39) (dj := 54) (b := true) rfl (by kernel_rfl) rfl rfl rfl (by decide) hq52_ ?_
        refine A_tk 45 (v := (vB true)) rfl (by kernel_rfl) (fun w hS => (x_pickT rfl rfl)) hq52_ ?_
        refine A_done (by kernel_rfl) ?_
        refine (X_then (hK31_ _ _ ?_))
        refine C_condT rfl ?_
        refine cR fun _ hK54_ => ?_
        refine sv (v := (vB false)) (x_assign rfl) ?_
        refine wn (hK54_ _ _ ?_)
        refine C_ret (X_thenR (X_blkR (X_thenR (X_thenR (X_blkR (X_thenR ?_))))))
        refine R_any (v := (vB false)) (run_results1 rfl rfl) ?_
        have H55_ := Holds.pkF H48_ [0] 1
        exact ⟨_, _, rfl, ⟨false, rfl, rfl, (fun h => by cases h)⟩, S51_, H55_⟩
       ·skip
        refine A_tkY 27 (j := 26) (dj := 41) (b := false) (v := (vP (some ⟨b19_, 3, none⟩))) rfl (by kernel_rfl) rfl rfl (congrArg vB c53_f) (fun w hS => by kernel_rfl) hq52_ ?_
        refine A_tkY 28 (j := 26) (dj := 41) (b := false) (v := (vP (some ⟨b19_, 3, none⟩))) rfl (by kernel_rfl) rfl rfl (congrArg vB c53_f) (fun w hS => by kernel_rfl) hq52_ ?_
        refine A_tkY 29 (j := 26) (dj := 41) (b := false) (v := (Value.string x16_.kV_Key)) rfl (by kernel_rfl) rfl rfl (congrArg vB c53_f) (fun w hS => x_load1 rfl underlying9 rfl (hS.1 3 (Value.string x16_.kV_Key) rfl)) hq52_ ?_
        refine A_tkY 30 (j := 26) (dj := 41) (b := false) (v := (vB (x16_.kV_Key.toList == (ByteArray.mk #[]).toList))) rfl (by kernel_rfl) rfl rfl (congrArg vB c53_f) (fun w hS => x_str rfl rfl rfl (by decide)) hq52_ ?_
        refine A_tk 31 (v := (vB (x16_.kV_Key.toList == (ByteArray.mk #[]).toList))) rfl (by kernel_rfl) (fun w hS => (x_pickF (congrArg vB c53_f) rfl)) hq52_ ?_
        refine A_tk 32 (v := (vB (x16_.kV_Key.toList == (ByteArray.mk #[]).toList))) rfl (by kernel_rfl) (fun w hS => x_move rfl) hq52_ ?_
        rcases Bool.eq_false_or_eq_true (x16_.kV_Key.toList == (ByteArray.mk #[]).toList) with c56_t | c56_f
        ·skip
         refine A_tkN 33 (j := 32) (dj := 47) (b := true) rfl (by kernel_rfl) rfl rfl (congrArg vB c56_t) (by decide) hq52_ ?_
         refine A_tkN 34 (j := 32) (dj := 47) (b := true) rfl (by kernel_rfl) rfl rfl (congrArg vB c56_t) (by decide) hq52_ ?_
         refine A_tkN 35 (j := 32) (dj := 47) (b := true) rfl (by kernel_rfl) rfl rfl (congrArg vB c56_t) (by decide) hq52_ ?_
         refine A_tkN 36 (j := 32) (dj := 47) (b := true) rfl (by kernel_rfl) rfl rfl (congrArg vB c56_t) (by decide) hq52_ ?_
         refine A_tkN 37 (j := 32) (dj := 47) (b := true) rfl (by kernel_rfl) rfl rfl (congrArg vB c56_t) (by decide) hq52_ ?_
         refine A_tk 38 (v := (vB true)) rfl (by kernel_rfl) (fun w hS => (x_pickT (congrArg vB c56_t) rfl)) hq52_ ?_
         refine A_tk 39 (v := (vB true)) rfl (by kernel_rfl) (fun w hS => x_move rfl) hq52_ ?_
         refine A_tkN 40 (j := 39) (dj := 54) (b := true) rfl (by kernel_rfl) rfl rfl rfl (by decide) hq52_ ?_
         refine A_tkN 41 (j := 39) (dj := 54) (b := true) rfl (by kernel_rfl) rfl rfl rfl (by decide) hq52_ ?_
         refine A_tkN 42 (j := 39) (dj := 54) (b := true) rfl (by kernel_rfl) rfl rfl rfl (by decide) hq52_ ?_
         refine A_tkN 43 (j := 39) (dj := 54) (b := true) rfl (by kernel_rfl) rfl rfl rfl (by decide) hq52_ ?_
         refine A_tkN 44 (j := 39) (dj := 54) (b := true) rfl (by kernel_rfl) rfl rfl rfl (by decide) hq52_ ?_
         refine A_tk 45 (v := (vB true)) rfl (by kernel_rfl) (fun w hS => (x_pickT rfl rfl)) hq52_ ?_
         refine A_done (by kernel_rfl) ?_
         refine (X_then (hK31_ _ _ ?_))
         refine C_condT rfl ?_
         refine cR fun _ hK57_ => ?_
         refine sv (v := (vB false)) (x_assign rfl) ?_
         refine wn (hK57_ _ _ ?_)
         refine C_ret (X_thenR (X_blkR (X_thenR (X_thenR (X_blkR (X_thenR ?_))))))
         refine R_any (v := (vB false)) (run_results1 rfl rfl) ?_
         have H58_ := Holds.pkF H48_ [0] 1
         exact ⟨_, _, rfl, ⟨false, rfl, rfl, (fun h => by cases h)⟩, S51_, H58_⟩
        ·skip
         refine A_tkY 33 (j := 32) (dj := 47) (b := false) (v := (vP (some ⟨b19_, 3, none⟩))) rfl (by kernel_rfl) rfl rfl (congrArg vB c56_f) (fun w hS => by kernel_rfl) hq52_ ?_
         refine A_tkY 34 (j := 32) (dj := 47) (b := false) (v := (vP (some ⟨b19_, 3, none⟩))) rfl (by kernel_rfl) rfl rfl (congrArg vB c56_f) (fun w hS => by kernel_rfl) hq52_ ?_
         refine A_tkY 35 (j := 32) (dj := 47) (b := false) (v := (Value.string x16_.kV_Key)) rfl (by kernel_rfl) rfl rfl (congrArg vB c56_f) (fun w hS => x_load1 rfl underlying9 rfl (hS.1 3 (Value.string x16_.kV_Key) rfl)) hq52_ ?_
         refine A_tkY 36 (j := 32) (dj := 47) (b := false) (v := (vI .i64 (x16_.kV_Key.size : Int))) rfl (by kernel_rfl) rfl rfl (congrArg vB c56_f) (fun w hS => x_lenT rfl underlying9) hq52_ ?_
         refine A_tkY 37 (j := 32) (dj := 47) (b := false) (v := (vB (decide (60 < (x16_.kV_Key.size : Int))))) rfl (by kernel_rfl) rfl rfl (congrArg vB c56_f) (fun w hS => x_bin rfl rfl rfl) hq52_ ?_
         refine A_tk 38 (v := (vB (decide (60 < (x16_.kV_Key.size : Int))))) rfl (by kernel_rfl) (fun w hS => (x_pickF (congrArg vB c56_f) rfl)) hq52_ ?_
         refine A_tk 39 (v := (vB (decide (60 < (x16_.kV_Key.size : Int))))) rfl (by kernel_rfl) (fun w hS => x_move rfl) hq52_ ?_
         rcases Bool.eq_false_or_eq_true (decide (60 < (x16_.kV_Key.size : Int))) with c59_t | c59_f
         ·have c59_tp : 60 < (x16_.kV_Key.size : Int) := of_decide_eq_true c59_t
          refine A_tkN 40 (j := 39) (dj := 54) (b := true) rfl (by kernel_rfl) rfl rfl (congrArg vB c59_t) (by decide) hq52_ ?_
          refine A_tkN 41 (j := 39) (dj := 54) (b := true) rfl (by kernel_rfl) rfl rfl (congrArg vB c59_t) (by decide) hq52_ ?_
          refine A_tkN 42 (j := 39) (dj := 54) (b := true) rfl (by kernel_rfl) rfl rfl (congrArg vB c59_t) (by decide) hq52_ ?_
          refine A_tkN 43 (j := 39) (dj := 54) (b := true) rfl (by kernel_rfl) rfl rfl (congrArg vB c59_t) (by decide) hq52_ ?_
          refine A_tkN 44 (j := 39) (dj := 54) (b := true) rfl (by kernel_rfl) rfl rfl (congrArg vB c59_t) (by decide) hq52_ ?_
          refine A_tk 45 (v := (vB true)) rfl (by kernel_rfl) (fun w hS => (x_pickT (congrArg vB c59_t) rfl)) hq52_ ?_
          refine A_done (by kernel_rfl) ?_
          refine (X_then (hK31_ _ _ ?_))
          refine C_condT rfl ?_
          refine cR fun _ hK60_ => ?_
          refine sv (v := (vB false)) (x_assign rfl) ?_
          refine wn (hK60_ _ _ ?_)
          refine C_ret (X_thenR (X_blkR (X_thenR (X_thenR (X_blkR (X_thenR ?_))))))
          refine R_any (v := (vB false)) (run_results1 rfl rfl) ?_
          have H61_ := Holds.pkF H48_ [0] 1
          exact ⟨_, _, rfl, ⟨false, rfl, rfl, (fun h => by cases h)⟩, S51_, H61_⟩
         ·have c59_fp : ¬ (60 < (x16_.kV_Key.size : Int)) := of_decide_eq_false c59_f
          refine A_tkY 40 (j := 39) (dj := 54) (b := false) (v := (vP (some ⟨b19_, 3, none⟩))) rfl (by kernel_rfl) rfl rfl (congrArg vB c59_f) (fun w hS => by kernel_rfl) hq52_ ?_
          refine A_tkY 41 (j := 39) (dj := 54) (b := false) (v := (vP (some ⟨b19_, 4, none⟩))) rfl (by kernel_rfl) rfl rfl (congrArg vB c59_f) (fun w hS => by kernel_rfl) hq52_ ?_
          refine A_tkY 42 (j := 39) (dj := 54) (b := false) (v := (Value.string x16_.kV_Value)) rfl (by kernel_rfl) rfl rfl (congrArg vB c59_f) (fun w hS => x_load1 rfl underlying9 rfl (hS.1 4 (Value.string x16_.kV_Value) rfl)) hq52_ ?_
          refine A_tkY 43 (j := 39) (dj := 54) (b := false) (v := (vI .i64 (x16_.kV_Value.size : Int))) rfl (by kernel_rfl) rfl rfl (congrArg vB c59_f) (fun w hS => x_lenT rfl underlying9) hq52_ ?_
          refine A_tkY 44 (j := 39) (dj := 54) (b := false) (v := (vB (decide (60 < (x16_.kV_Value.size : Int))))) rfl (by kernel_rfl) rfl rfl (congrArg vB c59_f) (fun w hS => x_bin rfl rfl rfl) hq52_ ?_
          refine A_tk 45 (v := (vB (decide (60 < (x16_.kV_Value.size : Int))))) rfl (by kernel_rfl) (fun w hS => (x_pickF (congrArg vB c59_f) rfl)) hq52_ ?_
          refine A_done (by kernel_rfl) ?_
          refine (X_then (hK31_ _ _ ?_))
          refine C_cond (b := decide (60 < (x16_.kV_Value.size : Int))) rfl (fun c62_t => ?_) (fun c62_f => ?_)
          ·have c62_tp : 60 < (x16_.kV_Value.size : Int) := of_decide_eq_true c62_t
           refine cR fun _ hK63_ => ?_
           refine sv (v := (vB false)) (x_assign rfl) ?_
           refine wn (hK63_ _ _ ?_)
           refine C_ret (X_thenR (X_blkR (X_thenR (X_thenR (X_blkR (X_thenR ?_))))))
           refine R_any (v := (vB false)) (run_results1 rfl rfl) ?_
           have H64_ := Holds.pkF H48_ [0] 1
           exact ⟨_, _, rfl, ⟨false, rfl, rfl, (fun h => by cases h)⟩, S51_, H64_⟩
          ·have c62_fp : ¬ (60 < (x16_.kV_Value.size : Int)) := of_decide_eq_false c62_f
           refine C_skip (X_then ?_)
           have H65_ := Holds.pkF H48_ [1, 0] 0
           exact ⟨s2_v, _, congrArg (fun e => mkA 112 e []) (ch (ch (ch (ch (ch (ch rfl rfl) rfl) rfl) rfl) rfl) rfl), H65_, S51_, (⟨by omega, by omega, nf_size c56_f, by omega, by omega⟩)⟩
      ·have c40_fp : ¬ (0 < (k : Int)) := of_decide_eq_false c40_f
       refine A_tkN 14 (j := 13) (dj := 28) (b := false) rfl (by kernel_rfl) rfl rfl (congrArg vB c40_f) (by decide) hq33_ ?_
       refine A_tkN 15 (j := 13) (dj := 28) (b := false) rfl (by kernel_rfl) rfl rfl (congrArg vB c40_f) (by decide) hq33_ ?_
       refine A_tkN 16 (j := 13) (dj := 28) (b := false) rfl (by kernel_rfl) rfl rfl (congrArg vB c40_f) (by decide) hq33_ ?_
       refine A_tkN 17 (j := 13) (dj := 28) (b := false) rfl (by kernel_rfl) rfl rfl (congrArg vB c40_f) (by decide) hq33_ ?_
       refine A_tkN 18 (j := 13) (dj := 28) (b := false) rfl (by kernel_rfl) rfl rfl (congrArg vB c40_f) (by decide) hq33_ ?_
       refine A_tkN 19 (j := 13) (dj := 28) (b := false) rfl (by kernel_rfl) rfl rfl (congrArg vB c40_f) (by decide) hq33_ ?_
       refine A_tkN 20 (j := 13) (dj := 28) (b := false) rfl (by kernel_rfl) rfl rfl (congrArg vB c40_f) (by decide) hq33_ ?_
       refine A_tkN 21 (j := 13) (dj := 28) (b := false) rfl (by kernel_rfl) rfl rfl (congrArg vB c40_f) (by decide) hq33_ ?_
       refine A_tkN 22 (j := 13) (dj := 28) (b := false) rfl (by kernel_rfl) rfl rfl (congrArg vB c40_f) (by decide) hq33_ ?_
       refine A_tkN 23 (j := 13) (dj := 28) (b := false) rfl (by kernel_rfl) rfl rfl (congrArg vB c40_f) (by decide) hq33_ ?_
       refine A_tkY 24 (j := 10) (dj := 25) (b := false) (v := (vB false)) rfl (by kernel_rfl) rfl rfl (congrArg vB c37_f) (fun w hS => (x_pickF (congrArg vB c40_f) rfl)) hq33_ ?_
       refine A_tk 25 (v := (vB false)) rfl (by kernel_rfl) (fun w hS => (x_pickF (congrArg vB c37_f) rfl)) hq33_ ?_
       refine A_tk 26 (v := (vB false)) rfl (by kernel_rfl) (fun w hS => x_move rfl) hq33_ ?_
       refine A_tkY 27 (j := 26) (dj := 41) (b := false) (v := (vP (some ⟨b19_, 3, none⟩))) rfl (by kernel_rfl) rfl rfl rfl (fun w hS => by kernel_rfl) hq33_ ?_
       refine A_tkY 28 (j := 26) (dj := 41) (b := false) (v := (vP (some ⟨b19_, 3, none⟩))) rfl (by kernel_rfl) rfl rfl rfl (fun w hS => by kernel_rfl) hq33_ ?_
       refine A_tkY 29 (j := 26) (dj := 41) (b := false) (v := (Value.string x16_.kV_Key)) rfl (by kernel_rfl) rfl rfl rfl (fun w hS => x_load1 rfl underlying9 rfl (hS.1 3 (Value.string x16_.kV_Key) rfl)) hq33_ ?_
       refine A_tkY 30 (j := 26) (dj := 41) (b := false) (v := (vB (x16_.kV_Key.toList == (ByteArray.mk #[]).toList))) rfl (by kernel_rfl) rfl rfl rfl (fun w hS => x_str rfl rfl rfl (by decide)) hq33_ ?_
       refine A_tk 31 (v := (vB (x16_.kV_Key.toList == (ByteArray.mk #[]).toList))) rfl (by kernel_rfl) (fun w hS => (x_pickF rfl rfl)) hq33_ ?_
       refine A_tk 32 (v := (vB (x16_.kV_Key.toList == (ByteArray.mk #[]).toList))) rfl (by kernel_rfl) (fun w hS => x_move rfl) hq33_ ?_
       rcases Bool.eq_false_or_eq_true (x16_.kV_Key.toList == (ByteArray.mk #[]).toList) with c66_t | c66_f
       ·skip
        refine A_tkN 33 (j := 32) (dj := 47) (b := true) rfl (by kernel_rfl) rfl rfl (congrArg vB c66_t) (by decide) hq33_ ?_
        refine A_tkN 34 (j := 32) (dj := 47) (b := true) rfl (by kernel_rfl) rfl rfl (congrArg vB c66_t) (by decide) hq33_ ?_
        refine A_tkN 35 (j := 32) (dj := 47) (b := true) rfl (by kernel_rfl) rfl rfl (congrArg vB c66_t) (by decide) hq33_ ?_
        refine A_tkN 36 (j := 32) (dj := 47) (b := true) rfl (by kernel_rfl) rfl rfl (congrArg vB c66_t) (by decide) hq33_ ?_
        refine A_tkN 37 (j := 32) (dj := 47) (b := true) rfl (by kernel_rfl) rfl rfl (congrArg vB c66_t) (by decide) hq33_ ?_
        refine A_tk 38 (v := (vB true)) rfl (by kernel_rfl) (fun w hS => (x_pickT (congrArg vB c66_t) rfl)) hq33_ ?_
        refine A_tk 39 (v := (vB true)) rfl (by kernel_rfl) (fun w hS => x_move rfl) hq33_ ?_
        refine A_tkN 40 (j := 39) (dj := 54) (b := true) rfl (by kernel_rfl) rfl rfl rfl (by decide) hq33_ ?_
        refine A_tkN 41 (j := 39) (dj := 54) (b := true) rfl (by kernel_rfl) rfl rfl rfl (by decide) hq33_ ?_
        refine A_tkN 42 (j := 39) (dj := 54) (b := true) rfl (by kernel_rfl) rfl rfl rfl (by decide) hq33_ ?_
        refine A_tkN 43 (j := 39) (dj := 54) (b := true) rfl (by kernel_rfl) rfl rfl rfl (by decide) hq33_ ?_
        refine A_tkN 44 (j := 39) (dj := 54) (b := true) rfl (by kernel_rfl) rfl rfl rfl (by decide) hq33_ ?_
        refine A_tk 45 (v := (vB true)) rfl (by kernel_rfl) (fun w hS => (x_pickT rfl rfl)) hq33_ ?_
        refine A_done (by kernel_rfl) ?_
        refine (X_then (hK31_ _ _ ?_))
        refine C_condT rfl ?_
        refine cR fun _ hK67_ => ?_
        refine sv (v := (vB false)) (x_assign rfl) ?_
        refine wn (hK67_ _ _ ?_)
        refine C_ret (X_thenR (X_blkR (X_thenR (X_thenR (X_blkR (X_thenR ?_))))))
        refine R_any (v := (vB false)) (run_results1 rfl rfl) ?_
        have H68_ := Holds.pkF H32_ [1] 1
        exact ⟨_, _, rfl, ⟨false, rfl, rfl, (fun h => by cases h)⟩, (Same.trans S27_ (Same.drew _)), H68_⟩
       ·skip
        refine A_tkY 33 (j := 32) (dj := 47) (b := false) (v := (vP (some ⟨b19_, 3, none⟩))) rfl (by kernel_rfl) rfl rfl (congrArg vB c66_f) (fun w hS => by kernel_rfl) hq33_ ?_
        refine A_tkY 34 (j := 32) (dj := 47) (b := false) (v := (vP (some ⟨b19_, 3, none⟩))) rfl (by kernel_rfl) rfl rfl (congrArg vB c66_f) (fun w hS => by kernel_rfl) hq33_ ?_
        refine A_tkY 35 (j := 32) (dj := 47) (b := false) (v := (Value.string x16_.kV_Key)) rfl (by kernel_rfl) rfl rfl (congrArg vB c66_f) (fun w hS => x_load1 rfl underlying9 rfl (hS.1 3 (Value.string x16_.kV_Key) rfl)) hq33_ ?_
        refine A_tkY 36 (j := 32) (dj := 47) (b := false) (v := (vI .i64 (x16_.kV_Key.size : Int))) rfl (by kernel_rfl) rfl rfl (congrArg vB c66_f) (fun w hS => x_lenT rfl underlying9) hq33_ ?_
        refine A_tkY 37 (j := 32) (dj := 47) (b := false) (v := (vB (decide (60 < (x16_.kV_Key.size : Int))))) rfl (by kernel_rfl) rfl rfl (congrArg vB c66_f) (fun w hS => x_bin rfl rfl rfl) hq33_ ?_
        refine A_tk 38 (v := (vB (decide (60 < (x16_.kV_Key.size : Int))))) rfl (by kernel_rfl) (fun w hS => (x_pickF (congrArg vB c66_f) rfl)) hq33_ ?_
        refine A_tk 39 (v := (vB (decide (60 < (x16_.kV_Key.size : Int))))) rfl (by kernel_rfl) (fun w hS => x_move rfl) hq33_ ?_
        rcases Bool.eq_false_or_eq_true (decide (60 < (x16_.kV_Key.size : Int))) with c69_t | c69_f
        ·have c69_tp : 60 < (x16_.kV_Key.size : Int) := of_decide_eq_true c69_t
         refine A_tkN 40 (j := 39) (dj := 54) (b := true) rfl (by kernel_rfl) rfl rfl (congrArg vB c69_t) (by decide) hq33_ ?_
         refine A_tkN 41 (j := 39) (dj := 54) (b := true) rfl (by kernel_rfl) rfl rfl (congrArg vB c69_t) (by decide) hq33_ ?_
         refine A_tkN 42 (j := 39) (dj := 54) (b := true) rfl (by kernel_rfl) rfl rfl (congrArg vB c69_t) (by decide) hq33_ ?_
         refine A_tkN 43 (j := 39) (dj := 54) (b := true) rfl (by kernel_rfl) rfl rfl (congrArg vB c69_t) (by decide) hq33_ ?_
         refine A_tkN 44 (j := 39) (dj := 54) (b := true) rfl (by kernel_rfl) rfl rfl (congrArg vB c69_t) (by decide) hq33_ ?_
         refine A_tk 45 (v := (vB true)) rfl (by kernel_rfl) (fun w hS => (x_pickT (congrArg vB c69_t) rfl)) hq33_ ?_
         refine A_done (by kernel_rfl) ?_
         refine (X_then (hK31_ _ _ ?_))
         refine C_condT rfl ?_
         refine cR fun _ hK70_ => ?_
         refine sv (v := (vB false)) (x_assign rfl) ?_
         refine wn (hK70_ _ _ ?_)
         refine C_ret (X_thenR (X_blkR (X_thenR (X_thenR (X_blkR (X_thenR ?_))))))
         refine R_any (v := (vB false)) (run_results1 rfl rfl) ?_
         have H71_ := Holds.pkF H32_ [1] 1
         exact ⟨_, _, rfl, ⟨false, rfl, rfl, (fun h => by cases h)⟩, (Same.trans S27_ (Same.drew _)), H71_⟩
        ·have c69_fp : ¬ (60 < (x16_.kV_Key.size : Int)) := of_decide_eq_false c69_f
         refine A_tkY 40 (j := 39) (dj := 54) (b := false) (v := (vP (some ⟨b19_, 3, none⟩))) rfl (by kernel_rfl) rfl rfl (congrArg vB c69_f) (fun w hS => by kernel_rfl) hq33_ ?_
         refine A_tkY 41 (j := 39) (dj := 54) (b := false) (v := (vP (some ⟨b19_, 4, none⟩))) rfl (by kernel_rfl) rfl rfl (congrArg vB c69_f) (fun w hS => by kernel_rfl) hq33_ ?_
         refine A_tkY 42 (j := 39) (dj := 54) (b := false) (v := (Value.string x16_.kV_Value)) rfl (by kernel_rfl) rfl rfl (congrArg vB c69_f) (fun w hS => x_load1 rfl underlying9 rfl (hS.1 4 (Value.string x16_.kV_Value) rfl)) hq33_ ?_
         refine A_tkY 43 (j := 39) (dj := 54) (b := false) (v := (vI .i64 (x16_.kV_Value.size : Int))) rfl (by kernel_rfl) rfl rfl (congrArg vB c69_f) (fun w hS => x_lenT rfl underlying9) hq33_ ?_
         refine A_tkY 44 (j := 39) (dj := 54) (b := false) (v := (vB (decide (60 < (x16_.kV_Value.size : Int))))) rfl (by kernel_rfl) rfl rfl (congrArg vB c69_f) (fun w hS => x_bin rfl rfl rfl) hq33_ ?_
         refine A_tk 45 (v := (vB (decide (60 < (x16_.kV_Value.size : Int))))) rfl (by kernel_rfl) (fun w hS => (x_pickF (congrArg vB c69_f) rfl)) hq33_ ?_
         refine A_done (by kernel_rfl) ?_
         refine (X_then (hK31_ _ _ ?_))
         refine C_cond (b := decide (60 < (x16_.kV_Value.size : Int))) rfl (fun c72_t => ?_) (fun c72_f => ?_)
         ·have c72_tp : 60 < (x16_.kV_Value.size : Int) := of_decide_eq_true c72_t
          refine cR fun _ hK73_ => ?_
          refine sv (v := (vB false)) (x_assign rfl) ?_
          refine wn (hK73_ _ _ ?_)
          refine C_ret (X_thenR (X_blkR (X_thenR (X_thenR (X_blkR (X_thenR ?_))))))
          refine R_any (v := (vB false)) (run_results1 rfl rfl) ?_
          have H74_ := Holds.pkF H32_ [1] 1
          exact ⟨_, _, rfl, ⟨false, rfl, rfl, (fun h => by cases h)⟩, (Same.trans S27_ (Same.drew _)), H74_⟩
         ·have c72_fp : ¬ (60 < (x16_.kV_Value.size : Int)) := of_decide_eq_false c72_f
          refine C_skip (X_then ?_)
          exact ⟨s2_v, _, congrArg (fun e => mkA 112 e []) (ch (ch (ch (ch (ch (ch rfl rfl) rfl) rfl) rfl) rfl) rfl), H32_, (Same.trans S27_ (Same.drew _)), (⟨by omega, by omega, nf_size c66_f, by omega, by omega⟩)⟩
   ·rintro _ w28_ ⟨s2_v, h, rfl, H29_, S30_, hgx⟩
    refine C_cut (fun a__ w1__ => ∃ s2_v : Bool, ∃ h : Env, a__ = mkA 112 (upd (upd (upd (upd (upd (upd h 0 v) 2 (vB s2_v)) 4 (vP (some ⟨b19_, 0, none⟩))) 8 v) 9 (vI .i64 (L.length : Int))) 10 (vI .i64 (k : Int))) [] ∧ Holds w1__ (cl b19_ 70 [(vI .i64 x16_.rev_Main), (vI .i64 x16_.rev_Sub), (vB x16_.gone), (Value.string x16_.kV_Key), (Value.string x16_.kV_Value), (vI .i64 x16_.kV_Create), (vI .i64 x16_.kV_Mod), (vI .i64 x16_.kV_Version), (vI .i64 x16_.kV_Lease)] :: ro R :: F) ∧ Same w w1__ ∧ ((x16_.gone = true → x16_.kV_Value = ByteArray.empty ∧ x16_.kV_Create = 0 ∧ x16_.kV_Mod = 0 ∧ x16_.kV_Version = 0 ∧ x16_.kV_Lease = 0))) ?_ ?_
    ·refine cR fun _ hK78_ => ?_
     refine sv (v := (vP (some ⟨b19_, 2, none⟩))) (by kernel_rfl) ?_
     refine sv (v := (vB x16_.gone)) (x_load1 rfl underlying4 rfl ((Holds.rd H29_ 0 rfl) 2 (vB x16_.gone) rfl)) ?_
     refine sm (vB x16_.gone) ?_
     rcases Bool.eq_false_or_eq_true (x16_.gone) with c79_t | c79_f
     ·skip
      refine S_yes (j := 2) (dj := 63) (b := true) rfl rfl (congrArg vB c79_t) (T_val (v := (vP (some ⟨b19_, 3, none⟩))) (by kernel_rfl) ?_)
      refine S_yes (j := 2) (dj := 63) (b := true) rfl rfl (congrArg vB c79_t) (T_val (v := (vA #[(Value.string x16_.kV_Key), (Value.string x16_.kV_Value), (vI .i64 x16_.kV_Create), (vI .i64 x16_.kV_Mod), (vI .i64 x16_.kV_Version), (vI .i64 x16_.kV_Lease)])) (x_loadN (vs := [(Value.string x16_.kV_Key), (Value.string x16_.kV_Value), (vI .i64 x16_.kV_Create), (vI .i64 x16_.kV_Mod), (vI .i64 x16_.kV_Version), (vI .i64 x16_.kV_Lease)]) rfl underlying52 rfl z52 rfl (Rd.cells (Holds.rd H29_ 0 rfl) 3 rfl)) ?_)
      refine S_yes (j := 2) (dj := 63) (b := true) rfl rfl (congrArg vB c79_t) (T_val (v := (vP (some ⟨b19_, 3, none⟩))) (by kernel_rfl) ?_)
      refine S_yes (j := 2) (dj := 63) (b := true) rfl rfl (congrArg vB c79_t) (T_val (v := (vP (some ⟨b19_, 3, none⟩))) (by kernel_rfl) ?_)
      refine S_yes (j := 2) (dj := 63) (b := true) rfl rfl (congrArg vB c79_t) (T_val (v := (Value.string x16_.kV_Key)) (x_load1 rfl underlying9 rfl ((Holds.rd H29_ 0 rfl) 3 (Value.string x16_.kV_Key) rfl)) ?_)
      refine S_yes (j := 2) (dj := 63) (b := true) rfl rfl (congrArg vB c79_t) (T_val (v := (vA #[(Value.string x16_.kV_Key), (Value.string ByteArray.empty), (vI .i64 0), (vI .i64 0), (vI .i64 0), (vI .i64 0)])) (by kernel_rfl) ?_)
      refine S_yes (j := 2) (dj := 63) (b := true) rfl rfl (congrArg vB c79_t) (T_val (v := (vB (!((x16_.kV_Key == x16_.kV_Key) && ((x16_.kV_Value == ByteArray.empty) && ((decide (x16_.kV_Create = 0)) && ((decide (x16_.kV_Mod = 0)) && ((decide (x16_.kV_Version = 0)) && ((decide (x16_.kV_Lease = 0)) && (true)))))))))) (x_neqS rfl rfl (by kernel_rfl) (eq_struct underlying52 (by kernel_rfl) (eqf_cons rfl (run_part1 underlying9 rfl rfl) (run_part1 underlying9 rfl rfl) (eq_str underlying9) (eqf_cons rfl (run_part1 underlying9 rfl rfl) (run_part1 underlying9 rfl rfl) (eq_str underlying9) (eqf_cons rfl (run_part1 underlying2 rfl rfl) (run_part1 underlying2 rfl rfl) (eq_int underlying2) (eqf_cons rfl (run_part1 underlying2 rfl rfl) (run_part1 underlying2 rfl rfl) (eq_int underlying2) (eqf_cons rfl (run_part1 underlying2 rfl rfl) (run_part1 underlying2 rfl rfl) (eq_int underlying2) (eqf_cons rfl (run_part1 underlying2 rfl rfl) (run_part1 underlying2 rfl rfl) (eq_int underlying2) (eqf_nil))))))))) ?_)
      refine S_list (T_pickT (v := (vB (!((x16_.kV_Key == x16_.kV_Key) && ((x16_.kV_Value == ByteArray.empty) && ((decide (x16_.kV_Create = 0)) && ((decide (x16_.kV_Mod = 0)) && ((decide (x16_.kV_Version = 0)) && ((decide (x16_.kV_Lease = 0)) && (true)))))))))) (congrArg vB c79_t) rfl ?_)
      refine wn (hK78_ _ _ ?_)
      refine C_cond (b := !((x16_.kV_Key == x16_.kV_Key) && ((x16_.kV_Value == ByteArray.empty) && ((decide (x16_.kV_Create = 0)) && ((decide (x16_.kV_Mod = 0)) && ((decide (x16_.kV_Version = 0)) && ((decide (x16_.kV_Lease = 0)) && (true)))))))) rfl (fun c80_t => ?_) (fun c80_f => ?_)
      ·skip
       refine cR fun _ hK81_ => ?_
       refine sv (v := (vB false)) (x_assign rfl) ?_
       refine wn (hK81_ _ _ ?_)
       refine C_ret (X_thenR (X_blkR (X_thenR (X_thenR (X_blkR (X_thenR ?_))))))
       refine R_any (v := (vB false)) (run_results1 rfl rfl) ?_
       have H82_ := Holds.pkF H29_ [1] 1
       exact ⟨_, _, rfl, ⟨false, rfl, rfl, (fun h => by cases h)⟩, S30_, H82_⟩
      ·skip
       refine C_skip (X_then ?_)
       exact ⟨s2_v, _, congrArg (fun e => mkA 112 e []) (ch (ch (ch (ch (ch (ch rfl rfl) rfl) rfl) rfl) rfl) rfl), H29_, S30_, (fun _ => by have h__ := c80_f; simp only [Bool.not_eq_false', Bool.and_eq_true, decide_eq_true_eq, Go.MapKept.bytes_beq] at h__; exact ⟨h__.2.1, h__.2.2.1, h__.2.2.2.1, h__.2.2.2.2.1, h__.2.2.2.2.2.1⟩)⟩
     ·skip
      refine S_no (j := 2) (dj := 63) (b := false) rfl rfl (congrArg vB c79_f) (by decide) ?_
      refine S_no (j := 2) (dj := 63) (b := false) rfl rfl (congrArg vB c79_f) (by decide) ?_
      refine S_no (j := 2) (dj := 63) (b := false) rfl rfl (congrArg vB c79_f) (by decide) ?_
      refine S_no (j := 2) (dj := 63) (b := false) rfl rfl (congrArg vB c79_f) (by decide) ?_
      refine S_no (j := 2) (dj := 63) (b := false) rfl rfl (congrArg vB c79_f) (by decide) ?_
      refine S_no (j := 2) (dj := 63) (b := false) rfl rfl (congrArg vB c79_f) (by decide) ?_
      refine S_no (j := 2) (dj := 63) (b := false) rfl rfl (congrArg vB c79_f) (by decide) ?_
      refine S_list (T_pickF (v := (vB false)) (congrArg vB c79_f) rfl ?_)
      refine wn (hK78_ _ _ ?_)
      refine C_condF rfl ?_
      refine C_skip (X_then ?_)
      exact ⟨s2_v, _, congrArg (fun e => mkA 112 e []) (ch (ch (ch (ch (ch (ch rfl rfl) rfl) rfl) rfl) rfl) rfl), H29_, S30_, (fun h => by rw [c79_f] at h; cases h)⟩
    ·rintro _ w75_ ⟨s2_v, h, rfl, H76_, S77_, hgy⟩
     refine cR fun _ hK83_ => ?_
     refine sv (v := (vP (some ⟨b19_, 2, none⟩))) (by kernel_rfl) ?_
     refine sv (v := (vB x16_.gone)) (x_load1 rfl underlying4 rfl ((Holds.rd H76_ 0 rfl) 2 (vB x16_.gone) rfl)) ?_
     refine sv (v := (vB (!x16_.gone))) (x_not rfl) ?_
     refine sm (vB (!x16_.gone)) ?_
     rcases Bool.eq_false_or_eq_true (!x16_.gone) with c84_t | c84_f
     ·skip
      refine S_yes (j := 3) (dj := 75) (b := true) rfl rfl (congrArg vB c84_t) (T_val (v := (vP (some ⟨b19_, 3, none⟩))) (by kernel_rfl) ?_)
      refine S_yes (j := 3) (dj := 75) (b := true) rfl rfl (congrArg vB c84_t) (T_val (v := (vP (some ⟨b19_, 6, none⟩))) (by kernel_rfl) ?_)
      refine S_yes (j := 3) (dj := 75) (b := true) rfl rfl (congrArg vB c84_t) (T_val (v := (vI .i64 x16_.kV_Mod)) (x_load1 rfl underlying2 rfl ((Holds.rd H76_ 0 rfl) 6 (vI .i64 x16_.kV_Mod) rfl)) ?_)
      refine S_yes (j := 3) (dj := 75) (b := true) rfl rfl (congrArg vB c84_t) (T_val (v := (vP (some ⟨b19_, 0, none⟩))) (by kernel_rfl) ?_)
      refine S_yes (j := 3) (dj := 75) (b := true) rfl rfl (congrArg vB c84_t) (T_val (v := (vP (some ⟨b19_, 0, none⟩))) (by kernel_rfl) ?_)
      refine S_yes (j := 3) (dj := 75) (b := true) rfl rfl (congrArg vB c84_t) (T_val (v := (vI .i64 x16_.rev_Main)) (x_load1 rfl underlying2 rfl ((Holds.rd H76_ 0 rfl) 0 (vI .i64 x16_.rev_Main) rfl)) ?_)
      refine S_yes (j := 3) (dj := 75) (b := true) rfl rfl (congrArg vB c84_t) (T_val (v := (vB (decide (x16_.kV_Mod ≠ x16_.rev_Main)))) (x_bin rfl rfl rfl) ?_)
      refine S_yes (j := 3) (dj := 75) (b := true) rfl rfl (congrArg vB c84_t) (T_val (v := (vB (decide (x16_.kV_Mod ≠ x16_.rev_Main)))) (x_move rfl) ?_)
      rcases Bool.eq_false_or_eq_true (decide (x16_.kV_Mod ≠ x16_.rev_Main)) with c85_t | c85_f
      ·have c85_tp : x16_.kV_Mod ≠ x16_.rev_Main := of_decide_eq_true c85_t
       refine S_no (j := 11) (dj := 83) (b := true) rfl rfl (congrArg vB c85_t) (by decide) ?_
       refine S_no (j := 11) (dj := 83) (b := true) rfl rfl (congrArg vB c85_t) (by decide) ?_
       refine S_no (j := 11) (dj := 83) (b := true) rfl rfl (congrArg vB c85_t) (by decide) ?_
       refine S_no (j := 11) (dj := 83) (b := true) rfl rfl (congrArg vB c85_t) (by decide) ?_
       refine S_yes (j := 3) (dj := 75) (b := true) rfl rfl (congrArg vB c84_t) (T_pickT (v := (vB true)) (congrArg vB c85_t) rfl ?_)
       refine S_yes (j := 3) (dj := 75) (b := true) rfl rfl (congrArg vB c84_t) (T_val (v := (vB true)) (x_move rfl) ?_)
       refine S_no (j := 17) (dj := 89) (b := true) rfl rfl rfl (by decide) ?_
       refine S_no (j := 17) (dj := 89) (b := true) rfl rfl rfl (by decide) ?_
       refine S_no (j := 17) (dj := 89) (b := true) rfl rfl rfl (by decide) ?_
       refine S_no (j := 17) (dj := 89) (b := true) rfl rfl rfl (by decide) ?_
       refine S_yes (j := 3) (dj := 75) (b := true) rfl rfl (congrArg vB c84_t) (T_pickT (v := (vB true)) rfl rfl ?_)
       refine S_yes (j := 3) (dj := 75) (b := true) rfl rfl (congrArg vB c84_t) (T_val (v := (vB true)) (x_move rfl) ?_)
       refine S_no (j := 23) (dj := 95) (b := true) rfl rfl rfl (by decide) ?_
       refine S_no (j := 23) (dj := 95) (b := true) rfl rfl rfl (by decide) ?_
       refine S_no (j := 23) (dj := 95) (b := true) rfl rfl rfl (by decide) ?_
       refine S_no (j := 23) (dj := 95) (b := true) rfl rfl rfl (by decide) ?_
       refine S_yes (j := 3) (dj := 75) (b := true) rfl rfl (congrArg vB c84_t) (T_pickT (v := (vB true)) rfl rfl ?_)
       refine S_yes (j := 3) (dj := 75) (b := true) rfl rfl (congrArg vB c84_t) (T_val (v := (vB true)) (x_move rfl) ?_)
       refine S_no (j := 29) (dj := 101) (b := true) rfl rfl rfl (by decide) ?_
       refine S_no (j := 29) (dj := 101) (b := true) rfl rfl rfl (by decide) ?_
       refine S_no (j := 29) (dj := 101) (b := true) rfl rfl rfl (by decide) ?_
       refine S_no (j := 29) (dj := 101) (b := true) rfl rfl rfl (by decide) ?_
       refine S_no (j := 29) (dj := 101) (b := true) rfl rfl rfl (by decide) ?_
       refine S_no (j := 29) (dj := 101) (b := true) rfl rfl rfl (by decide) ?_
       refine S_no (j := 29) (dj := 101) (b := true) rfl rfl rfl (by decide) ?_
       refine S_yes (j := 3) (dj := 75) (b := true) rfl rfl (congrArg vB c84_t) (T_pickT (v := (vB true)) rfl rfl ?_)
       refine S_list (T_pickT (v := (vB true)) (congrArg vB c84_t) rfl ?_)
       refine wn (hK83_ _ _ ?_)
       refine C_condT rfl ?_
       refine cR fun _ hK86_ => ?_
       refine sv (v := (vB false)) (x_assign rfl) ?_
       refine wn (hK86_ _ _ ?_)
       refine C_ret (X_blkR (X_thenR (X_thenR (X_blkR (X_thenR ?_)))))
       refine R_any (v := (vB false)) (run_results1 rfl rfl) ?_
       have H87_ := Holds.pkF H76_ [1] 1
       exact ⟨_, _, rfl, ⟨false, rfl, rfl, (fun h => by cases h)⟩, S77_, H87_⟩
      ·have c85_fp : ¬ (x16_.kV_Mod ≠ x16_.rev_Main) := of_decide_eq_false c85_f
       refine S_yes (j := 11) (dj := 83) (b := false) rfl rfl (congrArg vB c85_f) (T_val (v := (vP (some ⟨b19_, 3, none⟩))) (by kernel_rfl) ?_)
       refine S_yes (j := 11) (dj := 83) (b := false) rfl rfl (congrArg vB c85_f) (T_val (v := (vP (some ⟨b19_, 7, none⟩))) (by kernel_rfl) ?_)
       refine S_yes (j := 11) (dj := 83) (b := false) rfl rfl (congrArg vB c85_f) (T_val (v := (vI .i64 x16_.kV_Version)) (x_load1 rfl underlying2 rfl ((Holds.rd H76_ 0 rfl) 7 (vI .i64 x16_.kV_Version) rfl)) ?_)
       refine S_yes (j := 11) (dj := 83) (b := false) rfl rfl (congrArg vB c85_f) (T_val (v := (vB (decide (x16_.kV_Version < 1)))) (x_bin rfl rfl rfl) ?_)
       refine S_yes (j := 3) (dj := 75) (b := true) rfl rfl (congrArg vB c84_t) (T_pickF (v := (vB (decide (x16_.kV_Version < 1)))) (congrArg vB c85_f) rfl ?_)
       refine S_yes (j := 3) (dj := 75) (b := true) rfl rfl (congrArg vB c84_t) (T_val (v := (vB (decide (x16_.kV_Version < 1)))) (x_move rfl) ?_)
       rcases Bool.eq_false_or_eq_true (decide (x16_.kV_Version < 1)) with c88_t | c88_f
       ·have c88_tp : x16_.kV_Version < 1 := of_decide_eq_true c88_t
        refine S_no (j := 17) (dj := 89) (b := true) rfl rfl (congrArg vB c88_t) (by decide) ?_
        refine S_no (j := 17) (dj := 89) (b := true) rfl rfl (congrArg vB c88_t) (by decide) ?_
        refine S_no (j := 17) (dj := 89) (b := true) rfl rfl (congrArg vB c88_t) (by decide) ?_
        refine S_no (j := 17) (dj := 89) (b := true) rfl rfl (congrArg vB c88_t) (by decide) ?_
        refine S_yes (j := 3) (dj := 75) (b := true) rfl rfl (congrArg vB c84_t) (T_pickT (v := (vB true)) (congrArg vB c88_t) rfl ?_)
        refine S_yes (j := 3) (dj := 75) (b := true) rfl rfl (congrArg vB c84_t) (T_val (v := (vB true)) (x_move rfl) ?_)
        refine S_no (j := 23) (dj := 95) (b := true) rfl rfl rfl (by decide) ?_
        refine S_no (j := 23) (dj := 95) (b := true) rfl rfl rfl (by decide) ?_
        refine S_no (j := 23) (dj := 95) (b := true) rfl rfl rfl (by decide) ?_
        refine S_no (j := 23) (dj := 95) (b := true) rfl rfl rfl (by decide) ?_
        refine S_yes (j := 3) (dj := 75) (b := true) rfl rfl (congrArg vB c84_t) (T_pickT (v := (vB true)) rfl rfl ?_)
        refine S_yes (j := 3) (dj := 75) (b := true) rfl rfl (congrArg vB c84_t) (T_val (v := (vB true)) (x_move rfl) ?_)
        refine S_no (j := 29) (dj := 101) (b := true) rfl rfl rfl (by decide) ?_
        refine S_no (j := 29) (dj := 101) (b := true) rfl rfl rfl (by decide) ?_
        refine S_no (j := 29) (dj := 101) (b := true) rfl rfl rfl (by decide) ?_
        refine S_no (j := 29) (dj := 101) (b := true) rfl rfl rfl (by decide) ?_
        refine S_no (j := 29) (dj := 101) (b := true) rfl rfl rfl (by decide) ?_
        refine S_no (j := 29) (dj := 101) (b := true) rfl rfl rfl (by decide) ?_
        refine S_no (j := 29) (dj := 101) (b := true) rfl rfl rfl (by decide) ?_
        refine S_yes (j := 3) (dj := 75) (b := true) rfl rfl (congrArg vB c84_t) (T_pickT (v := (vB true)) rfl rfl ?_)
        refine S_list (T_pickT (v := (vB true)) (congrArg vB c84_t) rfl ?_)
        refine wn (hK83_ _ _ ?_)
        refine C_condT rfl ?_
        refine cR fun _ hK89_ => ?_
        refine sv (v := (vB false)) (x_assign rfl) ?_
        refine wn (hK89_ _ _ ?_)
        refine C_ret (X_blkR (X_thenR (X_thenR (X_blkR (X_thenR ?_)))))
        refine R_any (v := (vB false)) (run_results1 rfl rfl) ?_
        have H90_ := Holds.pkF H76_ [1] 1
        exact ⟨_, _, rfl, ⟨false, rfl, rfl, (fun h => by cases h)⟩, S77_, H90_⟩
       ·have c88_fp : ¬ (x16_.kV_Version < 1) := of_decide_eq_false c88_f
        refine S_yes (j := 17) (dj := 89) (b := false) rfl rfl (congrArg vB c88_f) (T_val (v := (vP (some ⟨b19_, 3, none⟩))) (by kernel_rfl) ?_)
        refine S_yes (j := 17) (dj := 89) (b := false) rfl rfl (congrArg vB c88_f) (T_val (v := (vP (some ⟨b19_, 7, none⟩))) (by kernel_rfl) ?_)
        refine S_yes (j := 17) (dj := 89) (b := false) rfl rfl (congrArg vB c88_f) (T_val (v := (vI .i64 x16_.kV_Version)) (x_load1 rfl underlying2 rfl ((Holds.rd H76_ 0 rfl) 7 (vI .i64 x16_.kV_Version) rfl)) ?_)
        refine S_yes (j := 17) (dj := 89) (b := false) rfl rfl (congrArg vB c88_f) (T_val (v := (vB (decide (1152921504606846976 < x16_.kV_Version)))) (x_bin rfl rfl rfl) ?_)
        refine S_yes (j := 3) (dj := 75) (b := true) rfl rfl (congrArg vB c84_t) (T_pickF (v := (vB (decide (1152921504606846976 < x16_.kV_Version)))) (congrArg vB c88_f) rfl ?_)
        refine S_yes (j := 3) (dj := 75) (b := true) rfl rfl (congrArg vB c84_t) (T_val (v := (vB (decide (1152921504606846976 < x16_.kV_Version)))) (x_move rfl) ?_)
        rcases Bool.eq_false_or_eq_true (decide (1152921504606846976 < x16_.kV_Version)) with c91_t | c91_f
        ·have c91_tp : 1152921504606846976 < x16_.kV_Version := of_decide_eq_true c91_t
         refine S_no (j := 23) (dj := 95) (b := true) rfl rfl (congrArg vB c91_t) (by decide) ?_
         refine S_no (j := 23) (dj := 95) (b := true) rfl rfl (congrArg vB c91_t) (by decide) ?_
         refine S_no (j := 23) (dj := 95) (b := true) rfl rfl (congrArg vB c91_t) (by decide) ?_
         refine S_no (j := 23) (dj := 95) (b := true) rfl rfl (congrArg vB c91_t) (by decide) ?_
         refine S_yes (j := 3) (dj := 75) (b := true) rfl rfl (congrArg vB c84_t) (T_pickT (v := (vB true)) (congrArg vB c91_t) rfl ?_)
         refine S_yes (j := 3) (dj := 75) (b := true) rfl rfl (congrArg vB c84_t) (T_val (v := (vB true)) (x_move rfl) ?_)
         refine S_no (j := 29) (dj := 101) (b := true) rfl rfl rfl (by decide) ?_
         refine S_no (j := 29) (dj := 101) (b := true) rfl rfl rfl (by decide) ?_
         refine S_no (j := 29) (dj := 101) (b := true) rfl rfl rfl (by decide) ?_
         refine S_no (j := 29) (dj := 101) (b := true) rfl rfl rfl (by decide) ?_
         refine S_no (j := 29) (dj := 101) (b := true) rfl rfl rfl (by decide) ?_
         refine S_no (j := 29) (dj := 101) (b := true) rfl rfl rfl (by decide) ?_
         refine S_no (j := 29) (dj := 101) (b := true) rfl rfl rfl (by decide) ?_
         refine S_yes (j := 3) (dj := 75) (b := true) rfl rfl (congrArg vB c84_t) (T_pickT (v := (vB true)) rfl rfl ?_)
         refine S_list (T_pickT (v := (vB true)) (congrArg vB c84_t) rfl ?_)
         refine wn (hK83_ _ _ ?_)
         refine C_condT rfl ?_
         refine cR fun _ hK92_ => ?_
         refine sv (v := (vB false)) (x_assign rfl) ?_
         refine wn (hK92_ _ _ ?_)
         refine C_ret (X_blkR (X_thenR (X_thenR (X_blkR (X_thenR ?_)))))
         refine R_any (v := (vB false)) (run_results1 rfl rfl) ?_
         have H93_ := Holds.pkF H76_ [1] 1
         exact ⟨_, _, rfl, ⟨false, rfl, rfl, (fun h => by cases h)⟩, S77_, H93_⟩
        ·have c91_fp : ¬ (1152921504606846976 < x16_.kV_Version) := of_decide_eq_false c91_f
         refine S_yes (j := 23) (dj := 95) (b := false) rfl rfl (congrArg vB c91_f) (T_val (v := (vP (some ⟨b19_, 3, none⟩))) (by kernel_rfl) ?_)
         refine S_yes (j := 23) (dj := 95) (b := false) rfl rfl (congrArg vB c91_f) (T_val (v := (vP (some ⟨b19_, 5, none⟩))) (by kernel_rfl) ?_)
         refine S_yes (j := 23) (dj := 95) (b := false) rfl rfl (congrArg vB c91_f) (T_val (v := (vI .i64 x16_.kV_Create)) (x_load1 rfl underlying2 rfl ((Holds.rd H76_ 0 rfl) 5 (vI .i64 x16_.kV_Create) rfl)) ?_)
         refine S_yes (j := 23) (dj := 95) (b := false) rfl rfl (congrArg vB c91_f) (T_val (v := (vB (decide (x16_.kV_Create < 1)))) (x_bin rfl rfl rfl) ?_)
         refine S_yes (j := 3) (dj := 75) (b := true) rfl rfl (congrArg vB c84_t) (T_pickF (v := (vB (decide (x16_.kV_Create < 1)))) (congrArg vB c91_f) rfl ?_)
         refine S_yes (j := 3) (dj := 75) (b := true) rfl rfl (congrArg vB c84_t) (T_val (v := (vB (decide (x16_.kV_Create < 1)))) (x_move rfl) ?_)
         rcases Bool.eq_false_or_eq_true (decide (x16_.kV_Create < 1)) with c94_t | c94_f
         ·have c94_tp : x16_.kV_Create < 1 := of_decide_eq_true c94_t
          refine S_no (j := 29) (dj := 101) (b := true) rfl rfl (congrArg vB c94_t) (by decide) ?_
          refine S_no (j := 29) (dj := 101) (b := true) rfl rfl (congrArg vB c94_t) (by decide) ?_
          refine S_no (j := 29) (dj := 101) (b := true) rfl rfl (congrArg vB c94_t) (by decide) ?_
          refine S_no (j := 29) (dj := 101) (b := true) rfl rfl (congrArg vB c94_t) (by decide) ?_
          refine S_no (j := 29) (dj := 101) (b := true) rfl rfl (congrArg vB c94_t) (by decide) ?_
          refine S_no (j := 29) (dj := 101) (b := true) rfl rfl (congrArg vB c94_t) (by decide) ?_
          refine S_no (j := 29) (dj := 101) (b := true) rfl rfl (congrArg vB c94_t) (by decide) ?_
          refine S_yes (j := 3) (dj := 75) (b := true) rfl rfl (congrArg vB c84_t) (T_pickT (v := (vB true)) (congrArg vB c94_t) rfl ?_)
          refine S_list (T_pickT (v := (vB true)) (congrArg vB c84_t) rfl ?_)
          refine wn (hK83_ _ _ ?_)
          refine C_condT rfl ?_
          refine cR fun _ hK95_ => ?_
          refine sv (v := (vB false)) (x_assign rfl) ?_
          refine wn (hK95_ _ _ ?_)
          refine C_ret (X_blkR (X_thenR (X_thenR (X_blkR (X_thenR ?_)))))
          refine R_any (v := (vB false)) (run_results1 rfl rfl) ?_
          have H96_ := Holds.pkF H76_ [1] 1
          exact ⟨_, _, rfl, ⟨false, rfl, rfl, (fun h => by cases h)⟩, S77_, H96_⟩
         ·have c94_fp : ¬ (x16_.kV_Create < 1) := of_decide_eq_false c94_f
          refine S_yes (j := 29) (dj := 101) (b := false) rfl rfl (congrArg vB c94_f) (T_val (v := (vP (some ⟨b19_, 3, none⟩))) (by kernel_rfl) ?_)
          refine S_yes (j := 29) (dj := 101) (b := false) rfl rfl (congrArg vB c94_f) (T_val (v := (vP (some ⟨b19_, 5, none⟩))) (by kernel_rfl) ?_)
          refine S_yes (j := 29) (dj := 101) (b := false) rfl rfl (congrArg vB c94_f) (T_val (v := (vI .i64 x16_.kV_Create)) (x_load1 rfl underlying2 rfl ((Holds.rd H76_ 0 rfl) 5 (vI .i64 x16_.kV_Create) rfl)) ?_)
          refine S_yes (j := 29) (dj := 101) (b := false) rfl rfl (congrArg vB c94_f) (T_val (v := (vP (some ⟨b19_, 3, none⟩))) (by kernel_rfl) ?_)
          refine S_yes (j := 29) (dj := 101) (b := false) rfl rfl (congrArg vB c94_f) (T_val (v := (vP (some ⟨b19_, 6, none⟩))) (by kernel_rfl) ?_)
          refine S_yes (j := 29) (dj := 101) (b := false) rfl rfl (congrArg vB c94_f) (T_val (v := (vI .i64 x16_.kV_Mod)) (x_load1 rfl underlying2 rfl ((Holds.rd H76_ 0 rfl) 6 (vI .i64 x16_.kV_Mod) rfl)) ?_)
          refine S_yes (j := 29) (dj := 101) (b := false) rfl rfl (congrArg vB c94_f) (T_val (v := (vB (decide (x16_.kV_Mod < x16_.kV_Create)))) (x_bin rfl rfl rfl) ?_)
          refine S_yes (j := 3) (dj := 75) (b := true) rfl rfl (congrArg vB c84_t) (T_pickF (v := (vB (decide (x16_.kV_Mod < x16_.kV_Create)))) (congrArg vB c94_f) rfl ?_)
          refine S_list (T_pickT (v := (vB (decide (x16_.kV_Mod < x16_.kV_Create)))) (congrArg vB c84_t) rfl ?_)
          refine wn (hK83_ _ _ ?_)
          refine C_cond (b := decide (x16_.kV_Mod < x16_.kV_Create)) rfl (fun c97_t => ?_) (fun c97_f => ?_)
          ·have c97_tp : x16_.kV_Mod < x16_.kV_Create := of_decide_eq_true c97_t
           refine cR fun _ hK98_ => ?_
           refine sv (v := (vB false)) (x_assign rfl) ?_
           refine wn (hK98_ _ _ ?_)
           refine C_ret (X_blkR (X_thenR (X_thenR (X_blkR (X_thenR ?_)))))
           refine R_any (v := (vB false)) (run_results1 rfl rfl) ?_
           have H99_ := Holds.pkF H76_ [1] 1
           exact ⟨_, _, rfl, ⟨false, rfl, rfl, (fun h => by cases h)⟩, S77_, H99_⟩
          ·have c97_fp : ¬ (x16_.kV_Mod < x16_.kV_Create) := of_decide_eq_false c97_f
           refine C_skip (X_blkN (X_then (hK14_ _ _ ?_)))
           refine C_reg ?_
           refine sv (v := (vI .i64 ((k : Int) + 1))) (x_bin rfl rfl (ib_add (IntWalk.i64_in _ (by omega)))) ?_
           refine sm (vI .i64 ((k : Int) + 1)) ?_
           refine wpList_nil (X_then ?_)
           have H100_ := Holds.pkF H76_ [1] 1
           exact ⟨⟨k + 1, s2_v⟩, ⟨_, congrArg (fun e => mkA 112 e []) (ch (ch (ch (ch (ch rfl rfl) rfl) rfl) rfl) (congrArg (vI .i64) ((by first | rfl | omega | (simp; done) | (simp; omega)) : (k : Int) + 1 = ((k + 1 : Nat) : Int)))), H100_, S77_, (by first | assumption | omega | exact rfl), (goodr_snoc hok hx17_ ⟨hgx.1, hgx.2.1, hgx.2.2.1, hgx.2.2.2.1, hgx.2.2.2.2, hgy, (fun _ => by omega)⟩)⟩, by first | omega | (dsimp only; omega) | (simp; omega)⟩
     ·skip
      refine S_no (j := 3) (dj := 75) (b := false) rfl rfl (congrArg vB c84_f) (by decide) ?_
      refine S_no (j := 3) (dj := 75) (b := false) rfl rfl (congrArg vB c84_f) (by decide) ?_
      refine S_no (j := 3) (dj := 75) (b := false) rfl rfl (congrArg vB c84_f) (by decide) ?_
      refine S_no (j := 3) (dj := 75) (b := false) rfl rfl (congrArg vB c84_f) (by decide) ?_
      refine S_no (j := 3) (dj := 75) (b := false) rfl rfl (congrArg vB c84_f) (by decide) ?_
      refine S_no (j := 3) (dj := 75) (b := false) rfl rfl (congrArg vB c84_f) (by decide) ?_
      refine S_no (j := 3) (dj := 75) (b := false) rfl rfl (congrArg vB c84_f) (by decide) ?_
      refine S_no (j := 3) (dj := 75) (b := false) rfl rfl (congrArg vB c84_f) (by decide) ?_
      refine S_noU (j := 11) (dj := 83) rfl rfl rfl ?_
      refine S_noU (j := 11) (dj := 83) rfl rfl rfl ?_
      refine S_noU (j := 11) (dj := 83) rfl rfl rfl ?_
      refine S_noU (j := 11) (dj := 83) rfl rfl rfl ?_
      refine S_no (j := 3) (dj := 75) (b := false) rfl rfl (congrArg vB c84_f) (by decide) ?_
      refine S_no (j := 3) (dj := 75) (b := false) rfl rfl (congrArg vB c84_f) (by decide) ?_
      refine S_noU (j := 17) (dj := 89) rfl rfl rfl ?_
      refine S_noU (j := 17) (dj := 89) rfl rfl rfl ?_
      refine S_noU (j := 17) (dj := 89) rfl rfl rfl ?_
      refine S_noU (j := 17) (dj := 89) rfl rfl rfl ?_
      refine S_no (j := 3) (dj := 75) (b := false) rfl rfl (congrArg vB c84_f) (by decide) ?_
      refine S_no (j := 3) (dj := 75) (b := false) rfl rfl (congrArg vB c84_f) (by decide) ?_
      refine S_noU (j := 23) (dj := 95) rfl rfl rfl ?_
      refine S_noU (j := 23) (dj := 95) rfl rfl rfl ?_
      refine S_noU (j := 23) (dj := 95) rfl rfl rfl ?_
      refine S_noU (j := 23) (dj := 95) rfl rfl rfl ?_
      refine S_no (j := 3) (dj := 75) (b := false) rfl rfl (congrArg vB c84_f) (by decide) ?_
      refine S_no (j := 3) (dj := 75) (b := false) rfl rfl (congrArg vB c84_f) (by decide) ?_
      refine S_noU (j := 29) (dj := 101) rfl rfl rfl ?_
      refine S_noU (j := 29) (dj := 101) rfl rfl rfl ?_
      refine S_noU (j := 29) (dj := 101) rfl rfl rfl ?_
      refine S_noU (j := 29) (dj := 101) rfl rfl rfl ?_
      refine S_noU (j := 29) (dj := 101) rfl rfl rfl ?_
      refine S_noU (j := 29) (dj := 101) rfl rfl rfl ?_
      refine S_noU (j := 29) (dj := 101) rfl rfl rfl ?_
      refine S_no (j := 3) (dj := 75) (b := false) rfl rfl (congrArg vB c84_f) (by decide) ?_
      refine S_list (T_pickF (v := (vB false)) (congrArg vB c84_f) rfl ?_)
      refine wn (hK83_ _ _ ?_)
      refine C_condF rfl ?_
      refine C_skip (X_blkN (X_then (hK14_ _ _ ?_)))
      refine C_reg ?_
      refine sv (v := (vI .i64 ((k : Int) + 1))) (x_bin rfl rfl (ib_add (IntWalk.i64_in _ (by omega)))) ?_
      refine sm (vI .i64 ((k : Int) + 1)) ?_
      refine wpList_nil (X_then ?_)
      have H101_ := Holds.pkF H76_ [1] 1
      exact ⟨⟨k + 1, s2_v⟩, ⟨_, congrArg (fun e => mkA 112 e []) (ch (ch (ch (ch (ch rfl rfl) rfl) rfl) rfl) (congrArg (vI .i64) ((by first | rfl | omega | (simp; done) | (simp; omega)) : (k : Int) + 1 = ((k + 1 : Nat) : Int)))), H101_, S77_, (by first | assumption | omega | exact rfl), (goodr_snoc hok hx17_ ⟨hgx.1, hgx.2.1, hgx.2.2.1, hgx.2.2.2.1, hgx.2.2.2.2, hgy, (fun h => by rw [h] at c84_f; cases c84_f)⟩)⟩, by first | omega | (dsimp only; omega) | (simp; omega)⟩
  ·have c13_fp : ¬ ((k : Int) < (L.length : Int)) := of_decide_eq_false c13_f
   refine C_exit (X_thenX (X_thenX (X_blkHit ?_)))
   refine (X_then (hK6_ _ _ ?_))
   refine cR fun _ hK102_ => ?_
   refine sv (v := (vB true)) (x_assign rfl) ?_
   refine wn (hK102_ _ _ ?_)
   refine C_ret ?_
   refine R_any (v := (vB true)) (run_results1 rfl rfl) ?_
   exact ⟨_, _, rfl, ⟨true, rfl, rfl, (fun _ => ⟨by omega, fun o hm => hok o (by rw [List.take_of_length_le (by omega)]; exact hm)⟩)⟩, S10_, H9_⟩
end Go.Proofs.YtlnihndjepjagaaGreat
set_option linter.unusedVariables false
set_option linter.unusedSimpArgs false
namespace Go.Proofs.YtlnihndjepjagaaGreat
open Go Go.RowKit Gw Tryz
open Go.Value renaming int → vI, bool → vB, slice → vS, pointer → vP, agg → vA, tuple → vT

/-! ### A row that is alive -/
def liveR : RW := ⟨2, 0, false, ByteArray.mk #[107], ByteArray.mk #[118], 2, 2, 1, 0⟩
def liveW : GW := ⟨1, ByteArray.mk #[107], ByteArray.empty, false, 0⟩
def liveE : EV := ⟨false, ByteArray.mk #[107], ByteArray.mk #[118], 2, 2, 1, 0⟩
theorem liveR_good : GoodR liveR := ⟨by decide, by decide, by decide, by decide, by decide, (fun h => by cases h), fun _ => rfl⟩
theorem liveR_in : InR liveR := by
  refine ⟨by decide, by decide, ?_, ?_, by decide, by decide, by decide, by decide⟩
  · exact Nat.le_trans (show (ByteArray.mk #[107]).size ≤ 60 by decide) (by decide)
  · exact Nat.le_trans (show (ByteArray.mk #[118]).size ≤ 60 by decide) (by decide)
theorem live_ok : ∀ x ∈ [liveR], RWok x := fun x hx => by rw [List.mem_singleton.1 hx]; exact liveR_good.ok liveR_in
theorem live_w : ∀ x ∈ [liveW], WProper x ∧ x.end_.size ≤ 2147483647 := fun x hx => by
  rw [List.mem_singleton.1 hx]
  exact ⟨(fun h => by cases h), by decide⟩
theorem live_sel : (selR [liveW] [liveR]).map evOf = [liveE] := by
  rw [good_sel (fun x hx => by rw [List.mem_singleton.1 hx]; exact liveR_good)]
  have h : sawB [liveW] liveR = true := by simp [sawB, seesB, liveW, liveR]
  unfold specL
  rw [List.filter_cons_of_pos h]
  rfl


set_option maxHeartbeats 8000000 in
theorem lwRoLive (R : HP) :
    Tri Tryz.prog 16 #[] R [] (fun v__ post__ => v__ = (vB true) ∧ post__ = []) := by
 refine Tri.into (n := 22) (al := []) func16 rfl ntmps16 rfl rfl fun w F H => ?_
 refine cR fun _ hK1_ => ?_
 refine sv (v := (vB false)) (x_assign rfl) ?_
 refine wn (hK1_ _ _ ?_)
 refine cR fun _ hK2_ => ?_
 refine sv (v := (vA #[(Value.string (ByteArray.mk #[107])), (Value.string (ByteArray.mk #[118])), (vI .i64 2), (vI .i64 2), (vI .i64 1), (vI .i64 0)])) (by kernel_rfl) ?_
 refine S_list (T_alloc z52 H ?_)
 intro b3_ w4_ S6_ H5_
 have S7_ := Same.trans (Same.refl w) S6_
 refine S_list0 (T_storeN (vs := [(Value.string (ByteArray.mk #[107])), (Value.string (ByteArray.mk #[118])), (vI .i64 2), (vI .i64 2), (vI .i64 1), (vI .i64 0)]) rfl rfl z52 rfl (by simp [Value.oneCell']) H5_ 0 rfl (Nat.le_of_ble_eq_true (by rfl)) ?_)
 intro w8_ S10_ H9_
 have S11_ := Same.trans S7_ S10_
 refine wn (hK2_ _ _ ?_)
 refine cR fun _ hK12_ => ?_
 refine sv (v := (vA #[(vI .i64 2), (vI .i64 0)])) (by kernel_rfl) ?_
 refine sv (v := (vA #[(Value.string (ByteArray.mk #[107])), (Value.string (ByteArray.mk #[118])), (vI .i64 2), (vI .i64 2), (vI .i64 1), (vI .i64 0)])) (x_loadN (vs := [(Value.string (ByteArray.mk #[107])), (Value.string (ByteArray.mk #[118])), (vI .i64 2), (vI .i64 2), (vI .i64 1), (vI .i64 0)]) rfl underlying52 rfl z52 rfl (Rd.cells (Holds.rd H9_ 0 rfl) 0 rfl)) ?_
 refine sv (v := (vA #[(vI .i64 2), (vI .i64 0), (vB false), (Value.string (ByteArray.mk #[107])), (Value.string (ByteArray.mk #[118])), (vI .i64 2), (vI .i64 2), (vI .i64 1), (vI .i64 0)])) (by kernel_rfl) ?_
 refine S_list (T_new (obj := .cells #[(vI .i64 2), (vI .i64 0), (vB false), (Value.string (ByteArray.mk #[107])), (Value.string (ByteArray.mk #[118])), (vI .i64 2), (vI .i64 2), (vI .i64 1), (vI .i64 0)] 70) (f := fun b__ => .slice (some ⟨b__, 0, none⟩) 1 1) (A := fun b__ => cl b__ 70 [(vI .i64 2), (vI .i64 0), (vB false), (Value.string (ByteArray.mk #[107])), (Value.string (ByteArray.mk #[118])), (vI .i64 2), (vI .i64 2), (vI .i64 1), (vI .i64 0)]) (by kernel_rfl) (fun l h => h.alloc _ _) H9_ ?_)
 intro b13_ w14_ S16_ H15_
 have S17_ := Same.trans S11_ S16_
 refine sv (v := (vA #[(vI .i64 1), (Value.string (ByteArray.mk #[107])), (Value.string ByteArray.empty), (vB false), (vI .i64 0)])) (by kernel_rfl) ?_
 refine S_list (T_new (obj := .cells #[(vI .i64 1), (Value.string (ByteArray.mk #[107])), (Value.string ByteArray.empty), (vB false), (vI .i64 0)] 26) (f := fun b__ => .slice (some ⟨b__, 0, none⟩) 1 1) (A := fun b__ => cl b__ 26 [(vI .i64 1), (Value.string (ByteArray.mk #[107])), (Value.string ByteArray.empty), (vB false), (vI .i64 0)]) (by kernel_rfl) (fun l h => h.alloc _ _) H15_ ?_)
 intro b18_ w19_ S21_ H20_
 have S22_ := Same.trans S17_ S21_
 have H23_ := ((Holds.bring (Holds.bring H20_ 1 rfl) 3 rfl) :)
 obtain ⟨R24_, hs25_, ⟨R26_, ha27_, hs28_⟩, H29_⟩ := Holds.gift H23_
 have hr30_ : RS R24_ 9 (vS (some ⟨b13_, 0, none⟩) 1 1) 1 ([liveR].flatMap RW.cells) := (RS.set_ (cl_RSn (sz := 9) ha27_ (Sub.rfl' _) (by rfl) (by omega)) rfl rfl).mono hs28_
 obtain ⟨R31_, hs32_, ⟨R33_, ha34_, hs35_⟩, H36_⟩ := Holds.gift H29_
 have hz_R_R31_ := Sub.trans' hs25_ hs32_
 have hr37_ : RS R31_ 5 (vS (some ⟨b18_, 0, none⟩) 1 1) 1 ([liveW].flatMap GW.cells) := (RS.set_ (cl_RSn (sz := 5) ha34_ (Sub.rfl' _) (by rfl) (by omega)) rfl rfl).mono hs35_
 refine S_list (T_callG (al := [((vS (some ⟨b13_, 0, none⟩) 1 1)), ((vS (some ⟨b18_, 0, none⟩) 1 1))]) (pre := []) rfl (lcons (rfl : (vS (some ⟨b13_, 0, none⟩) 1 1) = ((vS (some ⟨b13_, 0, none⟩) 1 1))) (lcons (rfl : (vS (some ⟨b18_, 0, none⟩) 1 1) = ((vS (some ⟨b18_, 0, none⟩) 1 1))) rfl)) cb19 (evOfs R31_ (vS (some ⟨b13_, 0, none⟩) 1 1) (vS (some ⟨b18_, 0, none⟩) 1 1) [liveR] [liveW] (RS.set_ (RS.mono hr30_ hs32_) rfl (by first | rfl | omega | (simp; done) | (simp; omega))) (RS.set_ hr37_ rfl (by first | rfl | omega | (simp; done) | (simp; omega))) (by decide) (by decide) (live_ok) (live_w) (by simp)) H36_ ?_)
 rintro R39_ v40_ p45_ w42_ hs38_ ⟨_, rfl, rfl, he41_⟩ S44_ H43_
 have S46_ := Same.trans S22_ S44_
 have hz_R_R39_ := Sub.trans' hz_R_R31_ hs38_
 have hz_R24__R39_ := Sub.trans' hs32_ hs38_
 have hrl47_ : RS R39_ 7 v40_ (List.length [liveE]) ([liveE].flatMap EV.cells) := by have h__ := he41_; rw [live_sel] at h__; exact h__
 refine sv (v := v40_) (x_assign rfl) ?_
 refine wn (hK12_ _ _ ?_)
 refine C_seq (fun _ hK48_ => ?_)
 refine A_start (S := fun w => Rd b3_ [(Value.string (ByteArray.mk #[107])), (Value.string (ByteArray.mk #[118])), (vI .i64 2), (vI .i64 2), (vI .i64 1), (vI .i64 0)] w ∧ Sub R39_ (hp w)) (N := 12) foll rfl rfl ?_
 have H49_ := Holds.drew_ H43_
 have hq50_ := And.intro (Holds.rd H49_ 1 rfl) ((Holds.ro_at H49_ 0 rfl))
 refine A_tk 0 (v := v40_) rfl (by kernel_rfl) (fun w hS => x_move rfl) hq50_ ?_
 refine A_tk 1 (v := (vI .i64 ((List.length [liveE]) : Int))) rfl (by kernel_rfl) (fun w hS => x_lenRS rfl hrl47_ underlying27) hq50_ ?_
 refine A_tk 2 (v := (vB (decide (((List.length [liveE]) : Int) = 1)))) rfl (by kernel_rfl) (fun w hS => x_bin rfl rfl rfl) hq50_ ?_
 refine A_tk 3 (v := (vB (decide (((List.length [liveE]) : Int) = 1)))) rfl (by kernel_rfl) (fun w hS => x_move rfl) hq50_ ?_
 rcases Bool.eq_false_or_eq_true (decide (((List.length [liveE]) : Int) = 1)) with c51_t | c51_f
 ·have c51_tp : ((List.length [liveE]) : Int) = 1 := of_decide_eq_true c51_t
  refine A_tkY 4 (j := 3) (dj := 14) (b := true) (v := v40_) rfl (by kernel_rfl) rfl rfl (congrArg vB c51_t) (fun w hS => x_move rfl) hq50_ ?_
  refine A_tkY 5 (j := 3) (dj := 14) (b := true) (v := (vP (some ⟨(sb v40_), so v40_ + (0 + 0), none⟩))) rfl (by kernel_rfl) rfl rfl (congrArg vB c51_t) (fun w hS => x_idxRS (v := v40_) rfl hrl47_ rfl underlying27 z54 (by omega) (by omega) (by omega : _ = 0) rfl) hq50_ ?_
  refine A_tkY 6 (j := 3) (dj := 14) (b := true) (v := (vA #[(vB liveE.gone), (Value.string liveE.kV_Key), (Value.string liveE.kV_Value), (vI .i64 liveE.kV_Create), (vI .i64 liveE.kV_Mod), (vI .i64 liveE.kV_Version), (vI .i64 liveE.kV_Lease)])) rfl (by kernel_rfl) rfl rfl (congrArg vB c51_t) (fun w hS => x_loadN (vs := [(vB liveE.gone), (Value.string liveE.kV_Key), (Value.string liveE.kV_Value), (vI .i64 liveE.kV_Create), (vI .i64 liveE.kV_Mod), (vI .i64 liveE.kV_Version), (vI .i64 liveE.kV_Lease)]) rfl underlying54 rfl z54 rfl (RC.cells (RS.rc hrl47_) hS.2 (0 + 0) (fm_cells EV.len (rfl : [liveE][0]? = some liveE) (i := 0) rfl))) hq50_ ?_
  refine A_tkY 7 (j := 3) (dj := 14) (b := true) (v := (vA #[(Value.string (ByteArray.mk #[107])), (Value.string (ByteArray.mk #[118])), (vI .i64 2), (vI .i64 2), (vI .i64 1), (vI .i64 0)])) rfl (by kernel_rfl) rfl rfl (congrArg vB c51_t) (fun w hS => x_loadN (vs := [(Value.string (ByteArray.mk #[107])), (Value.string (ByteArray.mk #[118])), (vI .i64 2), (vI .i64 2), (vI .i64 1), (vI .i64 0)]) rfl underlying52 rfl z52 rfl (Rd.cells hS.1 0 rfl)) hq50_ ?_
  refine A_tkY 8 (j := 3) (dj := 14) (b := true) (v := (vA #[(vB false), (Value.string (ByteArray.mk #[107])), (Value.string (ByteArray.mk #[118])), (vI .i64 2), (vI .i64 2), (vI .i64 1), (vI .i64 0)])) rfl (by kernel_rfl) rfl rfl (congrArg vB c51_t) (fun w hS => by kernel_rfl) hq50_ ?_
  refine A_tkY 9 (j := 3) (dj := 14) (b := true) (v := (vB ((liveE.gone == false) && (((liveE.kV_Key == (ByteArray.mk #[107])) && ((liveE.kV_Value == (ByteArray.mk #[118])) && ((decide (liveE.kV_Create = 2)) && ((decide (liveE.kV_Mod = 2)) && ((decide (liveE.kV_Version = 1)) && ((decide (liveE.kV_Lease = 0)) && (true))))))) && (true))))) rfl (by kernel_rfl) rfl rfl (congrArg vB c51_t) (fun w hS => x_eqS rfl rfl (by kernel_rfl) (eq_struct underlying54 (by kernel_rfl) (eqf_cons rfl (run_part1 underlying4 rfl rfl) (run_part1 underlying4 rfl rfl) (eq_bool underlying4) (eqf_cons rfl (run_partN underlying52 rfl z52) (run_partN underlying52 rfl z52) (eq_struct underlying52 (by kernel_rfl) (eqf_cons rfl (run_part1 underlying9 rfl rfl) (run_part1 underlying9 rfl rfl) (eq_str underlying9) (eqf_cons rfl (run_part1 underlying9 rfl rfl) (run_part1 underlying9 rfl rfl) (eq_str underlying9) (eqf_cons rfl (run_part1 underlying2 rfl rfl) (run_part1 underlying2 rfl rfl) (eq_int underlying2) (eqf_cons rfl (run_part1 underlying2 rfl rfl) (run_part1 underlying2 rfl rfl) (eq_int underlying2) (eqf_cons rfl (run_part1 underlying2 rfl rfl) (run_part1 underlying2 rfl rfl) (eq_int underlying2) (eqf_cons rfl (run_part1 underlying2 rfl rfl) (run_part1 underlying2 rfl rfl) (eq_int underlying2) (eqf_nil)))))))) (eqf_nil))))) hq50_ ?_
  refine A_tk 10 (v := (vB ((liveE.gone == false) && (((liveE.kV_Key == (ByteArray.mk #[107])) && ((liveE.kV_Value == (ByteArray.mk #[118])) && ((decide (liveE.kV_Create = 2)) && ((decide (liveE.kV_Mod = 2)) && ((decide (liveE.kV_Version = 1)) && ((decide (liveE.kV_Lease = 0)) && (true))))))) && (true))))) rfl (by kernel_rfl) (fun w hS => (x_pickT (congrArg vB c51_t) rfl)) hq50_ ?_
  refine A_tk 11 (v := (vB ((liveE.gone == false) && (((liveE.kV_Key == (ByteArray.mk #[107])) && ((liveE.kV_Value == (ByteArray.mk #[118])) && ((decide (liveE.kV_Create = 2)) && ((decide (liveE.kV_Mod = 2)) && ((decide (liveE.kV_Version = 1)) && ((decide (liveE.kV_Lease = 0)) && (true))))))) && (true))))) rfl (by kernel_rfl) (fun w hS => x_assign rfl) hq50_ ?_
  refine A_done (by kernel_rfl) ?_
  refine (X_then (hK48_ _ _ ?_))
  refine C_ret ?_
  refine R_any (v := (vB ((liveE.gone == false) && (((liveE.kV_Key == (ByteArray.mk #[107])) && ((liveE.kV_Value == (ByteArray.mk #[118])) && ((decide (liveE.kV_Create = 2)) && ((decide (liveE.kV_Mod = 2)) && ((decide (liveE.kV_Version = 1)) && ((decide (liveE.kV_Lease = 0)) && (true))))))) && (true))))) (run_results1 rfl rfl) ?_
  have H55_ : Holds w42_.drew (ro R :: cl b3_ 52 [(Value.string (ByteArray.mk #[107])), (Value.string (ByteArray.mk #[118])), (vI .i64 2), (vI .i64 2), (vI .i64 1), (vI .i64 0)] :: F) := Holds.ro_less H49_ hz_R_R39_
  have H56_ := Holds.pkF H55_ [0] 1
  exact ⟨_, _, rfl, ⟨(congrArg vB ((by simp [liveE, Go.MapKept.bytes_beq]) : ((liveE.gone == false) && (((liveE.kV_Key == (ByteArray.mk #[107])) && ((liveE.kV_Value == (ByteArray.mk #[118])) && ((decide (liveE.kV_Create = 2)) && ((decide (liveE.kV_Mod = 2)) && ((decide (liveE.kV_Version = 1)) && ((decide (liveE.kV_Lease = 0)) && (true))))))) && (true))) = true)), rfl⟩, (Same.trans S46_ (Same.drew _)), H56_⟩
 ·have c51_fp : ¬ (((List.length [liveE]) : Int) = 1) := of_decide_eq_false c51_f
  (simp at c51_f)
end Go.Proofs.YtlnihndjepjagaaGreat
set_option linter.unusedVariables false
set_option linter.unusedSimpArgs false
namespace Go.Proofs.YtlnihndjepjagaaGreat
open Go Go.RowKit Gw Tryz
open Go.Value renaming int → vI, bool → vB, slice → vS, pointer → vP, agg → vA, tuple → vT

/-! ### Watchers with numbers of their own -/
theorem prop_take {L : List GW} {k : Nat} {x : GW} (h : ∀ y ∈ L.take k, WProper y) (hx : L[k]? = some x) (hq : WProper x) : ∀ y ∈ L.take (k + 1), WProper y := by
  rw [take_snoc hx]
  intro y hy
  rcases List.mem_append.1 hy with hy | hy
  · exact h y hy
  · rw [List.mem_singleton.1 hy]; exact hq
theorem ids_take {L : List GW} {k : Nat} {x : GW} (h : ((L.take k).map (·.iD)).Nodup) (hx : L[k]? = some x) (hq : ∀ y ∈ L.take k, y.iD ≠ x.iD) : ((L.take (k + 1)).map (·.iD)).Nodup := by
  rw [take_snoc hx, List.map_append, List.nodup_append]
  refine ⟨h, by simp, fun a ha b hb e => ?_⟩
  obtain ⟨y, hy, rfl⟩ := List.mem_map.1 ha
  simp at hb
  exact hq y hy (e.trans hb)
theorem ne_take {L : List GW} {j : Nat} {x y : GW} (h : ∀ z ∈ L.take j, z.iD ≠ x.iD) (hy : L[j]? = some y) (hq : ¬ y.iD = x.iD) : ∀ z ∈ L.take (j + 1), z.iD ≠ x.iD := by
  rw [take_snoc hy]
  intro z hz
  rcases List.mem_append.1 hz with hz | hz
  · exact h z hz
  · rw [List.mem_singleton.1 hz]; exact hq
theorem ne_all {L : List GW} {i j : Nat} {P : GW → Prop} (hj : (List.take (i - 0) (List.drop 0 L)).length ≤ j) (h : ∀ y ∈ List.take j (List.take (i - 0) (List.drop 0 L)), P y) : ∀ y ∈ L.take i, P y := by
  rw [List.take_of_length_le hj] at h
  simpa using h


set_option maxHeartbeats 16000000 in
theorem fnEventsOf (R : HP) (rv wv : Value) (L : List RW) (M : List GW) (hL : RS R 9 rv L.length (L.flatMap RW.cells)) (hM : RS R 5 wv (List.length M) (M.flatMap GW.cells)) (hin : ∀ x ∈ L, InR x) :
    Tri Tryz.prog 5 #[rv, wv] R [] (fun v__ post__ => v__ = (vB true) ∧ post__ = []) := by
 refine Tri.into (n := 68) (al := [rv, wv]) func5 rfl ntmps5 rfl rfl fun w F H => ?_
 refine cR fun _ hK1_ => ?_
 refine sv (v := (vB false)) (x_assign rfl) ?_
 refine wn (hK1_ _ _ ?_)
 refine C_seq (fun _ hK2_ => ?_)
 refine cR fun _ hK3_ => ?_
 refine sv (v := rv) (x_move rfl) ?_
 refine S_list (T_call (al := [rv]) (pre := []) rfl rfl cb14 (lwF31 R rv L hL) H ?_)
 rintro v4_ p10_ w7_ ⟨b5_, rfl, rfl, he6_⟩ S9_ H8_
 have S11_ := Same.trans (Same.refl w) S9_
 refine sv (v := (vB (!b5_))) (x_not rfl) ?_
 refine sm (vB (!b5_)) ?_
 rcases Bool.eq_false_or_eq_true (!b5_) with c12_t | c12_f
 ·skip
  refine S_no (j := 3) (dj := 12) (b := true) rfl rfl (congrArg vB c12_t) (by decide) ?_
  refine S_no (j := 3) (dj := 12) (b := true) rfl rfl (congrArg vB c12_t) (by decide) ?_
  refine S_no (j := 3) (dj := 12) (b := true) rfl rfl (congrArg vB c12_t) (by decide) ?_
  refine S_list (T_pickT (v := (vB true)) (congrArg vB c12_t) rfl ?_)
  refine wn (hK3_ _ _ ?_)
  refine C_condT rfl ?_
  refine cR fun _ hK13_ => ?_
  refine sv (v := (vB true)) (x_assign rfl) ?_
  refine wn (hK13_ _ _ ?_)
  refine C_ret (X_thenR ?_)
  refine R_any (v := (vB true)) (run_results1 rfl rfl) ?_
  exact ⟨_, _, rfl, ⟨rfl, rfl⟩, S11_, H8_⟩
 ·skip
  refine S_yes (j := 3) (dj := 12) (b := false) rfl rfl (congrArg vB c12_f) (T_val (v := wv) (x_move rfl) ?_)
  refine S_yes (j := 3) (dj := 12) (b := false) rfl rfl (congrArg vB c12_f) (T_call (al := [wv]) (pre := []) rfl rfl cb6 (lwF20 R wv M hM) H8_ ?_)
  rintro v14_ p20_ w17_ ⟨b15_, rfl, rfl, he16_⟩ S19_ H18_
  have S21_ := Same.trans S11_ S19_
  refine S_yes (j := 3) (dj := 12) (b := false) rfl rfl (congrArg vB c12_f) (T_val (v := (vB (!b15_))) (x_not rfl) ?_)
  refine S_list (T_pickF (v := (vB (!b15_))) (congrArg vB c12_f) rfl ?_)
  refine wn (hK3_ _ _ ?_)
  refine C_cond (b := !b15_) rfl (fun c22_t => ?_) (fun c22_f => ?_)
  ·skip
   refine cR fun _ hK23_ => ?_
   refine sv (v := (vB true)) (x_assign rfl) ?_
   refine wn (hK23_ _ _ ?_)
   refine C_ret (X_thenR ?_)
   refine R_any (v := (vB true)) (run_results1 rfl rfl) ?_
   exact ⟨_, _, rfl, ⟨rfl, rfl⟩, S21_, H18_⟩
  ·skip
   refine C_skip (X_then (hK2_ _ _ ?_))
   refine C_seq (fun _ hK24_ => ?_)
   refine cR fun _ hK25_ => ?_
   refine sv (v := rv) (x_move rfl) ?_
   refine S_list (T_call (al := [rv]) (pre := []) rfl rfl cb15 (lwRoGood R rv L hL) H18_ ?_)
   rintro v26_ p32_ w29_ ⟨b27_, rfl, rfl, he28_⟩ S31_ H30_
   have S33_ := Same.trans S21_ S31_
   refine sv (v := (vB (!b27_))) (x_not rfl) ?_
   refine sm (vB (!b27_)) ?_
   rcases Bool.eq_false_or_eq_true (!b27_) with c34_t | c34_f
   ·skip
    refine S_no (j := 3) (dj := 20) (b := true) rfl rfl (congrArg vB c34_t) (by decide) ?_
    refine S_no (j := 3) (dj := 20) (b := true) rfl rfl (congrArg vB c34_t) (by decide) ?_
    refine S_no (j := 3) (dj := 20) (b := true) rfl rfl (congrArg vB c34_t) (by decide) ?_
    refine S_list (T_pickT (v := (vB true)) (congrArg vB c34_t) rfl ?_)
    refine wn (hK25_ _ _ ?_)
    refine C_condT rfl ?_
    refine cR fun _ hK35_ => ?_
    refine S_list (T_call (al := []) (pre := []) rfl rfl cb16 (lwRoLive R) H30_ ?_)
    rintro v36_ p40_ w37_ ⟨rfl, rfl⟩ S39_ H38_
    have S41_ := Same.trans S33_ S39_
    refine sv (v := (vB true)) (x_assign rfl) ?_
    refine wn (hK35_ _ _ ?_)
    refine C_ret (X_thenR ?_)
    refine R_any (v := (vB true)) (run_results1 rfl rfl) ?_
    exact ⟨_, _, rfl, ⟨rfl, rfl⟩, S41_, H38_⟩
   ·skip
    refine S_yes (j := 3) (dj := 20) (b := false) rfl rfl (congrArg vB c34_f) (T_val (v := wv) (x_move rfl) ?_)
    refine S_yes (j := 3) (dj := 20) (b := false) rfl rfl (congrArg vB c34_f) (T_val (v := (vI .i64 ((List.length M) : Int))) (x_lenRS rfl hM underlying22) ?_)
    refine S_yes (j := 3) (dj := 20) (b := false) rfl rfl (congrArg vB c34_f) (T_val (v := (vB (decide (60 < ((List.length M) : Int))))) (x_bin rfl rfl rfl) ?_)
    refine S_list (T_pickF (v := (vB (decide (60 < ((List.length M) : Int))))) (congrArg vB c34_f) rfl ?_)
    refine wn (hK25_ _ _ ?_)
    refine C_cond (b := decide (60 < ((List.length M) : Int))) rfl (fun c42_t => ?_) (fun c42_f => ?_)
    ·have c42_tp : 60 < ((List.length M) : Int) := of_decide_eq_true c42_t
     refine cR fun _ hK43_ => ?_
     refine S_list (T_call (al := []) (pre := []) rfl rfl cb16 (lwRoLive R) H30_ ?_)
     rintro v44_ p48_ w45_ ⟨rfl, rfl⟩ S47_ H46_
     have S49_ := Same.trans S33_ S47_
     refine sv (v := (vB true)) (x_assign rfl) ?_
     refine wn (hK43_ _ _ ?_)
     refine C_ret (X_thenR ?_)
     refine R_any (v := (vB true)) (run_results1 rfl rfl) ?_
     exact ⟨_, _, rfl, ⟨rfl, rfl⟩, S49_, H46_⟩
    ·have c42_fp : ¬ (60 < ((List.length M) : Int)) := of_decide_eq_false c42_f
     refine C_skip (X_then (hK24_ _ _ ?_))
     refine C_seq (fun _ hK50_ => ?_)
     refine cR fun _ hK51_ => ?_
     refine sv (v := wv) (x_move rfl) ?_
     refine sv (v := (vI .i64 ((List.length M) : Int))) (x_lenRS rfl hM underlying22) ?_
     refine sm (vI .i64 0) ?_
     refine wn (hK51_ _ _ ?_)
     refine C_block ?_
     have hgz52_ := he16_ (by simpa using c22_f)
     have hgr53_ := he28_ (by simpa using c34_f)
     have hml2_ : M.length ≤ 60 := by omega
     have hgl_ := hgr53_.1
     refine C_loop (γ := Nat × Bool) (fun x__ a__ w1__ => match x__ with | ⟨i, t4_v⟩ => ∃ h : Env, a__ = mkA 68 (upd (upd (upd (upd (upd (upd h 0 rv) 1 wv) 4 (vB t4_v)) 26 wv) 27 (vI .i64 ((List.length M) : Int))) 28 (vI .i64 (i : Int))) [] ∧ Holds w1__ (ro R :: F) ∧ Same w w1__ ∧ (i ≤ M.length) ∧ (∀ x ∈ M.take i, WProper x) ∧ (((M.take i).map (·.iD)).Nodup)) (fun x__ => match x__ with | ⟨i, t4_v⟩ => M.length - i) (⟨0, false⟩) ⟨_, congrArg (fun e => mkA 68 e []) (ch (ch (ch (ch (ch (ch rfl rfl) rfl) rfl) rfl) rfl) (congrArg (vI .i64) ((by first | rfl | omega | (simp; done) | (simp; omega)) : 0 = (0 : Int)))), H30_, S33_, (by first | assumption | omega | exact rfl), (fun x hx => by simp at hx), (by simp)⟩ ?_
     rintro ⟨i, t4_v⟩ _ w54_ ⟨h, rfl, H55_, S56_, hii, hokW, hnd⟩
     refine cR fun _ hK57_ => ?_
     refine sv (v := (vB (decide ((i : Int) < ((List.length M) : Int))))) (x_bin rfl rfl rfl) ?_
     refine wn (hK57_ _ _ ?_)
     refine C_seq (fun _ hK58_ => ?_)
     refine C_cond (b := decide ((i : Int) < ((List.length M) : Int))) rfl (fun c59_t => ?_) (fun c59_f => ?_)
     ·have c59_tp : (i : Int) < ((List.length M) : Int) := of_decide_eq_true c59_t
      refine C_skip (X_then (hK58_ _ _ ?_))
      refine C_seq (fun _ hK60_ => ?_)
      refine C_block ?_
      refine cR fun _ hK61_ => ?_
      refine sm (vI .i64 (i : Int)) ?_
      obtain ⟨x62_, hx63_, hm64_⟩ := elem_at M i (by omega)
      refine sv (v := (vP (some ⟨(sb wv), so wv + (i * 5 + 0), none⟩))) (x_idxRS (v := wv) rfl hM rfl underlying22 z26 (by omega) (by omega) (by omega : _ = i) rfl) ?_
      refine sv (v := (vA #[(vI .i64 x62_.iD), (Value.string x62_.key), (Value.string x62_.end_), (vB x62_.hasEnd), (vI .i64 x62_.minRev)])) (x_loadN (vs := [(vI .i64 x62_.iD), (Value.string x62_.key), (Value.string x62_.end_), (vB x62_.hasEnd), (vI .i64 x62_.minRev)]) rfl underlying26 rfl z26 rfl (RC.cells (RS.rc hM) (Holds.ro_at H55_ 0 rfl) (i * 5 + 0) (fm_cells GW.len hx63_ (i := 0) rfl))) ?_
      refine S_list (T_alloc z26 H55_ ?_)
      intro b65_ w66_ S68_ H67_
      have S69_ := Same.trans S56_ S68_
      refine sv (v := (vI .i64 (i : Int))) (x_assign rfl) ?_
      refine S_list0 (T_storeN (vs := [(vI .i64 x62_.iD), (Value.string x62_.key), (Value.string x62_.end_), (vB x62_.hasEnd), (vI .i64 x62_.minRev)]) rfl rfl z26 rfl (by simp [Value.oneCell']) H67_ 0 rfl (Nat.le_of_ble_eq_true (by rfl)) ?_)
      intro w70_ S72_ H71_
      have S73_ := Same.trans S69_ S72_
      refine wn (hK61_ _ _ ?_)
      refine C_seq (fun _ hK74_ => ?_)
      refine cR fun _ hK75_ => ?_
      refine sv (v := (vA #[(vI .i64 x62_.iD), (Value.string x62_.key), (Value.string x62_.end_), (vB x62_.hasEnd), (vI .i64 x62_.minRev)])) (x_loadN (vs := [(vI .i64 x62_.iD), (Value.string x62_.key), (Value.string x62_.end_), (vB x62_.hasEnd), (vI .i64 x62_.minRev)]) rfl underlying26 rfl z26 rfl (Rd.cells (Holds.rd H71_ 0 rfl) 0 rfl)) ?_
      have H79_ := ((Holds.bring H71_ 1 rfl) :)
      refine S_list (T_call (al := [(vA #[(vI .i64 x62_.iD), (Value.string x62_.key), (Value.string x62_.end_), (vB x62_.hasEnd), (vI .i64 x62_.minRev)])]) (pre := []) rfl rfl cb17 (lwProper R x62_) H79_ ?_)
      rintro v76_ p83_ w80_ ⟨b77_, rfl, rfl, he78_⟩ S82_ H81_
      have S84_ := Same.trans S73_ S82_
      refine sv (v := (vB (!b77_))) (x_not rfl) ?_
      refine sm (vB (!b77_)) ?_
      rcases Bool.eq_false_or_eq_true (!b77_) with c85_t | c85_f
      ·skip
       refine S_no (j := 3) (dj := 36) (b := true) rfl rfl (congrArg vB c85_t) (by decide) ?_
       refine S_no (j := 3) (dj := 36) (b := true) rfl rfl (congrArg vB c85_t) (by decide) ?_
       refine S_no (j := 3) (dj := 36) (b := true) rfl rfl (congrArg vB c85_t) (by decide) ?_
       refine S_list (T_pickT (v := (vB true)) (congrArg vB c85_t) rfl ?_)
       refine wn (hK75_ _ _ ?_)
       refine C_condT rfl ?_
       refine cR fun _ hK86_ => ?_
       refine S_list (T_call (al := []) (pre := []) rfl rfl cb16 (lwRoLive R) H81_ ?_)
       rintro v87_ p91_ w88_ ⟨rfl, rfl⟩ S90_ H89_
       have S92_ := Same.trans S84_ S90_
       refine sv (v := (vB true)) (x_assign rfl) ?_
       refine wn (hK86_ _ _ ?_)
       refine C_ret (X_thenR (X_blkR (X_thenR (X_thenR (X_blkR (X_thenR ?_))))))
       refine R_any (v := (vB true)) (run_results1 rfl rfl) ?_
       have H93_ := Holds.pkF H89_ [0] 1
       exact ⟨_, _, rfl, ⟨rfl, rfl⟩, S92_, H93_⟩
      ·skip
       refine S_yes (j := 3) (dj := 36) (b := false) rfl rfl (congrArg vB c85_f) (T_val (v := (vP (some ⟨b65_, 1, none⟩))) (by kernel_rfl) ?_)
       refine S_yes (j := 3) (dj := 36) (b := false) rfl rfl (congrArg vB c85_f) (T_val (v := (Value.string x62_.key)) (x_load1 rfl underlying9 rfl ((Holds.rd H81_ 1 rfl) 1 (Value.string x62_.key) rfl)) ?_)
       refine S_yes (j := 3) (dj := 36) (b := false) rfl rfl (congrArg vB c85_f) (T_val (v := (vB (x62_.key.toList == (ByteArray.mk #[]).toList))) (x_str rfl rfl rfl (by decide)) ?_)
       refine S_list (T_pickF (v := (vB (x62_.key.toList == (ByteArray.mk #[]).toList))) (congrArg vB c85_f) rfl ?_)
       refine wn (hK75_ _ _ ?_)
       refine C_cond (b := x62_.key.toList == (ByteArray.mk #[]).toList) rfl (fun c94_t => ?_) (fun c94_f => ?_)
       ·skip
        refine cR fun _ hK95_ => ?_
        refine S_list (T_call (al := []) (pre := []) rfl rfl cb16 (lwRoLive R) H81_ ?_)
        rintro v96_ p100_ w97_ ⟨rfl, rfl⟩ S99_ H98_
        have S101_ := Same.trans S84_ S99_
        refine sv (v := (vB true)) (x_assign rfl) ?_
        refine wn (hK95_ _ _ ?_)
        refine C_ret (X_thenR (X_blkR (X_thenR (X_thenR (X_blkR (X_thenR ?_))))))
        refine R_any (v := (vB true)) (run_results1 rfl rfl) ?_
        have H102_ := Holds.pkF H98_ [0] 1
        exact ⟨_, _, rfl, ⟨rfl, rfl⟩, S101_, H102_⟩
       ·skip
        refine C_skip (X_then (hK74_ _ _ ?_))
        refine cR fun _ hK103_ => ?_
        refine sv (v := wv) (x_move rfl) ?_
        refine sm (vI .i64 (i : Int)) ?_
        refine sv (v := (slc wv 0 i 5)) (x_sliceRS (l := 0) (h := i) rfl hM underlying22 z26 (by omega) ⟨_, _, rfl, by omega, by omega, by omega⟩ rfl) ?_
        refine sv (v := (vI .i64 ((List.length (List.take (i - 0) (List.drop 0 M)) : Nat) : Int))) (x_lenRS rfl (RS.slcF GW.len hM (by omega : 0 ≤ i) (by omega)) underlying22) ?_
        refine sm (vI .i64 0) ?_
        refine wn (hK103_ _ _ ?_)
        refine C_block ?_
        have htl_ : List.length (List.take (i - 0) (List.drop 0 M)) = i := by simp; omega
        have hpw_ : WProper x62_ := he78_ (by simpa using c85_f)
        refine C_loop (γ := Nat × Bool) (fun x__ a__ w1__ => match x__ with | ⟨j, t4_v⟩ => ∃ h : Env, a__ = mkA 68 (upd (upd (upd (upd (upd (upd (upd (upd (upd (upd h 0 rv) 1 wv) 4 (vB t4_v)) 6 (vP (some ⟨b65_, 0, none⟩))) 26 wv) 27 (vI .i64 ((List.length M) : Int))) 28 (vI .i64 (i : Int))) 44 (slc wv 0 i 5)) 45 (vI .i64 ((List.length (List.take (i - 0) (List.drop 0 M)) : Nat) : Int))) 46 (vI .i64 (j : Int))) [] ∧ Holds w1__ (ro R :: cl b65_ 26 [(vI .i64 x62_.iD), (Value.string x62_.key), (Value.string x62_.end_), (vB x62_.hasEnd), (vI .i64 x62_.minRev)] :: F) ∧ Same w w1__ ∧ (j ≤ List.length (List.take (i - 0) (List.drop 0 M))) ∧ (∀ y ∈ List.take j (List.take (i - 0) (List.drop 0 M)), y.iD ≠ x62_.iD)) (fun x__ => match x__ with | ⟨j, t4_v⟩ => List.length (List.take (i - 0) (List.drop 0 M)) - j) (⟨0, t4_v⟩) ⟨_, congrArg (fun e => mkA 68 e []) (ch (ch (ch (ch (ch (ch (ch (ch (ch (ch rfl rfl) rfl) rfl) rfl) rfl) rfl) rfl) rfl) rfl) (congrArg (vI .i64) ((by first | rfl | omega | (simp; done) | (simp; omega)) : 0 = (0 : Int)))), H81_, S84_, (by first | assumption | omega | exact rfl), (fun y hy => by simp at hy)⟩ ?_
        rintro ⟨j, t4_v⟩ _ w104_ ⟨h, rfl, H105_, S106_, hjj, hne⟩
        refine cR fun _ hK107_ => ?_
        refine sv (v := (vB (decide ((j : Int) < ((List.length (List.take (i - 0) (List.drop 0 M)) : Nat) : Int))))) (x_bin rfl rfl rfl) ?_
        refine wn (hK107_ _ _ ?_)
        refine C_seq (fun _ hK108_ => ?_)
        refine C_cond (b := decide ((j : Int) < ((List.length (List.take (i - 0) (List.drop 0 M)) : Nat) : Int))) rfl (fun c109_t => ?_) (fun c109_f => ?_)
        ·have c109_tp : (j : Int) < ((List.length (List.take (i - 0) (List.drop 0 M)) : Nat) : Int) := of_decide_eq_true c109_t
         refine C_skip (X_then (hK108_ _ _ ?_))
         refine C_seq (fun _ hK110_ => ?_)
         refine C_block ?_
         refine cR fun _ hK111_ => ?_
         obtain ⟨x112_, hx113_, hm114_⟩ := elem_at (List.take (i - 0) (List.drop 0 M)) j (by omega)
         refine sv (v := (vP (some ⟨(sb (slc wv 0 i 5)), so (slc wv 0 i 5) + (j * 5 + 0), none⟩))) (x_idxRS (v := (slc wv 0 i 5)) rfl (RS.slcF GW.len hM (by omega : 0 ≤ i) (by omega)) rfl underlying22 z26 (by omega) (by omega) (by omega : _ = j) rfl) ?_
         refine sv (v := (vA #[(vI .i64 x112_.iD), (Value.string x112_.key), (Value.string x112_.end_), (vB x112_.hasEnd), (vI .i64 x112_.minRev)])) (x_loadN (vs := [(vI .i64 x112_.iD), (Value.string x112_.key), (Value.string x112_.end_), (vB x112_.hasEnd), (vI .i64 x112_.minRev)]) rfl underlying26 rfl z26 rfl (RC.cells (RS.rc (RS.slcF GW.len hM (by omega : 0 ≤ i) (by omega))) (Holds.ro_at H105_ 0 rfl) (j * 5 + 0) (fm_cells GW.len hx113_ (i := 0) rfl))) ?_
         refine S_list (T_alloc z26 H105_ ?_)
         intro b115_ w116_ S118_ H117_
         have S119_ := Same.trans S106_ S118_
         refine S_list0 (T_storeN (vs := [(vI .i64 x112_.iD), (Value.string x112_.key), (Value.string x112_.end_), (vB x112_.hasEnd), (vI .i64 x112_.minRev)]) rfl rfl z26 rfl (by simp [Value.oneCell']) H117_ 0 rfl (Nat.le_of_ble_eq_true (by rfl)) ?_)
         intro w120_ S122_ H121_
         have S123_ := Same.trans S119_ S122_
         refine wn (hK111_ _ _ ?_)
         refine cR fun _ hK124_ => ?_
         refine sv (v := (vP (some ⟨b115_, 0, none⟩))) (by kernel_rfl) ?_
         refine sv (v := (vI .i64 x112_.iD)) (x_load1 rfl underlying2 rfl ((Holds.rd H121_ 0 rfl) 0 (vI .i64 x112_.iD) rfl)) ?_
         refine sv (v := (vP (some ⟨b65_, 0, none⟩))) (by kernel_rfl) ?_
         refine sv (v := (vI .i64 x62_.iD)) (x_load1 rfl underlying2 rfl ((Holds.rd H121_ 2 rfl) 0 (vI .i64 x62_.iD) rfl)) ?_
         refine sv (v := (vB (decide (x112_.iD = x62_.iD)))) (x_bin rfl rfl rfl) ?_
         refine wn (hK124_ _ _ ?_)
         refine C_cond (b := decide (x112_.iD = x62_.iD)) rfl (fun c125_t => ?_) (fun c125_f => ?_)
         ·have c125_tp : x112_.iD = x62_.iD := of_decide_eq_true c125_t
          refine cR fun _ hK126_ => ?_
          have H128_ := ((Holds.bring H121_ 1 rfl) :)
          refine S_list (T_call (al := []) (pre := []) rfl rfl cb16 (lwRoLive R) H128_ ?_)
          rintro v127_ p132_ w129_ ⟨rfl, rfl⟩ S131_ H130_
          have S133_ := Same.trans S123_ S131_
          refine sv (v := (vB true)) (x_assign rfl) ?_
          refine wn (hK126_ _ _ ?_)
          refine C_ret (X_blkR (X_thenR (X_thenR (X_blkR (X_blkR (X_thenR (X_thenR (X_blkR (X_thenR ?_)))))))))
          refine R_any (v := (vB true)) (run_results1 rfl rfl) ?_
          have H134_ := Holds.pkF H130_ [0] 2
          exact ⟨_, _, rfl, ⟨rfl, rfl⟩, S133_, H134_⟩
         ·have c125_fp : ¬ (x112_.iD = x62_.iD) := of_decide_eq_false c125_f
          refine C_skip (X_blkN (X_then (hK110_ _ _ ?_)))
          refine C_reg ?_
          refine sv (v := (vI .i64 ((j : Int) + 1))) (x_bin rfl rfl (ib_add (IntWalk.i64_in _ (by omega)))) ?_
          refine sm (vI .i64 ((j : Int) + 1)) ?_
          refine wpList_nil (X_then ?_)
          have H135_ := Holds.pkF H121_ [1, 1] 1
          exact ⟨⟨j + 1, t4_v⟩, ⟨_, congrArg (fun e => mkA 68 e []) (ch (ch (ch (ch (ch (ch (ch (ch (ch (ch rfl rfl) rfl) rfl) rfl) rfl) rfl) rfl) rfl) rfl) (congrArg (vI .i64) ((by first | rfl | omega | (simp; done) | (simp; omega)) : (j : Int) + 1 = ((j + 1 : Nat) : Int)))), H135_, S123_, (by first | assumption | omega | exact rfl), (ne_take hne hx113_ c125_fp)⟩, by first | omega | (dsimp only; omega) | (simp; omega)⟩
        ·have c109_fp : ¬ ((j : Int) < ((List.length (List.take (i - 0) (List.drop 0 M)) : Nat) : Int)) := of_decide_eq_false c109_f
         refine C_exit (X_thenX (X_thenX (X_blkHit ?_)))
         refine (X_blkN (X_then (hK60_ _ _ ?_)))
         refine C_reg ?_
         refine sv (v := (vI .i64 ((i : Int) + 1))) (x_bin rfl rfl (ib_add (IntWalk.i64_in _ (by omega)))) ?_
         refine sm (vI .i64 ((i : Int) + 1)) ?_
         refine wpList_nil (X_then ?_)
         have H136_ := Holds.pkF H105_ [0] 1
         exact ⟨⟨i + 1, t4_v⟩, ⟨_, congrArg (fun e => mkA 68 e []) (ch (ch (ch (ch (ch (ch rfl rfl) rfl) rfl) rfl) rfl) (congrArg (vI .i64) ((by first | rfl | omega | (simp; done) | (simp; omega)) : (i : Int) + 1 = ((i + 1 : Nat) : Int)))), H136_, S106_, (by first | assumption | omega | exact rfl), (prop_take hokW hx63_ hpw_), (ids_take hnd hx63_ (ne_all (by omega) hne))⟩, by first | omega | (dsimp only; omega) | (simp; omega)⟩
     ·have c59_fp : ¬ ((i : Int) < ((List.length M) : Int)) := of_decide_eq_false c59_f
      refine C_exit (X_thenX (X_thenX (X_blkHit ?_)))
      refine (X_then (hK50_ _ _ ?_))
      refine cR fun _ hK137_ => ?_
      refine sv (v := rv) (x_move rfl) ?_
      refine sv (v := wv) (x_move rfl) ?_
      refine S_list (T_callG (al := [rv, wv]) (pre := []) rfl rfl cb19 (evOfs R rv wv L M hL hM (hgr53_.1) (by omega) (fun x hx => (hgr53_.2 x hx).ok (hin x hx)) (fun x hx => ⟨hokW x (by rw [List.take_of_length_le (by omega)]; exact hx), (hgz52_.2 x hx).2⟩) (by rw [List.take_of_length_le (by omega)] at hnd; exact hnd)) H55_ ?_)
      rintro R139_ v140_ p145_ w142_ hs138_ ⟨_, rfl, rfl, he141_⟩ S144_ H143_
      have S146_ := Same.trans S56_ S144_
      refine sv (v := rv) (x_move rfl) ?_
      refine sv (v := wv) (x_move rfl) ?_
      refine S_list (T_callG (al := [rv, wv]) (pre := []) rfl rfl cb20 (evSpec R139_ rv wv L M (RS.mono hL hs138_) (RS.mono hM hs138_) (hgl_) (by omega)) H143_ ?_)
      rintro R148_ v149_ p154_ w151_ hs147_ ⟨_, rfl, rfl, he150_⟩ S153_ H152_
      have S155_ := Same.trans S146_ S153_
      have hz_R_R148_ := Sub.trans' hs138_ hs147_
      refine S_list (T_call (al := [v140_, v149_]) (pre := []) rfl rfl cb18 (lwEqE R148_ v140_ v149_ ((selR M L).map evOf) (specL M L) (RS.mono he141_ hs147_) he150_ (good_sel hgr53_.2) (by rw [List.length_map]; have h__ := sel_le M L; omega)) H152_ ?_)
      rintro v156_ p160_ w157_ ⟨rfl, rfl⟩ S159_ H158_
      have S161_ := Same.trans S155_ S159_
      refine sm (vB true) ?_
      refine S_yes (j := 7) (dj := 65) (b := true) rfl rfl rfl (T_call (al := []) (pre := []) rfl rfl cb16 (lwRoLive R148_) H158_ ?_)
      rintro v162_ p166_ w163_ ⟨rfl, rfl⟩ S165_ H164_
      have S167_ := Same.trans S161_ S165_
      refine S_list (T_pickT (v := (vB true)) rfl rfl ?_)
      refine sv (v := (vB true)) (x_assign rfl) ?_
      refine wn (hK137_ _ _ ?_)
      refine C_ret ?_
      refine R_any (v := (vB true)) (run_results1 rfl rfl) ?_
      have H168_ : Holds w163_ (ro R :: F) := Holds.ro_less H164_ hz_R_R148_
      exact ⟨_, _, rfl, ⟨rfl, rfl⟩, S167_, H168_⟩
end Go.Proofs.YtlnihndjepjagaaGreat
