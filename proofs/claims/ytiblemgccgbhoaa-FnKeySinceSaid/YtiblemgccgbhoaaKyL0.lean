/- Two keys' indices, by the package. -/
import Derived.Test.YtiblemgccgbhoaaKyK0
set_option linter.unusedVariables false
set_option linter.unusedSimpArgs false
namespace Go.Proofs.Ytiblemgccgbhoaa
open Go Go.RowKit Gw

set_option maxHeartbeats 400000 in
theorem kBytesEq (R : HP) (v1 v2 : Value) (A : List Int) (h1 : RS R 1 v1 (List.length A) (bytesV A)) (h2 : RS R 1 v2 (List.length A) (bytesV A)) :
    Tri Try.prog 66 #[v1, v2] R [] (fun v__ post__ => v__ = (Value.bool true) ∧ post__ = []) := by
 refine Tri.into (n := 10) (al := [v1, v2]) Try.func66 rfl Try.ntmps66 rfl rfl fun w F H => ?_
 refine C_seq (fun K1_ hK1_ => ?_)
 refine C_reg ?_
 refine S_list (T_val (v := (Value.bool false)) (x_assign rfl) ?_)
 refine wpList_nil ?_
 refine (X_then (hK1_ _ _ ?_))
 clear hK1_
 refine C_seq (fun K2_ hK2_ => ?_)
 refine C_reg ?_
 refine S_list (T_val (v := v1) (x_move rfl) ?_)
 refine S_list (T_val (v := (Value.string (strN A))) (x_b2sRS rfl h1 (Holds.ro_at H 0 rfl) Try.underlying57 Try.underlying5 Try.underlying9) ?_)
 refine S_list (T_val (v := v2) (x_move rfl) ?_)
 refine S_list (T_val (v := (Value.string (strN A))) (x_b2sRS rfl h2 (Holds.ro_at H 0 rfl) Try.underlying57 Try.underlying5 Try.underlying9) ?_)
 refine S_list (T_val (v := (Value.bool ((strN A).toList == (strN A).toList))) (x_str rfl rfl rfl (by decide)) ?_)
 refine S_list (T_val (v := (Value.bool ((strN A).toList == (strN A).toList))) (x_assign rfl) ?_)
 refine wpList_nil ?_
 refine (X_then (hK2_ _ _ ?_))
 clear hK2_
 refine C_ret ?_
 refine R_any (v := (Value.bool ((strN A).toList == (strN A).toList))) (run_results1 rfl rfl) ?_
 exact ⟨_, _, rfl, ⟨(congrArg Value.bool ((by simp) : ((strN A).toList == (strN A).toList) = true)), rfl⟩, (Same.refl w), H⟩

set_option maxHeartbeats 2000000 in
theorem kKeyEqual (R : HP) (p1 p2 : Nat) (k1 k2 : Value) (A : List Int) (v1 v2 : Value) (N1 N2 : List GN) (ma na mb nb : Int) (hk1 : RS R 1 k1 (List.length A) (bytesV A)) (hk2 : RS R 1 k2 (List.length A) (bytesV A)) (h1 : RS R 4 v1 (List.length N1) (N1.flatMap GN.cells)) (h2 : RS R 4 v2 (List.length N2) (N2.flatMap GN.cells)) (hg1 : ∀ x ∈ N1, GOk R x) (hg2 : ∀ x ∈ N2, GOk R x) (hb1 : N1.length ≤ 100000) (hb2 : ∀ x ∈ N1, x.l.length ≤ 100000) :
    Tri Try.prog 51 #[(Value.pointer (some ⟨p1, 0, none⟩)), (Value.pointer (some ⟨p2, 0, none⟩))] R [cl p1 104 [k1, (Value.int .i64 ma), (Value.int .i64 na), v1], cl p2 104 [k2, (Value.int .i64 mb), (Value.int .i64 nb), v2]] (fun v__ post__ => (v__ = (Value.bool true) ∧ post__ = [cl p1 104 [k1, (Value.int .i64 ma), (Value.int .i64 na), v1], cl p2 104 [k2, (Value.int .i64 mb), (Value.int .i64 nb), v2]] ∧ ((ma = mb ∧ na = nb) ∧ N1.map GN.k = N2.map GN.k)) ∨ (v__ = (Value.bool false) ∧ post__ = [cl p1 104 [k1, (Value.int .i64 ma), (Value.int .i64 na), v1], cl p2 104 [k2, (Value.int .i64 mb), (Value.int .i64 nb), v2]] ∧ (¬ ((ma = mb ∧ na = nb) ∧ N1.map GN.k = N2.map GN.k)))) := by
 refine Tri.into (n := 65) (al := [(Value.pointer (some ⟨p1, 0, none⟩)), (Value.pointer (some ⟨p2, 0, none⟩))]) Try.func51 rfl Try.ntmps51 rfl rfl fun w F H => ?_
 refine C_seq (fun K1_ hK1_ => ?_)
 refine C_reg ?_
 refine S_list (T_val (v := (Value.bool false)) (x_assign rfl) ?_)
 refine wpList_nil ?_
 refine (X_then (hK1_ _ _ ?_))
 clear hK1_
 refine C_seq (fun K2_ hK2_ => ?_)
 refine C_seq (fun K3_ hK3_ => ?_)
 refine A_start (S := fun w => Rd p1 [k1, (Value.int .i64 ma), (Value.int .i64 na), v1] w ∧ Rd p2 [k2, (Value.int .i64 mb), (Value.int .i64 nb), v2] w ∧ Sub R (hp w)) (N := 10) foll rfl rfl ?_
 have H4_ := Holds.drew_ H
 have hq5_ := And.intro (Holds.rd H4_ 1 rfl) (And.intro (Holds.rd H4_ 2 rfl) ((Holds.ro_at H4_ 0 rfl)))
 refine A_tk 0 (v := (Value.pointer (some ⟨p1, 0, none⟩))) rfl (by kernel_rfl) (fun w hS => x_move rfl) hq5_ ?_
 refine A_tk 1 (v := (Value.pointer (some ⟨p1, 0, none⟩))) rfl (by kernel_rfl) (fun w hS => by kernel_rfl) hq5_ ?_
 refine A_tk 2 (v := (Value.pointer (some ⟨p1, 0, none⟩))) rfl (by kernel_rfl) (fun w hS => by kernel_rfl) hq5_ ?_
 refine A_tk 3 (v := k1) rfl (by kernel_rfl) (fun w hS => x_load1 rfl Try.underlying57 rfl (hS.1 0 k1 rfl)) hq5_ ?_
 refine A_tk 4 (v := (Value.pointer (some ⟨p2, 0, none⟩))) rfl (by kernel_rfl) (fun w hS => x_move rfl) hq5_ ?_
 refine A_tk 5 (v := (Value.pointer (some ⟨p2, 0, none⟩))) rfl (by kernel_rfl) (fun w hS => by kernel_rfl) hq5_ ?_
 refine A_tk 6 (v := (Value.pointer (some ⟨p2, 0, none⟩))) rfl (by kernel_rfl) (fun w hS => by kernel_rfl) hq5_ ?_
 refine A_tk 7 (v := k2) rfl (by kernel_rfl) (fun w hS => x_load1 rfl Try.underlying57 rfl (hS.2.1 0 k2 rfl)) hq5_ ?_
 refine A_ready (i := 8) (rs := []) (by kernel_rfl) ?_
 refine AllR.cons ?_ AllR.nil
 refine A_op (ls' := #[true, true, true, true, true, true, true, true, true, false]) rfl (by kernel_rfl) (T_call (al := [k1, k2]) (pre := []) rfl rfl cb66 (kBytesEq R k1 k2 A hk1 hk2) H4_ ?_)
 rintro v6_ p10_ w7_ ⟨rfl, rfl⟩ S9_ H8_
 replace H8_ : Holds w7_ (ro R :: cl p1 104 [k1, (Value.int .i64 ma), (Value.int .i64 na), v1] :: cl p2 104 [k2, (Value.int .i64 mb), (Value.int .i64 nb), v2] :: F) := H8_
 have S11_ := Same.trans (Same.trans (Same.refl w) (Same.drew _)) S9_
 refine ⟨⟨Holds.rd H8_ 1 rfl, Holds.rd H8_ 2 rfl, (Holds.ro_at H8_ 0 rfl)⟩, ?_⟩
 have hq12_ := And.intro (Holds.rd H8_ 1 rfl) (And.intro (Holds.rd H8_ 2 rfl) ((Holds.ro_at H8_ 0 rfl)))
 refine A_tk 9 (v := (Value.bool false)) rfl (by kernel_rfl) (fun w hS => x_cast (x_not (b := true) rfl) rfl) hq12_ ?_
 refine A_done (by kernel_rfl) ?_
 refine (X_then (hK3_ _ _ ?_))
 clear hK3_
 refine C_condF rfl ?_
 refine C_skip (X_then (hK2_ _ _ ?_))
 clear hK2_
 refine C_seq (fun K13_ hK13_ => ?_)
 refine C_seq (fun K14_ hK14_ => ?_)
 refine A_start (S := fun w => Rd p1 [k1, (Value.int .i64 ma), (Value.int .i64 na), v1] w ∧ Rd p2 [k2, (Value.int .i64 mb), (Value.int .i64 nb), v2] w ∧ Sub R (hp w)) (N := 9) foll rfl rfl ?_
 have H15_ := Holds.drew_ H8_
 have hq16_ := And.intro (Holds.rd H15_ 1 rfl) (And.intro (Holds.rd H15_ 2 rfl) ((Holds.ro_at H15_ 0 rfl)))
 refine A_tk 0 (v := (Value.pointer (some ⟨p1, 0, none⟩))) rfl (by kernel_rfl) (fun w hS => x_move rfl) hq16_ ?_
 refine A_tk 1 (v := (Value.pointer (some ⟨p1, 0, none⟩))) rfl (by kernel_rfl) (fun w hS => by kernel_rfl) hq16_ ?_
 refine A_tk 2 (v := (Value.pointer (some ⟨p1, 1, none⟩))) rfl (by kernel_rfl) (fun w hS => by kernel_rfl) hq16_ ?_
 refine A_tk 3 (v := (Value.agg #[(Value.int .i64 ma), (Value.int .i64 na)])) rfl (by kernel_rfl) (fun w hS => x_loadN (vs := [(Value.int .i64 ma), (Value.int .i64 na)]) rfl Try.underlying58 rfl z58 rfl (Rd.cells hS.1 1 rfl)) hq16_ ?_
 refine A_tk 4 (v := (Value.pointer (some ⟨p2, 0, none⟩))) rfl (by kernel_rfl) (fun w hS => x_move rfl) hq16_ ?_
 refine A_tk 5 (v := (Value.pointer (some ⟨p2, 0, none⟩))) rfl (by kernel_rfl) (fun w hS => by kernel_rfl) hq16_ ?_
 refine A_tk 6 (v := (Value.pointer (some ⟨p2, 1, none⟩))) rfl (by kernel_rfl) (fun w hS => by kernel_rfl) hq16_ ?_
 refine A_tk 7 (v := (Value.agg #[(Value.int .i64 mb), (Value.int .i64 nb)])) rfl (by kernel_rfl) (fun w hS => x_loadN (vs := [(Value.int .i64 mb), (Value.int .i64 nb)]) rfl Try.underlying58 rfl z58 rfl (Rd.cells hS.2.1 1 rfl)) hq16_ ?_
 refine A_tk 8 (v := (Value.bool (!((decide (ma = mb)) && ((decide (na = nb)) && (true)))))) rfl (by kernel_rfl) (fun w hS => x_neqS rfl rfl (by kernel_rfl) (eq_struct Try.underlying58 (by kernel_rfl) (eqf_cons rfl (run_part1 Try.underlying2 rfl rfl) (run_part1 Try.underlying2 rfl rfl) (eq_int Try.underlying2) (eqf_cons rfl (run_part1 Try.underlying2 rfl rfl) (run_part1 Try.underlying2 rfl rfl) (eq_int Try.underlying2) (eqf_nil))))) hq16_ ?_
 refine A_done (by kernel_rfl) ?_
 refine (X_then (hK14_ _ _ ?_))
 clear hK14_
 refine C_cond (b := !((decide (ma = mb)) && ((decide (na = nb)) && (true)))) rfl (fun c17_t => ?_) (fun c17_f => ?_)
 ·skip
  refine C_seq (fun K18_ hK18_ => ?_)
  refine C_reg ?_
  refine S_list (T_val (v := (Value.bool false)) (x_assign rfl) ?_)
  refine wpList_nil ?_
  refine (X_then (hK18_ _ _ ?_))
  clear hK18_
  refine C_ret (X_thenR ?_)
  refine R_any (v := (Value.bool false)) (run_results1 rfl rfl) ?_
  exact ⟨_, _, rfl, (.inr ⟨rfl, rfl, (fun e_ => by first | (simp_all; done) | exact map_nel (by first | (simp_all; done) | (simp_all; omega)) e_.2)⟩), (Same.trans S11_ (Same.drew _)), H15_⟩
 ·skip
  refine C_skip (X_then (hK13_ _ _ ?_))
  clear hK13_
  refine C_seq (fun K19_ hK19_ => ?_)
  refine C_seq (fun K20_ hK20_ => ?_)
  refine A_start (S := fun w => Rd p1 [k1, (Value.int .i64 ma), (Value.int .i64 na), v1] w ∧ Rd p2 [k2, (Value.int .i64 mb), (Value.int .i64 nb), v2] w ∧ Sub R (hp w)) (N := 11) foll rfl rfl ?_
  have H21_ := Holds.drew_ H15_
  have hq22_ := And.intro (Holds.rd H21_ 1 rfl) (And.intro (Holds.rd H21_ 2 rfl) ((Holds.ro_at H21_ 0 rfl)))
  refine A_tk 0 (v := (Value.pointer (some ⟨p1, 0, none⟩))) rfl (by kernel_rfl) (fun w hS => x_move rfl) hq22_ ?_
  refine A_tk 1 (v := (Value.pointer (some ⟨p1, 0, none⟩))) rfl (by kernel_rfl) (fun w hS => by kernel_rfl) hq22_ ?_
  refine A_tk 2 (v := (Value.pointer (some ⟨p1, 3, none⟩))) rfl (by kernel_rfl) (fun w hS => by kernel_rfl) hq22_ ?_
  refine A_tk 3 (v := v1) rfl (by kernel_rfl) (fun w hS => x_load1 rfl Try.underlying102 rfl (hS.1 3 v1 rfl)) hq22_ ?_
  refine A_tk 4 (v := (Value.int .i64 ((List.length N1) : Int))) rfl (by kernel_rfl) (fun w hS => x_lenRS rfl h1 Try.underlying102) hq22_ ?_
  refine A_tk 5 (v := (Value.pointer (some ⟨p2, 0, none⟩))) rfl (by kernel_rfl) (fun w hS => x_move rfl) hq22_ ?_
  refine A_tk 6 (v := (Value.pointer (some ⟨p2, 0, none⟩))) rfl (by kernel_rfl) (fun w hS => by kernel_rfl) hq22_ ?_
  refine A_tk 7 (v := (Value.pointer (some ⟨p2, 3, none⟩))) rfl (by kernel_rfl) (fun w hS => by kernel_rfl) hq22_ ?_
  refine A_tk 8 (v := v2) rfl (by kernel_rfl) (fun w hS => x_load1 rfl Try.underlying102 rfl (hS.2.1 3 v2 rfl)) hq22_ ?_
  refine A_tk 9 (v := (Value.int .i64 ((List.length N2) : Int))) rfl (by kernel_rfl) (fun w hS => x_lenRS rfl h2 Try.underlying102) hq22_ ?_
  refine A_tk 10 (v := (Value.bool (decide (((List.length N1) : Int) ≠ ((List.length N2) : Int))))) rfl (by kernel_rfl) (fun w hS => x_bin rfl rfl rfl) hq22_ ?_
  refine A_done (by kernel_rfl) ?_
  refine (X_then (hK20_ _ _ ?_))
  clear hK20_
  refine C_cond (b := decide (((List.length N1) : Int) ≠ ((List.length N2) : Int))) rfl (fun c23_t => ?_) (fun c23_f => ?_)
  ·have c23_tp : ((List.length N1) : Int) ≠ ((List.length N2) : Int) := of_decide_eq_true c23_t
   refine C_seq (fun K24_ hK24_ => ?_)
   refine C_reg ?_
   refine S_list (T_val (v := (Value.bool false)) (x_assign rfl) ?_)
   refine wpList_nil ?_
   refine (X_then (hK24_ _ _ ?_))
   clear hK24_
   refine C_ret (X_thenR ?_)
   refine R_any (v := (Value.bool false)) (run_results1 rfl rfl) ?_
   exact ⟨_, _, rfl, (.inr ⟨rfl, rfl, (fun e_ => by first | (simp_all; done) | exact map_nel (by first | (simp_all; done) | (simp_all; omega)) e_.2)⟩), (Same.trans (Same.trans S11_ (Same.drew _)) (Same.drew _)), H21_⟩
  ·have c23_fp : ¬ (((List.length N1) : Int) ≠ ((List.length N2) : Int)) := of_decide_eq_false c23_f
   refine C_skip (X_then (hK19_ _ _ ?_))
   clear hK19_
   refine C_seq (fun K25_ hK25_ => ?_)
   refine C_seq (fun K26_ hK26_ => ?_)
   refine C_reg ?_
   refine S_list (T_val (v := (Value.pointer (some ⟨p1, 0, none⟩))) (x_move rfl) ?_)
   refine S_list (T_val (v := (Value.pointer (some ⟨p1, 0, none⟩))) (by kernel_rfl) ?_)
   refine S_list (T_val (v := (Value.pointer (some ⟨p1, 3, none⟩))) (by kernel_rfl) ?_)
   refine S_list (T_val (v := v1) (x_load1 rfl Try.underlying102 rfl ((Holds.rd H21_ 1 rfl) 3 v1 rfl)) ?_)
   refine S_list (T_val (v := (Value.int .i64 ((List.length N1) : Int))) (x_lenRS rfl h1 Try.underlying102) ?_)
   refine S_list (T_val (v := (Value.int .i64 0)) (x_move rfl) ?_)
   refine wpList_nil ?_
   refine (X_then (hK26_ _ _ ?_))
   clear hK26_
   refine C_block ?_
   refine C_loop (γ := Nat × Bool) (fun x__ a__ w1__ => match x__ with | ⟨k, t4_v⟩ => ∃ h : Env, a__ = mkA 65 (upd (upd (upd (upd (upd h 0 (Value.pointer (some ⟨p1, 0, none⟩))) 1 (Value.pointer (some ⟨p2, 0, none⟩))) 4 (Value.bool t4_v)) 42 (Value.int .i64 ((List.length N1) : Int))) 43 (Value.int .i64 (k : Int))) [] ∧ Holds w1__ (ro R :: cl p1 104 [k1, (Value.int .i64 ma), (Value.int .i64 na), v1] :: cl p2 104 [k2, (Value.int .i64 mb), (Value.int .i64 nb), v2] :: F) ∧ Same w w1__ ∧ (k ≤ N1.length) ∧ (N1.length = N2.length) ∧ (ma = mb ∧ na = nb) ∧ ((N1.take k).map GN.k = (N2.take k).map GN.k)) (fun x__ => match x__ with | ⟨k, t4_v⟩ => N1.length - k) (⟨0, false⟩) ⟨_, congrArg (fun e => mkA 65 e []) (ch (ch (ch (ch (ch rfl rfl) rfl) rfl) rfl) (congrArg (Value.int .i64) ((by first | rfl | omega | (simp; done) | (simp; omega)) : 0 = (0 : Int)))), H21_, (Same.trans (Same.trans S11_ (Same.drew _)) (Same.drew _)), (by first | assumption | omega | exact rfl), (by first | assumption | omega | exact rfl), (by first | assumption | (simp_all; done) | (simp_all; omega)), (rfl)⟩ ?_
   rintro ⟨k, t4_v⟩ _ w27_ ⟨h, rfl, H28_, S29_, hk, hln, hmm, hq⟩
   refine C_seq (fun K30_ hK30_ => ?_)
   refine C_reg ?_
   refine S_list (T_val (v := (Value.bool (decide ((k : Int) < ((List.length N1) : Int))))) (x_bin rfl rfl rfl) ?_)
   refine wpList_nil ?_
   refine (X_then (hK30_ _ _ ?_))
   clear hK30_
   refine C_seq (fun K31_ hK31_ => ?_)
   refine C_cond (b := decide ((k : Int) < ((List.length N1) : Int))) rfl (fun c32_t => ?_) (fun c32_f => ?_)
   ·have c32_tp : (k : Int) < ((List.length N1) : Int) := of_decide_eq_true c32_t
    refine C_skip (X_then (hK31_ _ _ ?_))
    clear hK31_
    refine C_seq (fun K33_ hK33_ => ?_)
    refine C_block ?_
    refine C_seq (fun K34_ hK34_ => ?_)
    refine C_reg ?_
    refine S_list (T_val (v := (Value.int .i64 (k : Int))) (x_move rfl) ?_)
    refine S_list (T_val (v := (Value.int .i64 (k : Int))) (x_assign rfl) ?_)
    refine wpList_nil ?_
    refine (X_then (hK34_ _ _ ?_))
    clear hK34_
    refine C_seq (fun K35_ hK35_ => ?_)
    refine A_start (S := fun w => Rd p1 [k1, (Value.int .i64 ma), (Value.int .i64 na), v1] w ∧ Rd p2 [k2, (Value.int .i64 mb), (Value.int .i64 nb), v2] w ∧ Sub R (hp w)) (N := 18) foll rfl rfl ?_
    have H36_ := Holds.drew_ H28_
    have hq37_ := And.intro (Holds.rd H36_ 1 rfl) (And.intro (Holds.rd H36_ 2 rfl) ((Holds.ro_at H36_ 0 rfl)))
    refine A_tk 0 (v := (Value.pointer (some ⟨p1, 0, none⟩))) rfl (by kernel_rfl) (fun w hS => x_move rfl) hq37_ ?_
    refine A_tk 1 (v := (Value.pointer (some ⟨p1, 0, none⟩))) rfl (by kernel_rfl) (fun w hS => by kernel_rfl) hq37_ ?_
    refine A_tk 2 (v := (Value.pointer (some ⟨p1, 3, none⟩))) rfl (by kernel_rfl) (fun w hS => by kernel_rfl) hq37_ ?_
    refine A_tk 3 (v := v1) rfl (by kernel_rfl) (fun w hS => x_load1 rfl Try.underlying102 rfl (hS.1 3 v1 rfl)) hq37_ ?_
    refine A_tk 4 (v := (Value.int .i64 (k : Int))) rfl (by kernel_rfl) (fun w hS => x_move rfl) hq37_ ?_
    obtain ⟨x38_, hx39_, hm40_⟩ := elem_at N1 k (by omega)
    have hp41_ := hg1 x38_ hm40_
    have hp42_ := hb2 x38_ hm40_
    have hg43_ := hg1 x38_ hm40_
    refine A_tk 5 (v := (Value.pointer (some ⟨(sb v1), so v1 + (k * 4 + 0), none⟩))) rfl (by kernel_rfl) (fun w hS => x_idxRS (v := v1) rfl h1 rfl Try.underlying102 z106 (by omega) (by omega) (by omega : _ = k) rfl) hq37_ ?_
    refine A_tk 6 (v := (Value.agg #[(Value.int .i64 x38_.ver), (Value.int .i64 x38_.created_Main), (Value.int .i64 x38_.created_Sub), x38_.revs])) rfl (by kernel_rfl) (fun w hS => x_loadN (vs := [(Value.int .i64 x38_.ver), (Value.int .i64 x38_.created_Main), (Value.int .i64 x38_.created_Sub), x38_.revs]) rfl Try.underlying106 rfl z106 rfl (RC.cells (RS.rc h1) hS.2.2 (k * 4 + 0) (fm_cells GN.len hx39_ (i := 0) rfl))) hq37_ ?_
    refine A_tk 7 (v := (Value.pointer (some ⟨p2, 0, none⟩))) rfl (by kernel_rfl) (fun w hS => x_move rfl) hq37_ ?_
    refine A_tk 8 (v := (Value.pointer (some ⟨p2, 0, none⟩))) rfl (by kernel_rfl) (fun w hS => by kernel_rfl) hq37_ ?_
    refine A_tk 9 (v := (Value.pointer (some ⟨p2, 3, none⟩))) rfl (by kernel_rfl) (fun w hS => by kernel_rfl) hq37_ ?_
    refine A_tk 10 (v := v2) rfl (by kernel_rfl) (fun w hS => x_load1 rfl Try.underlying102 rfl (hS.2.1 3 v2 rfl)) hq37_ ?_
    refine A_tk 11 (v := (Value.int .i64 (k : Int))) rfl (by kernel_rfl) (fun w hS => x_move rfl) hq37_ ?_
    obtain ⟨x44_, hx45_, hm46_⟩ := elem_at N2 k (by omega)
    have hp47_ := hg2 x44_ hm46_
    have hg48_ := hg2 x44_ hm46_
    refine A_tk 12 (v := (Value.pointer (some ⟨(sb v2), so v2 + (k * 4 + 0), none⟩))) rfl (by kernel_rfl) (fun w hS => x_idxRS (v := v2) rfl h2 rfl Try.underlying102 z106 (by omega) (by omega) (by omega : _ = k) rfl) hq37_ ?_
    refine A_tk 13 (v := (Value.agg #[(Value.int .i64 x44_.ver), (Value.int .i64 x44_.created_Main), (Value.int .i64 x44_.created_Sub), x44_.revs])) rfl (by kernel_rfl) (fun w hS => x_loadN (vs := [(Value.int .i64 x44_.ver), (Value.int .i64 x44_.created_Main), (Value.int .i64 x44_.created_Sub), x44_.revs]) rfl Try.underlying106 rfl z106 rfl (RC.cells (RS.rc h2) hS.2.2 (k * 4 + 0) (fm_cells GN.len hx45_ (i := 0) rfl))) hq37_ ?_
    refine A_ready (i := 14) (rs := [15]) (by kernel_rfl) ?_
    refine AllR.cons ?_ ?_
    ·skip
     refine A_op (ls' := #[true, true, true, true, true, true, true, true, true, true, true, true, true, true, true, false, false, false]) rfl (by kernel_rfl) (T_alloc z106 H36_ ?_)
     intro b49_ w50_ S52_ H51_
     have S53_ := Same.trans (Same.trans S29_ (Same.drew _)) S52_
     refine ⟨⟨Holds.rd H51_ 2 rfl, Holds.rd H51_ 3 rfl, (Holds.ro_at H51_ 1 rfl)⟩, ?_⟩
     refine A_ready (i := 15) (rs := []) (by kernel_rfl) ?_
     refine AllR.cons ?_ AllR.nil
     refine A_op (ls' := #[true, true, true, true, true, true, true, true, true, true, true, true, true, true, true, true, false, false]) rfl (by kernel_rfl) (T_alloc z106 H51_ ?_)
     intro b54_ w55_ S57_ H56_
     have S58_ := Same.trans S53_ S57_
     refine ⟨⟨Holds.rd H56_ 3 rfl, Holds.rd H56_ 4 rfl, (Holds.ro_at H56_ 2 rfl)⟩, ?_⟩
     refine A_ready (i := 16) (rs := []) (by kernel_rfl) ?_
     refine AllR.cons ?_ AllR.nil
     refine A_op0 (ls' := #[true, true, true, true, true, true, true, true, true, true, true, true, true, true, true, true, true, false]) rfl (by kernel_rfl) (T_storeN (vs := [(Value.int .i64 x38_.ver), (Value.int .i64 x38_.created_Main), (Value.int .i64 x38_.created_Sub), x38_.revs]) rfl rfl z106 rfl (List.forall_mem_cons.2 ⟨rfl, (List.forall_mem_cons.2 ⟨rfl, (List.forall_mem_cons.2 ⟨rfl, (List.forall_mem_cons.2 ⟨(RS.one hg43_), (fun _ h__ => by cases h__)⟩)⟩)⟩)⟩) H56_ 1 rfl (Nat.le_of_ble_eq_true (by rfl)) ?_)
     intro w59_ S61_ H60_
     replace H60_ : Holds w59_ (cl b54_ 106 [(Value.int .i64 0), (Value.int .i64 0), (Value.int .i64 0), (Value.slice none 0 0)] :: cl b49_ 106 [(Value.int .i64 x38_.ver), (Value.int .i64 x38_.created_Main), (Value.int .i64 x38_.created_Sub), x38_.revs] :: ro R :: cl p1 104 [k1, (Value.int .i64 ma), (Value.int .i64 na), v1] :: cl p2 104 [k2, (Value.int .i64 mb), (Value.int .i64 nb), v2] :: F) := H60_
     have S62_ := Same.trans S58_ S61_
     refine ⟨⟨Holds.rd H60_ 3 rfl, Holds.rd H60_ 4 rfl, (Holds.ro_at H60_ 2 rfl)⟩, ?_⟩
     refine A_ready (i := 17) (rs := []) (by kernel_rfl) ?_
     refine AllR.cons ?_ AllR.nil
     refine A_op0 (ls' := #[true, true, true, true, true, true, true, true, true, true, true, true, true, true, true, true, true, true]) rfl (by kernel_rfl) (T_storeN (vs := [(Value.int .i64 x44_.ver), (Value.int .i64 x44_.created_Main), (Value.int .i64 x44_.created_Sub), x44_.revs]) rfl rfl z106 rfl (List.forall_mem_cons.2 ⟨rfl, (List.forall_mem_cons.2 ⟨rfl, (List.forall_mem_cons.2 ⟨rfl, (List.forall_mem_cons.2 ⟨(RS.one hg48_), (fun _ h__ => by cases h__)⟩)⟩)⟩)⟩) H60_ 0 rfl (Nat.le_of_ble_eq_true (by rfl)) ?_)
     intro w63_ S65_ H64_
     have S66_ := Same.trans S62_ S65_
     refine ⟨⟨Holds.rd H64_ 3 rfl, Holds.rd H64_ 4 rfl, (Holds.ro_at H64_ 2 rfl)⟩, ?_⟩
     refine A_done (by kernel_rfl) ?_
     refine (X_then (hK35_ _ _ ?_))
     clear hK35_
     refine C_seq (fun K67_ hK67_ => ?_)
     refine C_reg ?_
     refine S_list (T_val (v := (Value.agg #[(Value.int .i64 x38_.ver), (Value.int .i64 x38_.created_Main), (Value.int .i64 x38_.created_Sub), x38_.revs])) (x_loadN (vs := [(Value.int .i64 x38_.ver), (Value.int .i64 x38_.created_Main), (Value.int .i64 x38_.created_Sub), x38_.revs]) rfl Try.underlying106 rfl z106 rfl (Rd.cells (Holds.rd H64_ 1 rfl) 0 rfl)) ?_)
     refine S_list (T_val (v := (Value.agg #[(Value.int .i64 x44_.ver), (Value.int .i64 x44_.created_Main), (Value.int .i64 x44_.created_Sub), x44_.revs])) (x_loadN (vs := [(Value.int .i64 x44_.ver), (Value.int .i64 x44_.created_Main), (Value.int .i64 x44_.created_Sub), x44_.revs]) rfl Try.underlying106 rfl z106 rfl (Rd.cells (Holds.rd H64_ 0 rfl) 0 rfl)) ?_)
     have H71_ := ((Holds.bring H64_ 2 rfl) :)
     refine S_list (T_call (al := [(Value.agg #[(Value.int .i64 x38_.ver), (Value.int .i64 x38_.created_Main), (Value.int .i64 x38_.created_Sub), x38_.revs]), (Value.agg #[(Value.int .i64 x44_.ver), (Value.int .i64 x44_.created_Main), (Value.int .i64 x44_.created_Sub), x44_.revs])]) (pre := []) rfl rfl cb67 (kGenEqual R x38_.revs x44_.revs x38_.l x44_.l x38_.ver x38_.created_Main x38_.created_Sub x44_.ver x44_.created_Main x44_.created_Sub hg43_ hg48_ (by first | assumption | omega)) H71_ ?_)
     rintro v68_ p75_ w72_ hq76_ S74_ H73_
     rcases hq76_ with ⟨rfl, rfl, he69_⟩ | ⟨rfl, rfl, he70_⟩
     ·skip
      replace H73_ : Holds w72_ (ro R :: cl b54_ 106 [(Value.int .i64 x44_.ver), (Value.int .i64 x44_.created_Main), (Value.int .i64 x44_.created_Sub), x44_.revs] :: cl b49_ 106 [(Value.int .i64 x38_.ver), (Value.int .i64 x38_.created_Main), (Value.int .i64 x38_.created_Sub), x38_.revs] :: cl p1 104 [k1, (Value.int .i64 ma), (Value.int .i64 na), v1] :: cl p2 104 [k2, (Value.int .i64 mb), (Value.int .i64 nb), v2] :: F) := H73_
      have S77_ := Same.trans S66_ S74_
      refine S_list (T_val (v := (Value.bool false)) (x_cast (x_not (b := true) rfl) rfl) ?_)
      refine wpList_nil ?_
      refine (X_then (hK67_ _ _ ?_))
      clear hK67_
      refine C_condF rfl ?_
      refine C_skip (X_blkN (X_then (hK33_ _ _ ?_)))
      clear hK33_
      refine C_reg ?_
      refine S_list (T_val (v := (Value.int .i64 ((k : Int) + 1))) (x_bin rfl rfl (ib_add (IntWalk.i64_in _ (by omega)))) ?_)
      refine S_list (T_val (v := (Value.int .i64 ((k : Int) + 1))) (x_move rfl) ?_)
      refine wpList_nil ?_
      refine (X_then ?_)
      have H79_ : Holds w72_ (ro R :: cl p1 104 [k1, (Value.int .i64 ma), (Value.int .i64 na), v1] :: cl p2 104 [k2, (Value.int .i64 mb), (Value.int .i64 nb), v2] :: F) := (Holds.pkF H73_ [0, 2, 2] 2 :)
      exact ⟨⟨k + 1, t4_v⟩, ⟨_, congrArg (fun e => mkA 65 e []) (ch (ch (ch (ch (ch rfl rfl) rfl) rfl) rfl) (congrArg (Value.int .i64) ((by first | rfl | omega | (simp; done) | (simp; omega)) : (k : Int) + 1 = ((k + 1 : Nat) : Int)))), H79_, S77_, (by first | assumption | omega | exact rfl), (by first | assumption | omega | exact rfl), (by first | assumption | omega | exact rfl), (map_snoc hq hx39_ hx45_ (gk_eq (by first | assumption | (simp_all; done) | (simp_all; omega)) (by first | assumption | (simp_all; done) | (simp_all; omega))))⟩, by first | omega | (dsimp only; omega) | (simp; omega)⟩
     ·skip
      have S78_ := Same.trans S66_ S74_
      refine S_list (T_val (v := (Value.bool true)) (x_cast (x_not (b := false) rfl) rfl) ?_)
      refine wpList_nil ?_
      refine (X_then (hK67_ _ _ ?_))
      clear hK67_
      refine C_condT rfl ?_
      refine C_seq (fun K80_ hK80_ => ?_)
      refine C_reg ?_
      refine S_list (T_val (v := (Value.bool false)) (x_assign rfl) ?_)
      refine wpList_nil ?_
      refine (X_then (hK80_ _ _ ?_))
      clear hK80_
      refine C_ret (X_blkR (X_thenR (X_thenR (X_blkR (X_thenR ?_)))))
      refine R_any (v := (Value.bool false)) (run_results1 rfl rfl) ?_
      have H81_ : Holds w72_ (ro R :: cl p1 104 [k1, (Value.int .i64 ma), (Value.int .i64 na), v1] :: cl p2 104 [k2, (Value.int .i64 mb), (Value.int .i64 nb), v2] :: F) := (Holds.pkF H73_ [0, 2, 2] 2 :)
      exact ⟨_, _, rfl, (.inr ⟨rfl, rfl, (fun e_ => map_ne hx39_ hx45_ (gk_ne (fun e1_ => by simp_all)) e_.2)⟩), S78_, H81_⟩
    refine AllR.cons ?_ AllR.nil
    refine A_op (ls' := #[true, true, true, true, true, true, true, true, true, true, true, true, true, true, false, true, false, false]) rfl (by kernel_rfl) (T_alloc z106 H36_ ?_)
    intro b82_ w83_ S85_ H84_
    have S86_ := Same.trans (Same.trans S29_ (Same.drew _)) S85_
    refine ⟨⟨Holds.rd H84_ 2 rfl, Holds.rd H84_ 3 rfl, (Holds.ro_at H84_ 1 rfl)⟩, ?_⟩
    refine A_ready (i := 14) (rs := []) (by kernel_rfl) ?_
    refine AllR.cons ?_ AllR.nil
    refine A_op (ls' := #[true, true, true, true, true, true, true, true, true, true, true, true, true, true, true, true, false, false]) rfl (by kernel_rfl) (T_alloc z106 H84_ ?_)
    intro b87_ w88_ S90_ H89_
    have S91_ := Same.trans S86_ S90_
    refine ⟨⟨Holds.rd H89_ 3 rfl, Holds.rd H89_ 4 rfl, (Holds.ro_at H89_ 2 rfl)⟩, ?_⟩
    refine A_ready (i := 16) (rs := []) (by kernel_rfl) ?_
    refine AllR.cons ?_ AllR.nil
    refine A_op0 (ls' := #[true, true, true, true, true, true, true, true, true, true, true, true, true, true, true, true, true, false]) rfl (by kernel_rfl) (T_storeN (vs := [(Value.int .i64 x38_.ver), (Value.int .i64 x38_.created_Main), (Value.int .i64 x38_.created_Sub), x38_.revs]) rfl rfl z106 rfl (List.forall_mem_cons.2 ⟨rfl, (List.forall_mem_cons.2 ⟨rfl, (List.forall_mem_cons.2 ⟨rfl, (List.forall_mem_cons.2 ⟨(RS.one hg43_), (fun _ h__ => by cases h__)⟩)⟩)⟩)⟩) H89_ 0 rfl (Nat.le_of_ble_eq_true (by rfl)) ?_)
    intro w92_ S94_ H93_
    replace H93_ : Holds w92_ (cl b87_ 106 [(Value.int .i64 x38_.ver), (Value.int .i64 x38_.created_Main), (Value.int .i64 x38_.created_Sub), x38_.revs] :: cl b82_ 106 [(Value.int .i64 0), (Value.int .i64 0), (Value.int .i64 0), (Value.slice none 0 0)] :: ro R :: cl p1 104 [k1, (Value.int .i64 ma), (Value.int .i64 na), v1] :: cl p2 104 [k2, (Value.int .i64 mb), (Value.int .i64 nb), v2] :: F) := H93_
    have S95_ := Same.trans S91_ S94_
    refine ⟨⟨Holds.rd H93_ 3 rfl, Holds.rd H93_ 4 rfl, (Holds.ro_at H93_ 2 rfl)⟩, ?_⟩
    refine A_ready (i := 17) (rs := []) (by kernel_rfl) ?_
    refine AllR.cons ?_ AllR.nil
    refine A_op0 (ls' := #[true, true, true, true, true, true, true, true, true, true, true, true, true, true, true, true, true, true]) rfl (by kernel_rfl) (T_storeN (vs := [(Value.int .i64 x44_.ver), (Value.int .i64 x44_.created_Main), (Value.int .i64 x44_.created_Sub), x44_.revs]) rfl rfl z106 rfl (List.forall_mem_cons.2 ⟨rfl, (List.forall_mem_cons.2 ⟨rfl, (List.forall_mem_cons.2 ⟨rfl, (List.forall_mem_cons.2 ⟨(RS.one hg48_), (fun _ h__ => by cases h__)⟩)⟩)⟩)⟩) H93_ 1 rfl (Nat.le_of_ble_eq_true (by rfl)) ?_)
    intro w96_ S98_ H97_
    have S99_ := Same.trans S95_ S98_
    refine ⟨⟨Holds.rd H97_ 3 rfl, Holds.rd H97_ 4 rfl, (Holds.ro_at H97_ 2 rfl)⟩, ?_⟩
    refine A_done (by kernel_rfl) ?_
    refine (X_then (hK35_ _ _ ?_))
    clear hK35_
    refine C_seq (fun K100_ hK100_ => ?_)
    refine C_reg ?_
    refine S_list (T_val (v := (Value.agg #[(Value.int .i64 x38_.ver), (Value.int .i64 x38_.created_Main), (Value.int .i64 x38_.created_Sub), x38_.revs])) (x_loadN (vs := [(Value.int .i64 x38_.ver), (Value.int .i64 x38_.created_Main), (Value.int .i64 x38_.created_Sub), x38_.revs]) rfl Try.underlying106 rfl z106 rfl (Rd.cells (Holds.rd H97_ 0 rfl) 0 rfl)) ?_)
    refine S_list (T_val (v := (Value.agg #[(Value.int .i64 x44_.ver), (Value.int .i64 x44_.created_Main), (Value.int .i64 x44_.created_Sub), x44_.revs])) (x_loadN (vs := [(Value.int .i64 x44_.ver), (Value.int .i64 x44_.created_Main), (Value.int .i64 x44_.created_Sub), x44_.revs]) rfl Try.underlying106 rfl z106 rfl (Rd.cells (Holds.rd H97_ 1 rfl) 0 rfl)) ?_)
    have H104_ := ((Holds.bring H97_ 2 rfl) :)
    refine S_list (T_call (al := [(Value.agg #[(Value.int .i64 x38_.ver), (Value.int .i64 x38_.created_Main), (Value.int .i64 x38_.created_Sub), x38_.revs]), (Value.agg #[(Value.int .i64 x44_.ver), (Value.int .i64 x44_.created_Main), (Value.int .i64 x44_.created_Sub), x44_.revs])]) (pre := []) rfl rfl cb67 (kGenEqual R x38_.revs x44_.revs x38_.l x44_.l x38_.ver x38_.created_Main x38_.created_Sub x44_.ver x44_.created_Main x44_.created_Sub hg43_ hg48_ (by first | assumption | omega)) H104_ ?_)
    rintro v101_ p108_ w105_ hq109_ S107_ H106_
    rcases hq109_ with ⟨rfl, rfl, he102_⟩ | ⟨rfl, rfl, he103_⟩
    ·skip
     replace H106_ : Holds w105_ (ro R :: cl b87_ 106 [(Value.int .i64 x38_.ver), (Value.int .i64 x38_.created_Main), (Value.int .i64 x38_.created_Sub), x38_.revs] :: cl b82_ 106 [(Value.int .i64 x44_.ver), (Value.int .i64 x44_.created_Main), (Value.int .i64 x44_.created_Sub), x44_.revs] :: cl p1 104 [k1, (Value.int .i64 ma), (Value.int .i64 na), v1] :: cl p2 104 [k2, (Value.int .i64 mb), (Value.int .i64 nb), v2] :: F) := H106_
     have S110_ := Same.trans S99_ S107_
     refine S_list (T_val (v := (Value.bool false)) (x_cast (x_not (b := true) rfl) rfl) ?_)
     refine wpList_nil ?_
     refine (X_then (hK100_ _ _ ?_))
     clear hK100_
     refine C_condF rfl ?_
     refine C_skip (X_blkN (X_then (hK33_ _ _ ?_)))
     clear hK33_
     refine C_reg ?_
     refine S_list (T_val (v := (Value.int .i64 ((k : Int) + 1))) (x_bin rfl rfl (ib_add (IntWalk.i64_in _ (by omega)))) ?_)
     refine S_list (T_val (v := (Value.int .i64 ((k : Int) + 1))) (x_move rfl) ?_)
     refine wpList_nil ?_
     refine (X_then ?_)
     have H112_ : Holds w105_ (ro R :: cl p1 104 [k1, (Value.int .i64 ma), (Value.int .i64 na), v1] :: cl p2 104 [k2, (Value.int .i64 mb), (Value.int .i64 nb), v2] :: F) := (Holds.pkF H106_ [0, 2, 2] 2 :)
     exact ⟨⟨k + 1, t4_v⟩, ⟨_, congrArg (fun e => mkA 65 e []) (ch (ch (ch (ch (ch rfl rfl) rfl) rfl) rfl) (congrArg (Value.int .i64) ((by first | rfl | omega | (simp; done) | (simp; omega)) : (k : Int) + 1 = ((k + 1 : Nat) : Int)))), H112_, S110_, (by first | assumption | omega | exact rfl), (by first | assumption | omega | exact rfl), (by first | assumption | omega | exact rfl), (map_snoc hq hx39_ hx45_ (gk_eq (by first | assumption | (simp_all; done) | (simp_all; omega)) (by first | assumption | (simp_all; done) | (simp_all; omega))))⟩, by first | omega | (dsimp only; omega) | (simp; omega)⟩
    ·skip
     have S111_ := Same.trans S99_ S107_
     refine S_list (T_val (v := (Value.bool true)) (x_cast (x_not (b := false) rfl) rfl) ?_)
     refine wpList_nil ?_
     refine (X_then (hK100_ _ _ ?_))
     clear hK100_
     refine C_condT rfl ?_
     refine C_seq (fun K113_ hK113_ => ?_)
     refine C_reg ?_
     refine S_list (T_val (v := (Value.bool false)) (x_assign rfl) ?_)
     refine wpList_nil ?_
     refine (X_then (hK113_ _ _ ?_))
     clear hK113_
     refine C_ret (X_blkR (X_thenR (X_thenR (X_blkR (X_thenR ?_)))))
     refine R_any (v := (Value.bool false)) (run_results1 rfl rfl) ?_
     have H114_ : Holds w105_ (ro R :: cl p1 104 [k1, (Value.int .i64 ma), (Value.int .i64 na), v1] :: cl p2 104 [k2, (Value.int .i64 mb), (Value.int .i64 nb), v2] :: F) := (Holds.pkF H106_ [0, 2, 2] 2 :)
     exact ⟨_, _, rfl, (.inr ⟨rfl, rfl, (fun e_ => map_ne hx39_ hx45_ (gk_ne (fun e1_ => by simp_all)) e_.2)⟩), S111_, H114_⟩
   ·have c32_fp : ¬ ((k : Int) < ((List.length N1) : Int)) := of_decide_eq_false c32_f
    refine C_exit (X_thenX (X_thenX (X_blkHit ?_)))
    refine (X_then (hK25_ _ _ ?_))
    clear hK25_
    refine C_seq (fun K115_ hK115_ => ?_)
    refine C_reg ?_
    refine S_list (T_val (v := (Value.bool true)) (x_assign rfl) ?_)
    refine wpList_nil ?_
    refine (X_then (hK115_ _ _ ?_))
    clear hK115_
    refine C_ret ?_
    refine R_any (v := (Value.bool true)) (run_results1 rfl rfl) ?_
    exact ⟨_, _, rfl, (.inl ⟨rfl, rfl, (⟨by first | assumption | (simp_all; done) | (simp_all; omega), map_all hq (by omega) (by omega)⟩)⟩), S29_, H28_⟩
end Go.Proofs.Ytiblemgccgbhoaa
