/- A put, by the package. -/
import Derived.Test.YtiblemgccgbhoaaKyN0
set_option linter.unusedVariables false
set_option linter.unusedSimpArgs false
namespace Go.Proofs.Ytiblemgccgbhoaa
open Go Go.RowKit Gw

theorem Tlk_nil {T : List GN} {lv : Value} {ll : List RV} (h : Tlk T lv ll) (h0 : T = []) : lv = .slice none 0 0 ∧ ll = [] := by
  rcases h with ⟨_, h⟩ | ⟨a, b, c, h⟩
  · exact h
  · rw [h0] at h; cases h
def iNew (G : List GM) : List GM := if G.length = 0 then [⟨0, 0, 0, []⟩] else G
def iAdd (g : GM) (m n : Int) : GM := ⟨g.ver + 1, if g.l.length = 0 then m else g.cm, if g.l.length = 0 then n else g.cs, g.l ++ [⟨m, n⟩]⟩
/-- A put. -/
def iPut (G : List GM) (m n : Int) : List GM := (iNew G).dropLast ++ [iAdd (gLast (iNew G)) m n]
theorem iPut_old {N : List GN} {a b c m n : Int} {lv lv' : Value} {ll : List RV} (h : ¬ (ll.length : Int) = 0) :
    (N ++ [(⟨a + 1, b, c, lv', ll ++ [⟨m, n⟩]⟩ : GN)]).map GN.m = iPut ((N ++ [(⟨a, b, c, lv, ll⟩ : GN)]).map GN.m) m n := by
  have h1 : ¬ ll.length = 0 := by omega
  have h2 : ¬ ll = [] := fun e => h1 (by rw [e]; rfl)
  simp [iPut, iNew, gLast, iAdd, GN.m, h2]
theorem iPut_first {N : List GN} {a b c m n : Int} {lv lv' : Value} {ll : List RV} (h : (ll.length : Int) = 0) :
    (N ++ [(⟨a + 1, m, n, lv', ll ++ [⟨m, n⟩]⟩ : GN)]).map GN.m = iPut ((N ++ [(⟨a, b, c, lv, ll⟩ : GN)]).map GN.m) m n := by
  have h1 : ll = [] := List.eq_nil_of_length_eq_zero (by omega)
  subst h1
  simp [iPut, iNew, gLast, iAdd, GN.m]
theorem iPut_nil {m n : Int} {lv' : Value} : ([] ++ [(⟨0 + 1, m, n, lv', [(⟨m, n⟩ : RV)]⟩ : GN)]).map GN.m = iPut (([] : List GN).map GN.m) m n := by
  simp [iPut, iNew, gLast, iAdd, GN.m]
theorem vLessB_gt {a b c d : Int} (h : vLessB a b c d = true) : a < c ∨ (a = c ∧ b < d) := of_decide_eq_true h
theorem gsetN {A : List GN} {x y : GN} {i : Nat} {vs : List Value} (h : (GN.cells x).take i ++ vs ++ (GN.cells x).drop (i + vs.length) = GN.cells y) :
    List.take (A.length * 4 + i) ((A ++ [x]).flatMap GN.cells) ++ vs ++ List.drop (A.length * 4 + i + vs.length) ((A ++ [x]).flatMap GN.cells) = (A ++ [y]).flatMap GN.cells := by
  have hl : (A.flatMap GN.cells).length = A.length * 4 := fm_len GN.len A
  rw [List.flatMap_append, List.flatMap_append, ← hl, List.take_append, List.drop_append, List.take_of_length_le (by omega), List.drop_eq_nil_of_le (by omega)]
  simp only [List.flatMap_cons, List.flatMap_nil, List.append_nil, Nat.add_sub_cancel_left, List.nil_append]
  rw [show (List.flatMap GN.cells A).length + i + vs.length - (List.flatMap GN.cells A).length = i + vs.length by omega, ← h]
  simp only [List.append_assoc]


set_option maxHeartbeats 400000 in
theorem kGreater (R : HP) (a b c d : Int) :
    Tri Try.prog 68 #[(Value.agg #[(Value.int .i64 a), (Value.int .i64 b)]), (Value.agg #[(Value.int .i64 c), (Value.int .i64 d)])] R [] (fun v__ post__ => v__ = (Value.bool (vLessB c d a b)) ∧ post__ = []) := by
 refine Tri.into (n := 20) (al := [(Value.agg #[(Value.int .i64 a), (Value.int .i64 b)]), (Value.agg #[(Value.int .i64 c), (Value.int .i64 d)])]) Try.func68 rfl Try.ntmps68 rfl rfl fun w F H => ?_
 refine C_seq (fun K1_ hK1_ => ?_)
 refine C_reg ?_
 refine S_list (T_box (v := (Value.agg #[(Value.int .i64 a), (Value.int .i64 b)])) rfl H ?_)
 intro b2_ w3_ S5_ H4_
 have S6_ := Same.trans (Same.refl w) S5_
 refine S_list (T_box (v := (Value.agg #[(Value.int .i64 c), (Value.int .i64 d)])) rfl H4_ ?_)
 intro b7_ w8_ S10_ H9_
 replace H9_ : Holds w8_ (cl b7_ 58 [(Value.int .i64 c), (Value.int .i64 d)] :: cl b2_ 58 [(Value.int .i64 a), (Value.int .i64 b)] :: ro R :: F) := H9_
 have S11_ := Same.trans S6_ S10_
 refine S_list (T_val (v := (Value.bool false)) (x_assign rfl) ?_)
 refine wpList_nil ?_
 refine (X_then (hK1_ _ _ ?_))
 clear hK1_
 refine C_seq (fun K12_ hK12_ => ?_)
 refine C_seq (fun K13_ hK13_ => ?_)
 refine C_reg ?_
 refine S_list (T_val (v := (Value.pointer (some ⟨b2_, 0, none⟩))) (by kernel_rfl) ?_)
 refine S_list (T_val (v := (Value.int .i64 a)) (x_load1 rfl Try.underlying2 rfl ((Holds.rd H9_ 1 rfl) 0 (Value.int .i64 a) rfl)) ?_)
 refine S_list (T_val (v := (Value.pointer (some ⟨b7_, 0, none⟩))) (by kernel_rfl) ?_)
 refine S_list (T_val (v := (Value.int .i64 c)) (x_load1 rfl Try.underlying2 rfl ((Holds.rd H9_ 0 rfl) 0 (Value.int .i64 c) rfl)) ?_)
 refine S_list (T_val (v := (Value.bool (decide (c < a)))) (x_bin rfl rfl rfl) ?_)
 refine wpList_nil ?_
 refine (X_then (hK13_ _ _ ?_))
 clear hK13_
 refine C_cond (b := decide (c < a)) rfl (fun c14_t => ?_) (fun c14_f => ?_)
 ·have c14_tp : c < a := of_decide_eq_true c14_t
  refine C_seq (fun K15_ hK15_ => ?_)
  refine C_reg ?_
  refine S_list (T_val (v := (Value.bool true)) (x_assign rfl) ?_)
  refine wpList_nil ?_
  refine (X_then (hK15_ _ _ ?_))
  clear hK15_
  refine C_ret (X_thenR ?_)
  refine R_any (v := (Value.bool true)) (run_results1 rfl rfl) ?_
  have H16_ : Holds w8_ (ro R :: F) := (Holds.pkF H9_ [2] 2 :)
  exact ⟨_, _, rfl, ⟨(congrArg Value.bool ((by unfold vLessB; exact (decide_eq_true (by first | (simp_all; done) | omega)).symm) : true = (vLessB c d a b))), rfl⟩, S11_, H16_⟩
 ·have c14_fp : ¬ (c < a) := of_decide_eq_false c14_f
  refine C_skip (X_then (hK12_ _ _ ?_))
  clear hK12_
  refine C_seq (fun K17_ hK17_ => ?_)
  refine C_seq (fun K18_ hK18_ => ?_)
  refine C_reg ?_
  refine S_list (T_val (v := (Value.pointer (some ⟨b2_, 0, none⟩))) (by kernel_rfl) ?_)
  refine S_list (T_val (v := (Value.int .i64 a)) (x_load1 rfl Try.underlying2 rfl ((Holds.rd H9_ 1 rfl) 0 (Value.int .i64 a) rfl)) ?_)
  refine S_list (T_val (v := (Value.pointer (some ⟨b7_, 0, none⟩))) (by kernel_rfl) ?_)
  refine S_list (T_val (v := (Value.int .i64 c)) (x_load1 rfl Try.underlying2 rfl ((Holds.rd H9_ 0 rfl) 0 (Value.int .i64 c) rfl)) ?_)
  refine S_list (T_val (v := (Value.bool (decide (a < c)))) (x_bin rfl rfl rfl) ?_)
  refine wpList_nil ?_
  refine (X_then (hK18_ _ _ ?_))
  clear hK18_
  refine C_cond (b := decide (a < c)) rfl (fun c19_t => ?_) (fun c19_f => ?_)
  ·have c19_tp : a < c := of_decide_eq_true c19_t
   refine C_seq (fun K20_ hK20_ => ?_)
   refine C_reg ?_
   refine S_list (T_val (v := (Value.bool false)) (x_assign rfl) ?_)
   refine wpList_nil ?_
   refine (X_then (hK20_ _ _ ?_))
   clear hK20_
   refine C_ret (X_thenR ?_)
   refine R_any (v := (Value.bool false)) (run_results1 rfl rfl) ?_
   have H21_ : Holds w8_ (ro R :: F) := (Holds.pkF H9_ [2] 2 :)
   exact ⟨_, _, rfl, ⟨(congrArg Value.bool ((by unfold vLessB; exact (decide_eq_false (by first | (simp_all; done) | omega)).symm) : false = (vLessB c d a b))), rfl⟩, S11_, H21_⟩
  ·have c19_fp : ¬ (a < c) := of_decide_eq_false c19_f
   refine C_skip (X_then (hK17_ _ _ ?_))
   clear hK17_
   refine C_seq (fun K22_ hK22_ => ?_)
   refine C_reg ?_
   refine S_list (T_val (v := (Value.pointer (some ⟨b2_, 1, none⟩))) (by kernel_rfl) ?_)
   refine S_list (T_val (v := (Value.int .i64 b)) (x_load1 rfl Try.underlying2 rfl ((Holds.rd H9_ 1 rfl) 1 (Value.int .i64 b) rfl)) ?_)
   refine S_list (T_val (v := (Value.pointer (some ⟨b7_, 1, none⟩))) (by kernel_rfl) ?_)
   refine S_list (T_val (v := (Value.int .i64 d)) (x_load1 rfl Try.underlying2 rfl ((Holds.rd H9_ 0 rfl) 1 (Value.int .i64 d) rfl)) ?_)
   refine S_list (T_val (v := (Value.bool (decide (d < b)))) (x_bin rfl rfl rfl) ?_)
   refine S_list (T_val (v := (Value.bool (decide (d < b)))) (x_assign rfl) ?_)
   refine wpList_nil ?_
   refine (X_then (hK22_ _ _ ?_))
   clear hK22_
   refine C_ret ?_
   refine R_any (v := (Value.bool (decide (d < b)))) (run_results1 rfl rfl) ?_
   have H23_ : Holds w8_ (ro R :: F) := (Holds.pkF H9_ [2] 2 :)
   exact ⟨_, _, rfl, ⟨(congrArg Value.bool ((by unfold vLessB; exact decide_eq_decide.2 (by first | (simp_all; done) | omega)) : (decide (d < b)) = (vLessB c d a b))), rfl⟩, S11_, H23_⟩

set_option maxHeartbeats 1000000 in
theorem kPut (R : HP) (kb : Nat) (ka : Option Addr) (kl kc : Nat) (m n : Int) (gv lv : Value) (N0 T : List GN) (ll : List RV) (m' n' : Int) (hT : Tlk T lv ll) (hTN : T = [] → N0 = []) (hbd : (N0 ++ T).length ≤ 100000 ∧ ll.length ≤ 100000) (hbv : ∀ x ∈ N0 ++ T, 0 ≤ x.ver ∧ x.ver ≤ 100000) (hgt : vLessB m n m' n' = true) :
    Tri Try.prog 54 #[(Value.pointer (some ⟨kb, 0, none⟩)), (Value.pointer none), (Value.int .i64 m'), (Value.int .i64 n')] R [cl kb 104 [(Value.slice ka kl kc), (Value.int .i64 m), (Value.int .i64 n), gv], sl 106 4 gv (List.length (N0 ++ T)) ((N0 ++ T).flatMap GN.cells), sl 58 2 lv (List.length ll) (ll.flatMap RV.cells)] (fun v__ post__ => ∃ (gv' lv' : Value) (T' : List GN) (ll' : List RV), v__ = (Value.tuple #[]) ∧ post__ = [cl kb 104 [(Value.slice ka kl kc), (Value.int .i64 m'), (Value.int .i64 n'), gv'], sl 106 4 gv' (List.length (N0 ++ T')) ((N0 ++ T').flatMap GN.cells), sl 58 2 lv' (List.length ll') (ll'.flatMap RV.cells)] ∧ ((N0 ++ T').map GN.m = iPut ((N0 ++ T).map GN.m) m' n') ∧ (Tlk T' lv' ll') ∧ (T' ≠ [])) := by
 refine Tri.into (n := 79) (al := [(Value.pointer (some ⟨kb, 0, none⟩)), (Value.pointer none), (Value.int .i64 m'), (Value.int .i64 n')]) Try.func54 rfl Try.ntmps54 rfl rfl fun w F H => ?_
 refine C_seq (fun K1_ hK1_ => ?_)
 refine C_reg ?_
 refine S_list (T_val (v := (Value.int .i64 m')) (x_move rfl) ?_)
 refine S_list (T_val (v := (Value.int .i64 n')) (x_move rfl) ?_)
 refine S_list (T_val (v := (Value.agg #[(Value.int .i64 m'), (Value.int .i64 n')])) (by kernel_rfl) ?_)
 refine S_list (T_alloc z58 H ?_)
 intro b2_ w3_ S5_ H4_
 have S6_ := Same.trans (Same.refl w) S5_
 refine S_list0 (T_storeN (vs := [(Value.int .i64 m'), (Value.int .i64 n')]) rfl rfl z58 rfl (by simp [Value.oneCell']) H4_ 0 rfl (Nat.le_of_ble_eq_true (by rfl)) ?_)
 intro w7_ S9_ H8_
 replace H8_ : Holds w7_ (cl b2_ 58 [(Value.int .i64 m'), (Value.int .i64 n')] :: ro R :: cl kb 104 [(Value.slice ka kl kc), (Value.int .i64 m), (Value.int .i64 n), gv] :: sl 106 4 gv (List.length (N0 ++ T)) ((N0 ++ T).flatMap GN.cells) :: sl 58 2 lv (List.length ll) (ll.flatMap RV.cells) :: F) := H8_
 have S10_ := Same.trans S6_ S9_
 refine wpList_nil ?_
 refine (X_then (hK1_ _ _ ?_))
 clear hK1_
 refine C_seq (fun K11_ hK11_ => ?_)
 refine C_seq (fun K12_ hK12_ => ?_)
 refine A_start (S := fun w => Rd b2_ [(Value.int .i64 m'), (Value.int .i64 n')] w ∧ Rd kb [(Value.slice ka kl kc), (Value.int .i64 m), (Value.int .i64 n), gv] w ∧ SlRd gv ((N0 ++ T).flatMap GN.cells) w ∧ SlRd lv (ll.flatMap RV.cells) w ∧ Sub R (hp w)) (N := 7) foll rfl rfl ?_
 have H13_ := Holds.drew_ H8_
 have hq14_ := And.intro (Holds.rd H13_ 0 rfl) (And.intro (Holds.rd H13_ 2 rfl) (And.intro (Holds.slrd H13_ 3 rfl) (And.intro (Holds.slrd H13_ 4 rfl) ((Holds.ro_at H13_ 1 rfl)))))
 refine A_tk 0 (v := (Value.agg #[(Value.int .i64 m'), (Value.int .i64 n')])) rfl (by kernel_rfl) (fun w hS => x_loadN (vs := [(Value.int .i64 m'), (Value.int .i64 n')]) rfl Try.underlying58 rfl z58 rfl (Rd.cells hS.1 0 rfl)) hq14_ ?_
 refine A_tk 1 (v := (Value.pointer (some ⟨kb, 0, none⟩))) rfl (by kernel_rfl) (fun w hS => x_move rfl) hq14_ ?_
 refine A_tk 2 (v := (Value.pointer (some ⟨kb, 0, none⟩))) rfl (by kernel_rfl) (fun w hS => by kernel_rfl) hq14_ ?_
 refine A_tk 3 (v := (Value.pointer (some ⟨kb, 1, none⟩))) rfl (by kernel_rfl) (fun w hS => by kernel_rfl) hq14_ ?_
 refine A_tk 4 (v := (Value.agg #[(Value.int .i64 m), (Value.int .i64 n)])) rfl (by kernel_rfl) (fun w hS => x_loadN (vs := [(Value.int .i64 m), (Value.int .i64 n)]) rfl Try.underlying58 rfl z58 rfl (Rd.cells hS.2.1 1 rfl)) hq14_ ?_
 refine A_ready (i := 5) (rs := []) (by kernel_rfl) ?_
 refine AllR.cons ?_ AllR.nil
 have H16_ := ((Holds.bring H13_ 1 rfl) :)
 refine A_op (ls' := #[true, true, true, true, true, true, false]) rfl (by kernel_rfl) (T_call (al := [(Value.agg #[(Value.int .i64 m'), (Value.int .i64 n')]), (Value.agg #[(Value.int .i64 m), (Value.int .i64 n)])]) (pre := []) rfl rfl cb68 (kGreater R m' n' m n) H16_ ?_)
 rintro v15_ p20_ w17_ ⟨rfl, rfl⟩ S19_ H18_
 have S21_ := Same.trans (Same.trans S10_ (Same.drew _)) S19_
 refine ⟨⟨Holds.rd H18_ 1 rfl, Holds.rd H18_ 2 rfl, Holds.slrd H18_ 3 rfl, Holds.slrd H18_ 4 rfl, (Holds.ro_at H18_ 0 rfl)⟩, ?_⟩
 have hq22_ := And.intro (Holds.rd H18_ 1 rfl) (And.intro (Holds.rd H18_ 2 rfl) (And.intro (Holds.slrd H18_ 3 rfl) (And.intro (Holds.slrd H18_ 4 rfl) ((Holds.ro_at H18_ 0 rfl)))))
 refine A_tk 6 (v := (Value.bool (!(vLessB m n m' n')))) rfl (by kernel_rfl) (fun w hS => x_not rfl) hq22_ ?_
 refine A_done (by kernel_rfl) ?_
 refine (X_then (hK12_ _ _ ?_))
 clear hK12_
 refine C_cond (b := !(vLessB m n m' n')) rfl (fun c23_t => ?_) (fun c23_f => ?_)
 ·skip
  rw [hgt] at c23_t; cases c23_t
 ·skip
  refine C_skip (X_then (hK11_ _ _ ?_))
  clear hK11_
  refine C_seq (fun K24_ hK24_ => ?_)
  refine C_seq (fun K25_ hK25_ => ?_)
  refine C_reg ?_
  refine S_list (T_val (v := (Value.pointer (some ⟨kb, 0, none⟩))) (x_move rfl) ?_)
  refine S_list (T_val (v := (Value.pointer (some ⟨kb, 0, none⟩))) (by kernel_rfl) ?_)
  refine S_list (T_val (v := (Value.pointer (some ⟨kb, 3, none⟩))) (by kernel_rfl) ?_)
  refine S_list (T_val (v := gv) (x_load1 rfl Try.underlying102 rfl ((Holds.rd H18_ 2 rfl) 3 gv rfl)) ?_)
  refine S_list (T_val (v := (Value.int .i64 ((List.length (N0 ++ T)) : Int))) (x_lenSl rfl H18_ 3 rfl Try.underlying102) ?_)
  refine S_list (T_val (v := (Value.bool (decide (((List.length (N0 ++ T)) : Int) = 0)))) (x_bin rfl rfl rfl) ?_)
  refine wpList_nil ?_
  refine (X_then (hK25_ _ _ ?_))
  clear hK25_
  refine C_cond (b := decide (((List.length (N0 ++ T)) : Int) = 0)) rfl (fun c26_t => ?_) (fun c26_f => ?_)
  ·have c26_tp : ((List.length (N0 ++ T)) : Int) = 0 := of_decide_eq_true c26_t
   refine C_reg ?_
   obtain ⟨hN0_, hT0_⟩ := List.append_eq_nil_iff.1 (List.eq_nil_of_length_eq_zero (show (N0 ++ T).length = 0 by omega))
   obtain ⟨hlv_, hll_⟩ := Tlk_nil hT hT0_
   subst hlv_ hll_
   refine S_list (T_val (v := (Value.pointer (some ⟨kb, 0, none⟩))) (x_move rfl) ?_)
   refine S_list (T_val (v := (Value.pointer (some ⟨kb, 0, none⟩))) (x_move rfl) ?_)
   refine S_list (T_val (v := (Value.pointer (some ⟨kb, 0, none⟩))) (by kernel_rfl) ?_)
   refine S_list (T_val (v := (Value.pointer (some ⟨kb, 3, none⟩))) (by kernel_rfl) ?_)
   refine S_list (T_val (v := gv) (x_load1 rfl Try.underlying102 rfl ((Holds.rd H18_ 2 rfl) 3 gv rfl)) ?_)
   refine S_list (T_val (v := (Value.agg #[(Value.int .i64 0), (Value.int .i64 0), (Value.int .i64 0), (Value.slice none 0 0)])) (by kernel_rfl) ?_)
   refine S_list (T_new (obj := .cells #[(Value.int .i64 0), (Value.int .i64 0), (Value.int .i64 0), (Value.slice none 0 0)] 106) (f := fun b__ => .slice (some ⟨b__, 0, none⟩) 1 1) (A := fun b__ => cl b__ 106 [(Value.int .i64 0), (Value.int .i64 0), (Value.int .i64 0), (Value.slice none 0 0)]) (by kernel_rfl) (fun l h => h.alloc _ _) H18_ ?_)
   intro b27_ w28_ S30_ H29_
   replace H29_ : Holds w28_ (cl b27_ 106 [(Value.int .i64 0), (Value.int .i64 0), (Value.int .i64 0), (Value.slice none 0 0)] :: ro R :: cl b2_ 58 [(Value.int .i64 m'), (Value.int .i64 n')] :: cl kb 104 [(Value.slice ka kl kc), (Value.int .i64 m), (Value.int .i64 n), gv] :: sl 106 4 gv (List.length (N0 ++ T)) ((N0 ++ T).flatMap GN.cells) :: sl 58 2 (Value.slice none 0 0) (List.length ([] : List RV)) (([] : List RV).flatMap RV.cells) :: F) := H29_
   have S31_ := Same.trans S21_ S30_
   refine S_list (T_append rfl rfl Try.underlying102 z106 rfl (by decide) H29_ 4 rfl (Holds.cl_src H29_ 0 rfl Try.underlying102 (by simp [Value.oneCell']) rfl) (by first | omega | (simp only [List.length_append, List.length_cons, List.length_nil]; omega)) ?_)
   intro v32_ w33_ S35_ H34_
   have S36_ := Same.trans S31_ S35_
   refine S_list (T_val (v := (Value.pointer (some ⟨kb, 0, none⟩))) (by kernel_rfl) ?_)
   refine S_list (T_val (v := (Value.pointer (some ⟨kb, 3, none⟩))) (by kernel_rfl) ?_)
   refine S_list0 (T_store1 (v := v32_) rfl rfl z102 (Holds.sl_one H34_ 4 rfl) H34_ 3 rfl (Nat.le_of_ble_eq_true (by rfl)) ?_)
   intro w37_ S39_ H38_
   have S40_ := Same.trans S36_ S39_
   refine wpList_nil ?_
   refine (X_then (hK24_ _ _ ?_))
   clear hK24_
   refine C_seq (fun K41_ hK41_ => ?_)
   refine A_start (S := fun w => Rd kb [(Value.slice ka kl kc), (Value.int .i64 m), (Value.int .i64 n), v32_] w ∧ SlRd (Value.slice none 0 0) (([] : List RV).flatMap RV.cells) w ∧ Sub R (hp w)) (N := 12) foll rfl rfl ?_
   have H42_ := Holds.drew_ H38_
   have H43_ := Holds.resl H42_ 4 rfl (by rw [hT0_]; simp [GN.cells] : ((N0 ++ T).flatMap GN.cells) ++ [(Value.int .i64 0), (Value.int .i64 0), (Value.int .i64 0), (Value.slice none 0 0)] = (N0 ++ [(⟨0, 0, 0, (Value.slice none 0 0), ([] : List RV)⟩ : GN)]).flatMap GN.cells) (by rw [hT0_]; simp : (List.length (N0 ++ T)) + 1 = (List.length N0 + 1))
   have hn0_ : N0.length = 0 := by rw [hN0_]; rfl
   have hq44_ := And.intro (Holds.rd H43_ 3 rfl) (And.intro (Holds.slrd H43_ 5 rfl) ((Holds.ro_at H43_ 1 rfl)))
   refine A_tk 0 (v := (Value.pointer (some ⟨kb, 0, none⟩))) rfl (by kernel_rfl) (fun w hS => x_move rfl) hq44_ ?_
   refine A_tk 1 (v := (Value.pointer (some ⟨kb, 0, none⟩))) rfl (by kernel_rfl) (fun w hS => by kernel_rfl) hq44_ ?_
   refine A_tk 2 (v := (Value.pointer (some ⟨kb, 3, none⟩))) rfl (by kernel_rfl) (fun w hS => by kernel_rfl) hq44_ ?_
   refine A_tk 3 (v := v32_) rfl (by kernel_rfl) (fun w hS => x_load1 rfl Try.underlying102 rfl (hS.1 3 v32_ rfl)) hq44_ ?_
   refine A_tk 4 (v := (Value.pointer (some ⟨kb, 0, none⟩))) rfl (by kernel_rfl) (fun w hS => x_move rfl) hq44_ ?_
   refine A_tk 5 (v := (Value.pointer (some ⟨kb, 0, none⟩))) rfl (by kernel_rfl) (fun w hS => by kernel_rfl) hq44_ ?_
   refine A_tk 6 (v := (Value.pointer (some ⟨kb, 3, none⟩))) rfl (by kernel_rfl) (fun w hS => by kernel_rfl) hq44_ ?_
   refine A_tk 7 (v := v32_) rfl (by kernel_rfl) (fun w hS => x_load1 rfl Try.underlying102 rfl (hS.1 3 v32_ rfl)) hq44_ ?_
   refine A_ready (i := 8) (rs := []) (by kernel_rfl) ?_
   refine AllR.cons ?_ AllR.nil
   refine A_op (ls' := #[true, true, true, true, true, true, true, true, true, false, false, false]) rfl (by kernel_rfl) (T_val (v := (Value.int .i64 ((List.length N0 + 1) : Int))) (x_lenSl rfl H43_ 4 rfl Try.underlying102) ?_)
   refine ⟨⟨Holds.rd H43_ 3 rfl, Holds.slrd H43_ 5 rfl, (Holds.ro_at H43_ 1 rfl)⟩, ?_⟩
   refine A_tk 9 (v := (Value.int .i64 (((List.length N0 + 1) : Int) - 1))) rfl (by kernel_rfl) (fun w hS => x_bin rfl rfl (ib_sub (IntWalk.i64_in _ (by omega)))) hq44_ ?_
   have hr45_ := Holds.sl_RSw H43_ 4 rfl
   refine A_tk 10 (v := (Value.pointer (some ⟨(sb v32_), so v32_ + ((List.length N0) * 4 + 0), none⟩))) rfl (by kernel_rfl) (fun w hS => x_idxSlR (v := v32_) rfl hr45_ rfl Try.underlying102 z106 (by omega) (by omega) (by omega : _ = List.length N0) rfl) hq44_ ?_
   refine A_tk 11 (v := (Value.pointer (some ⟨(sb v32_), so v32_ + ((List.length N0) * 4 + 0), none⟩))) rfl (by kernel_rfl) (fun w hS => x_assign rfl) hq44_ ?_
   refine A_done (by kernel_rfl) ?_
   refine (X_then (hK41_ _ _ ?_))
   clear hK41_
   refine C_seq (fun K46_ hK46_ => ?_)
   refine C_seq (fun K47_ hK47_ => ?_)
   refine C_reg ?_
   refine S_list (T_val (v := (Value.pointer (some ⟨(sb v32_), so v32_ + ((List.length N0) * 4 + 0), none⟩))) (x_move rfl) ?_)
   refine S_list (T_val (v := (Value.pointer (some ⟨(sb v32_), so v32_ + ((List.length N0) * 4 + 0), none⟩))) (by kernel_rfl) ?_)
   refine S_list (T_val (v := (Value.pointer (some ⟨(sb v32_), so v32_ + ((List.length N0) * 4 + 3), none⟩))) (by kernel_rfl) ?_)
   refine S_list (T_val (v := ((Value.slice none 0 0))) (x_load1 rfl Try.underlying80 rfl ((Holds.slrd H43_ 4 rfl) _ _ (fm_cell GN.len (gat _ _) (i := 3) rfl))) ?_)
   refine S_list (T_val (v := (Value.int .i64 ((List.length ([] : List RV)) : Int))) (x_lenSl rfl H43_ 5 rfl Try.underlying80) ?_)
   refine S_list (T_val (v := (Value.bool (decide (((List.length ([] : List RV)) : Int) = 0)))) (x_bin rfl rfl rfl) ?_)
   refine wpList_nil ?_
   refine (X_then (hK47_ _ _ ?_))
   clear hK47_
   refine C_cond (b := decide (((List.length ([] : List RV)) : Int) = 0)) rfl (fun c48_t => ?_) (fun c48_f => ?_)
   ·have c48_tp : ((List.length ([] : List RV)) : Int) = 0 := of_decide_eq_true c48_t
    refine C_reg ?_
    refine S_list (T_val (v := (Value.pointer (some ⟨(sb v32_), so v32_ + ((List.length N0) * 4 + 0), none⟩))) (x_move rfl) ?_)
    refine S_list (T_val (v := (Value.agg #[(Value.int .i64 m'), (Value.int .i64 n')])) (x_loadN (vs := [(Value.int .i64 m'), (Value.int .i64 n')]) rfl Try.underlying58 rfl z58 rfl (Rd.cells (Holds.rd H43_ 2 rfl) 0 rfl)) ?_)
    refine S_list (T_val (v := (Value.pointer (some ⟨(sb v32_), so v32_ + ((List.length N0) * 4 + 0), none⟩))) (by kernel_rfl) ?_)
    refine S_list (T_val (v := (Value.pointer (some ⟨(sb v32_), so v32_ + ((List.length N0) * 4 + 1), none⟩))) (by kernel_rfl) ?_)
    refine S_list0 (T_storeSlN (vs := [(Value.int .i64 m'), (Value.int .i64 n')]) (k := (List.length N0) * 4 + 1) rfl rfl z58 rfl (by simp [Value.oneCell']) H43_ 4 rfl (by first | omega | (rw [fm_len GN.len]; simp only [List.length_append, List.length_cons, List.length_nil]; omega)) (Nat.zero_lt_succ _) rfl rfl ?_)
    intro w49_ S51_ H50_
    replace H50_ : Holds w49_ (cl b27_ 106 [(Value.int .i64 0), (Value.int .i64 0), (Value.int .i64 0), (Value.slice none 0 0)] :: ro R :: cl b2_ 58 [(Value.int .i64 m'), (Value.int .i64 n')] :: cl kb 104 [(Value.slice ka kl kc), (Value.int .i64 m), (Value.int .i64 n), v32_] :: sl 106 4 v32_ (List.length N0 + 1) (List.take ((List.length N0) * 4 + 1) ((N0 ++ [(⟨0, 0, 0, (Value.slice none 0 0), ([] : List RV)⟩ : GN)]).flatMap GN.cells) ++ [(Value.int .i64 m'), (Value.int .i64 n')] ++ List.drop ((List.length N0) * 4 + 1 + List.length [(Value.int .i64 m'), (Value.int .i64 n')]) ((N0 ++ [(⟨0, 0, 0, (Value.slice none 0 0), ([] : List RV)⟩ : GN)]).flatMap GN.cells)) :: sl 58 2 (Value.slice none 0 0) (List.length ([] : List RV)) (([] : List RV).flatMap RV.cells) :: F) := H50_
    have S52_ := Same.trans (Same.trans S40_ (Same.drew _)) S51_
    have H53_ := Holds.resl H50_ 4 rfl (gsetN rfl : List.take ((List.length N0) * 4 + 1) ((N0 ++ [(⟨0, 0, 0, (Value.slice none 0 0), ([] : List RV)⟩ : GN)]).flatMap GN.cells) ++ [(Value.int .i64 m'), (Value.int .i64 n')] ++ List.drop ((List.length N0) * 4 + 1 + List.length [(Value.int .i64 m'), (Value.int .i64 n')]) ((N0 ++ [(⟨0, 0, 0, (Value.slice none 0 0), ([] : List RV)⟩ : GN)]).flatMap GN.cells) = (N0 ++ [(⟨0, m', n', (Value.slice none 0 0), ([] : List RV)⟩ : GN)]).flatMap GN.cells) (rfl : (List.length N0 + 1) = (List.length N0 + 1))
    refine wpList_nil ?_
    refine (X_then (hK46_ _ _ ?_))
    clear hK46_
    refine C_seq (fun K54_ hK54_ => ?_)
    refine A_start (S := fun w => Rd b2_ [(Value.int .i64 m'), (Value.int .i64 n')] w ∧ Sub R (hp w)) (N := 11) foll rfl rfl ?_
    have H55_ := Holds.drew_ H53_
    have hq56_ := And.intro (Holds.rd H55_ 2 rfl) ((Holds.ro_at H55_ 1 rfl))
    refine A_tk 0 (v := (Value.pointer (some ⟨(sb v32_), so v32_ + ((List.length N0) * 4 + 0), none⟩))) rfl (by kernel_rfl) (fun w hS => x_move rfl) hq56_ ?_
    refine A_tk 1 (v := (Value.pointer (some ⟨(sb v32_), so v32_ + ((List.length N0) * 4 + 0), none⟩))) rfl (by kernel_rfl) (fun w hS => x_move rfl) hq56_ ?_
    refine A_tk 2 (v := (Value.pointer (some ⟨(sb v32_), so v32_ + ((List.length N0) * 4 + 0), none⟩))) rfl (by kernel_rfl) (fun w hS => by kernel_rfl) hq56_ ?_
    refine A_tk 3 (v := (Value.pointer (some ⟨(sb v32_), so v32_ + ((List.length N0) * 4 + 3), none⟩))) rfl (by kernel_rfl) (fun w hS => by kernel_rfl) hq56_ ?_
    refine A_tk 5 (v := (Value.agg #[(Value.int .i64 m'), (Value.int .i64 n')])) rfl (by kernel_rfl) (fun w hS => x_loadN (vs := [(Value.int .i64 m'), (Value.int .i64 n')]) rfl Try.underlying58 rfl z58 rfl (Rd.cells hS.1 0 rfl)) hq56_ ?_
    refine A_ready (i := 4) (rs := [6]) (by kernel_rfl) ?_
    refine AllR.cons ?_ ?_
    ·skip
     refine A_op (ls' := #[true, true, true, true, true, true, false, false, false, false, false]) rfl (by kernel_rfl) (T_val (v := ((Value.slice none 0 0))) (x_load1 rfl Try.underlying80 rfl ((Holds.slrd H55_ 4 rfl) _ _ (fm_cell GN.len (gat _ _) (i := 3) rfl))) ?_)
     refine ⟨⟨Holds.rd H55_ 2 rfl, (Holds.ro_at H55_ 1 rfl)⟩, ?_⟩
     refine A_ready (i := 6) (rs := []) (by kernel_rfl) ?_
     refine AllR.cons ?_ AllR.nil
     refine A_op (ls' := #[true, true, true, true, true, true, true, false, false, false, false]) rfl (by kernel_rfl) (T_new (obj := .cells #[(Value.int .i64 m'), (Value.int .i64 n')] 58) (f := fun b__ => .slice (some ⟨b__, 0, none⟩) 1 1) (A := fun b__ => cl b__ 58 [(Value.int .i64 m'), (Value.int .i64 n')]) (by kernel_rfl) (fun l h => h.alloc _ _) H55_ ?_)
     intro b57_ w58_ S60_ H59_
     replace H59_ : Holds w58_ (cl b57_ 58 [(Value.int .i64 m'), (Value.int .i64 n')] :: cl b27_ 106 [(Value.int .i64 0), (Value.int .i64 0), (Value.int .i64 0), (Value.slice none 0 0)] :: ro R :: cl b2_ 58 [(Value.int .i64 m'), (Value.int .i64 n')] :: cl kb 104 [(Value.slice ka kl kc), (Value.int .i64 m), (Value.int .i64 n), v32_] :: sl 106 4 v32_ (List.length N0 + 1) ((N0 ++ [(⟨0, m', n', (Value.slice none 0 0), ([] : List RV)⟩ : GN)]).flatMap GN.cells) :: sl 58 2 (Value.slice none 0 0) (List.length ([] : List RV)) (([] : List RV).flatMap RV.cells) :: F) := H59_
     have S61_ := Same.trans (Same.trans S52_ (Same.drew _)) S60_
     refine ⟨⟨Holds.rd H59_ 3 rfl, (Holds.ro_at H59_ 2 rfl)⟩, ?_⟩
     refine A_ready (i := 7) (rs := []) (by kernel_rfl) ?_
     refine AllR.cons ?_ AllR.nil
     refine A_op (ls' := #[true, true, true, true, true, true, true, true, false, false, false]) rfl (by kernel_rfl) (T_append rfl rfl Try.underlying80 z58 rfl (by decide) H59_ 6 rfl (Holds.cl_src H59_ 0 rfl Try.underlying80 (by simp [Value.oneCell']) rfl) (by first | omega | (simp only [List.length_append, List.length_cons, List.length_nil]; omega)) ?_)
     intro v62_ w63_ S65_ H64_
     have S66_ := Same.trans S61_ S65_
     refine ⟨⟨Holds.rd H64_ 3 rfl, (Holds.ro_at H64_ 2 rfl)⟩, ?_⟩
     have hq67_ := And.intro (Holds.rd H64_ 3 rfl) ((Holds.ro_at H64_ 2 rfl))
     refine A_tk 8 (v := (Value.pointer (some ⟨(sb v32_), so v32_ + ((List.length N0) * 4 + 0), none⟩))) rfl (by kernel_rfl) (fun w hS => by kernel_rfl) hq67_ ?_
     refine A_tk 9 (v := (Value.pointer (some ⟨(sb v32_), so v32_ + ((List.length N0) * 4 + 3), none⟩))) rfl (by kernel_rfl) (fun w hS => by kernel_rfl) hq67_ ?_
     refine A_ready (i := 10) (rs := []) (by kernel_rfl) ?_
     refine AllR.cons ?_ AllR.nil
     refine A_op0 (ls' := #[true, true, true, true, true, true, true, true, true, true, true]) rfl (by kernel_rfl) (T_storeSl (v := v32_) (u := v62_) rfl rfl z80 (Holds.sl_one H64_ 6 rfl) H64_ 5 rfl (by first | omega | (rw [fm_len GN.len]; simp only [List.length_append, List.length_cons, List.length_nil]; omega)) rfl rfl ?_)
     intro w68_ S70_ H69_
     have S71_ := Same.trans S66_ S70_
     have H72_ := Holds.resl H69_ 5 rfl (gset rfl : List.set ((N0 ++ [(⟨0, m', n', (Value.slice none 0 0), ([] : List RV)⟩ : GN)]).flatMap GN.cells) ((List.length N0) * 4 + 3) v62_ = (N0 ++ [(⟨0, m', n', v62_, [(⟨m', n'⟩ : RV)]⟩ : GN)]).flatMap GN.cells) (rfl : (List.length N0 + 1) = (List.length N0 + 1))
     refine ⟨⟨Holds.rd H72_ 3 rfl, (Holds.ro_at H72_ 2 rfl)⟩, ?_⟩
     refine A_done (by kernel_rfl) ?_
     refine (X_then (hK54_ _ _ ?_))
     clear hK54_
     refine C_seq (fun K73_ hK73_ => ?_)
     refine C_reg ?_
     refine S_list (T_val (v := (Value.pointer (some ⟨(sb v32_), so v32_ + ((List.length N0) * 4 + 0), none⟩))) (x_move rfl) ?_)
     refine S_list (T_val (v := (Value.pointer (some ⟨(sb v32_), so v32_ + ((List.length N0) * 4 + 0), none⟩))) (by kernel_rfl) ?_)
     refine S_list (T_val (v := (Value.pointer (some ⟨(sb v32_), so v32_ + ((List.length N0) * 4 + 0), none⟩))) (by kernel_rfl) ?_)
     refine S_list (T_val (v := (Value.int .i64 0)) (x_load1 rfl Try.underlying2 rfl ((Holds.slrd H72_ 5 rfl) _ _ (fm_cell GN.len (gat _ _) (i := 0) rfl))) ?_)
     refine S_list (T_val (v := (Value.int .i64 1)) (x_bin rfl rfl (by rfl)) ?_)
     refine S_list (T_val (v := (Value.pointer (some ⟨(sb v32_), so v32_ + ((List.length N0) * 4 + 0), none⟩))) (by kernel_rfl) ?_)
     refine S_list (T_val (v := (Value.pointer (some ⟨(sb v32_), so v32_ + ((List.length N0) * 4 + 0), none⟩))) (by kernel_rfl) ?_)
     refine S_list0 (T_storeSl (v := v32_) (u := (Value.int .i64 1)) rfl rfl z2 rfl H72_ 5 rfl (by first | omega | (rw [fm_len GN.len]; simp only [List.length_append, List.length_cons, List.length_nil]; omega)) rfl rfl ?_)
     intro w74_ S76_ H75_
     replace H75_ : Holds w74_ (cl b57_ 58 [(Value.int .i64 m'), (Value.int .i64 n')] :: cl b27_ 106 [(Value.int .i64 0), (Value.int .i64 0), (Value.int .i64 0), (Value.slice none 0 0)] :: ro R :: cl b2_ 58 [(Value.int .i64 m'), (Value.int .i64 n')] :: cl kb 104 [(Value.slice ka kl kc), (Value.int .i64 m), (Value.int .i64 n), v32_] :: sl 106 4 v32_ (List.length N0 + 1) (List.set ((N0 ++ [(⟨0, m', n', v62_, [(⟨m', n'⟩ : RV)]⟩ : GN)]).flatMap GN.cells) ((List.length N0) * 4 + 0) (Value.int .i64 1)) :: sl 58 2 v62_ ((List.length ([] : List RV)) + 1) ((([] : List RV).flatMap RV.cells) ++ [(Value.int .i64 m'), (Value.int .i64 n')]) :: F) := H75_
     have S77_ := Same.trans S71_ S76_
     have H78_ := Holds.resl H75_ 5 rfl (gset rfl : List.set ((N0 ++ [(⟨0, m', n', v62_, [(⟨m', n'⟩ : RV)]⟩ : GN)]).flatMap GN.cells) ((List.length N0) * 4 + 0) (Value.int .i64 1) = (N0 ++ [(⟨1, m', n', v62_, [(⟨m', n'⟩ : RV)]⟩ : GN)]).flatMap GN.cells) (rfl : (List.length N0 + 1) = (List.length N0 + 1))
     refine wpList_nil ?_
     refine (X_then (hK73_ _ _ ?_))
     clear hK73_
     refine C_reg ?_
     refine S_list (T_val (v := (Value.pointer (some ⟨kb, 0, none⟩))) (x_move rfl) ?_)
     refine S_list (T_val (v := (Value.agg #[(Value.int .i64 m'), (Value.int .i64 n')])) (x_loadN (vs := [(Value.int .i64 m'), (Value.int .i64 n')]) rfl Try.underlying58 rfl z58 rfl (Rd.cells (Holds.rd H78_ 3 rfl) 0 rfl)) ?_)
     refine S_list (T_val (v := (Value.pointer (some ⟨kb, 0, none⟩))) (by kernel_rfl) ?_)
     refine S_list (T_val (v := (Value.pointer (some ⟨kb, 1, none⟩))) (by kernel_rfl) ?_)
     refine S_list0 (T_storeN (vs := [(Value.int .i64 m'), (Value.int .i64 n')]) rfl rfl z58 rfl (by simp [Value.oneCell']) H78_ 4 rfl (Nat.le_of_ble_eq_true (by rfl)) ?_)
     intro w79_ S81_ H80_
     have S82_ := Same.trans S77_ S81_
     refine wpList_nil ?_
     refine R_0 rfl ?_
     have H83_ := Holds.resl H80_ 5 rfl ((by first | rfl | (simp [RV.cells, GN.cells]; done) | (simp; omega)) : (N0 ++ [(⟨1, m', n', v62_, [(⟨m', n'⟩ : RV)]⟩ : GN)]).flatMap GN.cells = (N0 ++ [(⟨1, m', n', v62_, [(⟨m', n'⟩ : RV)]⟩ : GN)]).flatMap GN.cells) ((by first | rfl | (simp [RV.cells, GN.cells]; done) | (simp; omega)) : (List.length N0 + 1) = (List.length (N0 ++ [(⟨1, m', n', v62_, [(⟨m', n'⟩ : RV)]⟩ : GN)])))
     have H84_ := Holds.resl H83_ 6 rfl ((by first | rfl | (simp [RV.cells, GN.cells]; done) | (simp; omega)) : (([] : List RV).flatMap RV.cells) ++ [(Value.int .i64 m'), (Value.int .i64 n')] = [(⟨m', n'⟩ : RV)].flatMap RV.cells) ((by first | rfl | (simp [RV.cells, GN.cells]; done) | (simp; omega)) : (List.length ([] : List RV)) + 1 = (List.length [(⟨m', n'⟩ : RV)]))
     have H85_ : Holds w79_ (ro R :: cl kb 104 [(Value.slice ka kl kc), (Value.int .i64 m'), (Value.int .i64 n'), v32_] :: sl 106 4 v32_ (List.length (N0 ++ [(⟨1, m', n', v62_, [(⟨m', n'⟩ : RV)]⟩ : GN)])) ((N0 ++ [(⟨1, m', n', v62_, [(⟨m', n'⟩ : RV)]⟩ : GN)]).flatMap GN.cells) :: sl 58 2 v62_ (List.length [(⟨m', n'⟩ : RV)]) ([(⟨m', n'⟩ : RV)].flatMap RV.cells) :: F) := (Holds.pkF H84_ [2, 3, 3, 3] 3 :)
     exact ⟨_, _, rfl, ⟨v32_, v62_, [(⟨1, m', n', v62_, [(⟨m', n'⟩ : RV)]⟩ : GN)], [(⟨m', n'⟩ : RV)], rfl, rfl, (by rw [hN0_, hT0_]; exact iPut_nil), (Or.inr ⟨_, _, _, rfl⟩), (fun h_ => by cases h_)⟩, S82_, H85_⟩
    refine AllR.cons ?_ AllR.nil
    refine A_op (ls' := #[true, true, true, true, false, true, true, false, false, false, false]) rfl (by kernel_rfl) (T_new (obj := .cells #[(Value.int .i64 m'), (Value.int .i64 n')] 58) (f := fun b__ => .slice (some ⟨b__, 0, none⟩) 1 1) (A := fun b__ => cl b__ 58 [(Value.int .i64 m'), (Value.int .i64 n')]) (by kernel_rfl) (fun l h => h.alloc _ _) H55_ ?_)
    intro b86_ w87_ S89_ H88_
    have S90_ := Same.trans (Same.trans S52_ (Same.drew _)) S89_
    refine ⟨⟨Holds.rd H88_ 3 rfl, (Holds.ro_at H88_ 2 rfl)⟩, ?_⟩
    refine A_ready (i := 4) (rs := []) (by kernel_rfl) ?_
    refine AllR.cons ?_ AllR.nil
    refine A_op (ls' := #[true, true, true, true, true, true, true, false, false, false, false]) rfl (by kernel_rfl) (T_val (v := ((Value.slice none 0 0))) (x_load1 rfl Try.underlying80 rfl ((Holds.slrd H88_ 5 rfl) _ _ (fm_cell GN.len (gat _ _) (i := 3) rfl))) ?_)
    refine ⟨⟨Holds.rd H88_ 3 rfl, (Holds.ro_at H88_ 2 rfl)⟩, ?_⟩
    refine A_ready (i := 7) (rs := []) (by kernel_rfl) ?_
    refine AllR.cons ?_ AllR.nil
    refine A_op (ls' := #[true, true, true, true, true, true, true, true, false, false, false]) rfl (by kernel_rfl) (T_append rfl rfl Try.underlying80 z58 rfl (by decide) H88_ 6 rfl (Holds.cl_src H88_ 0 rfl Try.underlying80 (by simp [Value.oneCell']) rfl) (by first | omega | (simp only [List.length_append, List.length_cons, List.length_nil]; omega)) ?_)
    intro v91_ w92_ S94_ H93_
    have S95_ := Same.trans S90_ S94_
    refine ⟨⟨Holds.rd H93_ 3 rfl, (Holds.ro_at H93_ 2 rfl)⟩, ?_⟩
    have hq96_ := And.intro (Holds.rd H93_ 3 rfl) ((Holds.ro_at H93_ 2 rfl))
    refine A_tk 8 (v := (Value.pointer (some ⟨(sb v32_), so v32_ + ((List.length N0) * 4 + 0), none⟩))) rfl (by kernel_rfl) (fun w hS => by kernel_rfl) hq96_ ?_
    refine A_tk 9 (v := (Value.pointer (some ⟨(sb v32_), so v32_ + ((List.length N0) * 4 + 3), none⟩))) rfl (by kernel_rfl) (fun w hS => by kernel_rfl) hq96_ ?_
    refine A_ready (i := 10) (rs := []) (by kernel_rfl) ?_
    refine AllR.cons ?_ AllR.nil
    refine A_op0 (ls' := #[true, true, true, true, true, true, true, true, true, true, true]) rfl (by kernel_rfl) (T_storeSl (v := v32_) (u := v91_) rfl rfl z80 (Holds.sl_one H93_ 6 rfl) H93_ 5 rfl (by first | omega | (rw [fm_len GN.len]; simp only [List.length_append, List.length_cons, List.length_nil]; omega)) rfl rfl ?_)
    intro w97_ S99_ H98_
    replace H98_ : Holds w97_ (cl b86_ 58 [(Value.int .i64 m'), (Value.int .i64 n')] :: cl b27_ 106 [(Value.int .i64 0), (Value.int .i64 0), (Value.int .i64 0), (Value.slice none 0 0)] :: ro R :: cl b2_ 58 [(Value.int .i64 m'), (Value.int .i64 n')] :: cl kb 104 [(Value.slice ka kl kc), (Value.int .i64 m), (Value.int .i64 n), v32_] :: sl 106 4 v32_ (List.length N0 + 1) (List.set ((N0 ++ [(⟨0, m', n', (Value.slice none 0 0), ([] : List RV)⟩ : GN)]).flatMap GN.cells) ((List.length N0) * 4 + 3) v91_) :: sl 58 2 v91_ ((List.length ([] : List RV)) + 1) ((([] : List RV).flatMap RV.cells) ++ [(Value.int .i64 m'), (Value.int .i64 n')]) :: F) := H98_
    have S100_ := Same.trans S95_ S99_
    have H101_ := Holds.resl H98_ 5 rfl (gset rfl : List.set ((N0 ++ [(⟨0, m', n', (Value.slice none 0 0), ([] : List RV)⟩ : GN)]).flatMap GN.cells) ((List.length N0) * 4 + 3) v91_ = (N0 ++ [(⟨0, m', n', v91_, [(⟨m', n'⟩ : RV)]⟩ : GN)]).flatMap GN.cells) (rfl : (List.length N0 + 1) = (List.length N0 + 1))
    refine ⟨⟨Holds.rd H101_ 3 rfl, (Holds.ro_at H101_ 2 rfl)⟩, ?_⟩
    refine A_done (by kernel_rfl) ?_
    refine (X_then (hK54_ _ _ ?_))
    clear hK54_
    refine C_seq (fun K102_ hK102_ => ?_)
    refine C_reg ?_
    refine S_list (T_val (v := (Value.pointer (some ⟨(sb v32_), so v32_ + ((List.length N0) * 4 + 0), none⟩))) (x_move rfl) ?_)
    refine S_list (T_val (v := (Value.pointer (some ⟨(sb v32_), so v32_ + ((List.length N0) * 4 + 0), none⟩))) (by kernel_rfl) ?_)
    refine S_list (T_val (v := (Value.pointer (some ⟨(sb v32_), so v32_ + ((List.length N0) * 4 + 0), none⟩))) (by kernel_rfl) ?_)
    refine S_list (T_val (v := (Value.int .i64 0)) (x_load1 rfl Try.underlying2 rfl ((Holds.slrd H101_ 5 rfl) _ _ (fm_cell GN.len (gat _ _) (i := 0) rfl))) ?_)
    refine S_list (T_val (v := (Value.int .i64 1)) (x_bin rfl rfl (by rfl)) ?_)
    refine S_list (T_val (v := (Value.pointer (some ⟨(sb v32_), so v32_ + ((List.length N0) * 4 + 0), none⟩))) (by kernel_rfl) ?_)
    refine S_list (T_val (v := (Value.pointer (some ⟨(sb v32_), so v32_ + ((List.length N0) * 4 + 0), none⟩))) (by kernel_rfl) ?_)
    refine S_list0 (T_storeSl (v := v32_) (u := (Value.int .i64 1)) rfl rfl z2 rfl H101_ 5 rfl (by first | omega | (rw [fm_len GN.len]; simp only [List.length_append, List.length_cons, List.length_nil]; omega)) rfl rfl ?_)
    intro w103_ S105_ H104_
    have S106_ := Same.trans S100_ S105_
    have H107_ := Holds.resl H104_ 5 rfl (gset rfl : List.set ((N0 ++ [(⟨0, m', n', v91_, [(⟨m', n'⟩ : RV)]⟩ : GN)]).flatMap GN.cells) ((List.length N0) * 4 + 0) (Value.int .i64 1) = (N0 ++ [(⟨1, m', n', v91_, [(⟨m', n'⟩ : RV)]⟩ : GN)]).flatMap GN.cells) (rfl : (List.length N0 + 1) = (List.length N0 + 1))
    refine wpList_nil ?_
    refine (X_then (hK102_ _ _ ?_))
    clear hK102_
    refine C_reg ?_
    refine S_list (T_val (v := (Value.pointer (some ⟨kb, 0, none⟩))) (x_move rfl) ?_)
    refine S_list (T_val (v := (Value.agg #[(Value.int .i64 m'), (Value.int .i64 n')])) (x_loadN (vs := [(Value.int .i64 m'), (Value.int .i64 n')]) rfl Try.underlying58 rfl z58 rfl (Rd.cells (Holds.rd H107_ 3 rfl) 0 rfl)) ?_)
    refine S_list (T_val (v := (Value.pointer (some ⟨kb, 0, none⟩))) (by kernel_rfl) ?_)
    refine S_list (T_val (v := (Value.pointer (some ⟨kb, 1, none⟩))) (by kernel_rfl) ?_)
    refine S_list0 (T_storeN (vs := [(Value.int .i64 m'), (Value.int .i64 n')]) rfl rfl z58 rfl (by simp [Value.oneCell']) H107_ 4 rfl (Nat.le_of_ble_eq_true (by rfl)) ?_)
    intro w108_ S110_ H109_
    have S111_ := Same.trans S106_ S110_
    refine wpList_nil ?_
    refine R_0 rfl ?_
    have H112_ := Holds.resl H109_ 5 rfl ((by first | rfl | (simp [RV.cells, GN.cells]; done) | (simp; omega)) : (N0 ++ [(⟨1, m', n', v91_, [(⟨m', n'⟩ : RV)]⟩ : GN)]).flatMap GN.cells = (N0 ++ [(⟨1, m', n', v91_, [(⟨m', n'⟩ : RV)]⟩ : GN)]).flatMap GN.cells) ((by first | rfl | (simp [RV.cells, GN.cells]; done) | (simp; omega)) : (List.length N0 + 1) = (List.length (N0 ++ [(⟨1, m', n', v91_, [(⟨m', n'⟩ : RV)]⟩ : GN)])))
    have H113_ := Holds.resl H112_ 6 rfl ((by first | rfl | (simp [RV.cells, GN.cells]; done) | (simp; omega)) : (([] : List RV).flatMap RV.cells) ++ [(Value.int .i64 m'), (Value.int .i64 n')] = [(⟨m', n'⟩ : RV)].flatMap RV.cells) ((by first | rfl | (simp [RV.cells, GN.cells]; done) | (simp; omega)) : (List.length ([] : List RV)) + 1 = (List.length [(⟨m', n'⟩ : RV)]))
    have H114_ : Holds w108_ (ro R :: cl kb 104 [(Value.slice ka kl kc), (Value.int .i64 m'), (Value.int .i64 n'), v32_] :: sl 106 4 v32_ (List.length (N0 ++ [(⟨1, m', n', v91_, [(⟨m', n'⟩ : RV)]⟩ : GN)])) ((N0 ++ [(⟨1, m', n', v91_, [(⟨m', n'⟩ : RV)]⟩ : GN)]).flatMap GN.cells) :: sl 58 2 v91_ (List.length [(⟨m', n'⟩ : RV)]) ([(⟨m', n'⟩ : RV)].flatMap RV.cells) :: F) := (Holds.pkF H113_ [2, 3, 3, 3] 3 :)
    exact ⟨_, _, rfl, ⟨v32_, v91_, [(⟨1, m', n', v91_, [(⟨m', n'⟩ : RV)]⟩ : GN)], [(⟨m', n'⟩ : RV)], rfl, rfl, (by rw [hN0_, hT0_]; exact iPut_nil), (Or.inr ⟨_, _, _, rfl⟩), (fun h_ => by cases h_)⟩, S111_, H114_⟩
   ·have c48_fp : ¬ (((List.length ([] : List RV)) : Int) = 0) := of_decide_eq_false c48_f
    exact absurd rfl c48_fp
  ·have c26_fp : ¬ (((List.length (N0 ++ T)) : Int) = 0) := of_decide_eq_false c26_f
   refine C_skip (X_then (hK24_ _ _ ?_))
   clear hK24_
   refine C_seq (fun K115_ hK115_ => ?_)
   refine A_start (S := fun w => Rd kb [(Value.slice ka kl kc), (Value.int .i64 m), (Value.int .i64 n), gv] w ∧ SlRd lv (ll.flatMap RV.cells) w ∧ Sub R (hp w)) (N := 12) foll rfl rfl ?_
   have H116_ := Holds.drew_ H18_
   obtain ⟨ta, tb, tc, rfl⟩ := Tlk_some hT (fun e_ => by have e2_ := hTN e_; subst e_ e2_; simp_all)
   have hbt_ := hbv _ (List.mem_append_right _ (List.mem_singleton.2 rfl))
   have hbl_ := hbd; simp only [List.length_append, List.length_cons, List.length_nil] at hbl_ hbt_
   have H117_ := Holds.resl H116_ 3 rfl (rfl : (N0 ++ [(⟨ta, tb, tc, lv, ll⟩ : GN)]).flatMap GN.cells = (N0 ++ [(⟨ta, tb, tc, lv, ll⟩ : GN)]).flatMap GN.cells) (by simp : (List.length (N0 ++ [(⟨ta, tb, tc, lv, ll⟩ : GN)])) = (List.length N0 + 1))
   have hq118_ := And.intro (Holds.rd H117_ 2 rfl) (And.intro (Holds.slrd H117_ 4 rfl) ((Holds.ro_at H117_ 0 rfl)))
   refine A_tk 0 (v := (Value.pointer (some ⟨kb, 0, none⟩))) rfl (by kernel_rfl) (fun w hS => x_move rfl) hq118_ ?_
   refine A_tk 1 (v := (Value.pointer (some ⟨kb, 0, none⟩))) rfl (by kernel_rfl) (fun w hS => by kernel_rfl) hq118_ ?_
   refine A_tk 2 (v := (Value.pointer (some ⟨kb, 3, none⟩))) rfl (by kernel_rfl) (fun w hS => by kernel_rfl) hq118_ ?_
   refine A_tk 3 (v := gv) rfl (by kernel_rfl) (fun w hS => x_load1 rfl Try.underlying102 rfl (hS.1 3 gv rfl)) hq118_ ?_
   refine A_tk 4 (v := (Value.pointer (some ⟨kb, 0, none⟩))) rfl (by kernel_rfl) (fun w hS => x_move rfl) hq118_ ?_
   refine A_tk 5 (v := (Value.pointer (some ⟨kb, 0, none⟩))) rfl (by kernel_rfl) (fun w hS => by kernel_rfl) hq118_ ?_
   refine A_tk 6 (v := (Value.pointer (some ⟨kb, 3, none⟩))) rfl (by kernel_rfl) (fun w hS => by kernel_rfl) hq118_ ?_
   refine A_tk 7 (v := gv) rfl (by kernel_rfl) (fun w hS => x_load1 rfl Try.underlying102 rfl (hS.1 3 gv rfl)) hq118_ ?_
   refine A_ready (i := 8) (rs := []) (by kernel_rfl) ?_
   refine AllR.cons ?_ AllR.nil
   refine A_op (ls' := #[true, true, true, true, true, true, true, true, true, false, false, false]) rfl (by kernel_rfl) (T_val (v := (Value.int .i64 ((List.length N0 + 1) : Int))) (x_lenSl rfl H117_ 3 rfl Try.underlying102) ?_)
   refine ⟨⟨Holds.rd H117_ 2 rfl, Holds.slrd H117_ 4 rfl, (Holds.ro_at H117_ 0 rfl)⟩, ?_⟩
   refine A_tk 9 (v := (Value.int .i64 (((List.length N0 + 1) : Int) - 1))) rfl (by kernel_rfl) (fun w hS => x_bin rfl rfl (ib_sub (IntWalk.i64_in _ (by omega)))) hq118_ ?_
   have hr119_ := Holds.sl_RSw H117_ 3 rfl
   refine A_tk 10 (v := (Value.pointer (some ⟨(sb gv), so gv + ((List.length N0) * 4 + 0), none⟩))) rfl (by kernel_rfl) (fun w hS => x_idxSlR (v := gv) rfl hr119_ rfl Try.underlying102 z106 (by omega) (by omega) (by omega : _ = List.length N0) rfl) hq118_ ?_
   refine A_tk 11 (v := (Value.pointer (some ⟨(sb gv), so gv + ((List.length N0) * 4 + 0), none⟩))) rfl (by kernel_rfl) (fun w hS => x_assign rfl) hq118_ ?_
   refine A_done (by kernel_rfl) ?_
   refine (X_then (hK115_ _ _ ?_))
   clear hK115_
   refine C_seq (fun K120_ hK120_ => ?_)
   refine C_seq (fun K121_ hK121_ => ?_)
   refine C_reg ?_
   refine S_list (T_val (v := (Value.pointer (some ⟨(sb gv), so gv + ((List.length N0) * 4 + 0), none⟩))) (x_move rfl) ?_)
   refine S_list (T_val (v := (Value.pointer (some ⟨(sb gv), so gv + ((List.length N0) * 4 + 0), none⟩))) (by kernel_rfl) ?_)
   refine S_list (T_val (v := (Value.pointer (some ⟨(sb gv), so gv + ((List.length N0) * 4 + 3), none⟩))) (by kernel_rfl) ?_)
   refine S_list (T_val (v := lv) (x_load1 rfl Try.underlying80 rfl ((Holds.slrd H117_ 3 rfl) _ _ (fm_cell GN.len (gat _ _) (i := 3) rfl))) ?_)
   refine S_list (T_val (v := (Value.int .i64 ((List.length ll) : Int))) (x_lenSl rfl H117_ 4 rfl Try.underlying80) ?_)
   refine S_list (T_val (v := (Value.bool (decide (((List.length ll) : Int) = 0)))) (x_bin rfl rfl rfl) ?_)
   refine wpList_nil ?_
   refine (X_then (hK121_ _ _ ?_))
   clear hK121_
   refine C_cond (b := decide (((List.length ll) : Int) = 0)) rfl (fun c122_t => ?_) (fun c122_f => ?_)
   ·have c122_tp : ((List.length ll) : Int) = 0 := of_decide_eq_true c122_t
    refine C_reg ?_
    refine S_list (T_val (v := (Value.pointer (some ⟨(sb gv), so gv + ((List.length N0) * 4 + 0), none⟩))) (x_move rfl) ?_)
    refine S_list (T_val (v := (Value.agg #[(Value.int .i64 m'), (Value.int .i64 n')])) (x_loadN (vs := [(Value.int .i64 m'), (Value.int .i64 n')]) rfl Try.underlying58 rfl z58 rfl (Rd.cells (Holds.rd H117_ 1 rfl) 0 rfl)) ?_)
    refine S_list (T_val (v := (Value.pointer (some ⟨(sb gv), so gv + ((List.length N0) * 4 + 0), none⟩))) (by kernel_rfl) ?_)
    refine S_list (T_val (v := (Value.pointer (some ⟨(sb gv), so gv + ((List.length N0) * 4 + 1), none⟩))) (by kernel_rfl) ?_)
    refine S_list0 (T_storeSlN (vs := [(Value.int .i64 m'), (Value.int .i64 n')]) (k := (List.length N0) * 4 + 1) rfl rfl z58 rfl (by simp [Value.oneCell']) H117_ 3 rfl (by first | omega | (rw [fm_len GN.len]; simp only [List.length_append, List.length_cons, List.length_nil]; omega)) (Nat.zero_lt_succ _) rfl rfl ?_)
    intro w123_ S125_ H124_
    have S126_ := Same.trans (Same.trans S21_ (Same.drew _)) S125_
    have H127_ := Holds.resl H124_ 3 rfl (gsetN rfl : List.take ((List.length N0) * 4 + 1) ((N0 ++ [(⟨ta, tb, tc, lv, ll⟩ : GN)]).flatMap GN.cells) ++ [(Value.int .i64 m'), (Value.int .i64 n')] ++ List.drop ((List.length N0) * 4 + 1 + List.length [(Value.int .i64 m'), (Value.int .i64 n')]) ((N0 ++ [(⟨ta, tb, tc, lv, ll⟩ : GN)]).flatMap GN.cells) = (N0 ++ [(⟨ta, m', n', lv, ll⟩ : GN)]).flatMap GN.cells) (rfl : (List.length N0 + 1) = (List.length N0 + 1))
    refine wpList_nil ?_
    refine (X_then (hK120_ _ _ ?_))
    clear hK120_
    refine C_seq (fun K128_ hK128_ => ?_)
    refine A_start (S := fun w => Rd b2_ [(Value.int .i64 m'), (Value.int .i64 n')] w ∧ Sub R (hp w)) (N := 11) foll rfl rfl ?_
    have H129_ := Holds.drew_ H127_
    have hq130_ := And.intro (Holds.rd H129_ 1 rfl) ((Holds.ro_at H129_ 0 rfl))
    refine A_tk 0 (v := (Value.pointer (some ⟨(sb gv), so gv + ((List.length N0) * 4 + 0), none⟩))) rfl (by kernel_rfl) (fun w hS => x_move rfl) hq130_ ?_
    refine A_tk 1 (v := (Value.pointer (some ⟨(sb gv), so gv + ((List.length N0) * 4 + 0), none⟩))) rfl (by kernel_rfl) (fun w hS => x_move rfl) hq130_ ?_
    refine A_tk 2 (v := (Value.pointer (some ⟨(sb gv), so gv + ((List.length N0) * 4 + 0), none⟩))) rfl (by kernel_rfl) (fun w hS => by kernel_rfl) hq130_ ?_
    refine A_tk 3 (v := (Value.pointer (some ⟨(sb gv), so gv + ((List.length N0) * 4 + 3), none⟩))) rfl (by kernel_rfl) (fun w hS => by kernel_rfl) hq130_ ?_
    refine A_tk 5 (v := (Value.agg #[(Value.int .i64 m'), (Value.int .i64 n')])) rfl (by kernel_rfl) (fun w hS => x_loadN (vs := [(Value.int .i64 m'), (Value.int .i64 n')]) rfl Try.underlying58 rfl z58 rfl (Rd.cells hS.1 0 rfl)) hq130_ ?_
    refine A_ready (i := 4) (rs := [6]) (by kernel_rfl) ?_
    refine AllR.cons ?_ ?_
    ·skip
     refine A_op (ls' := #[true, true, true, true, true, true, false, false, false, false, false]) rfl (by kernel_rfl) (T_val (v := lv) (x_load1 rfl Try.underlying80 rfl ((Holds.slrd H129_ 3 rfl) _ _ (fm_cell GN.len (gat _ _) (i := 3) rfl))) ?_)
     refine ⟨⟨Holds.rd H129_ 1 rfl, (Holds.ro_at H129_ 0 rfl)⟩, ?_⟩
     refine A_ready (i := 6) (rs := []) (by kernel_rfl) ?_
     refine AllR.cons ?_ AllR.nil
     refine A_op (ls' := #[true, true, true, true, true, true, true, false, false, false, false]) rfl (by kernel_rfl) (T_new (obj := .cells #[(Value.int .i64 m'), (Value.int .i64 n')] 58) (f := fun b__ => .slice (some ⟨b__, 0, none⟩) 1 1) (A := fun b__ => cl b__ 58 [(Value.int .i64 m'), (Value.int .i64 n')]) (by kernel_rfl) (fun l h => h.alloc _ _) H129_ ?_)
     intro b131_ w132_ S134_ H133_
     have S135_ := Same.trans (Same.trans S126_ (Same.drew _)) S134_
     refine ⟨⟨Holds.rd H133_ 2 rfl, (Holds.ro_at H133_ 1 rfl)⟩, ?_⟩
     refine A_ready (i := 7) (rs := []) (by kernel_rfl) ?_
     refine AllR.cons ?_ AllR.nil
     refine A_op (ls' := #[true, true, true, true, true, true, true, true, false, false, false]) rfl (by kernel_rfl) (T_append rfl rfl Try.underlying80 z58 rfl (by decide) H133_ 5 rfl (Holds.cl_src H133_ 0 rfl Try.underlying80 (by simp [Value.oneCell']) rfl) (by first | omega | (simp only [List.length_append, List.length_cons, List.length_nil]; omega)) ?_)
     intro v136_ w137_ S139_ H138_
     have S140_ := Same.trans S135_ S139_
     refine ⟨⟨Holds.rd H138_ 2 rfl, (Holds.ro_at H138_ 1 rfl)⟩, ?_⟩
     have hq141_ := And.intro (Holds.rd H138_ 2 rfl) ((Holds.ro_at H138_ 1 rfl))
     refine A_tk 8 (v := (Value.pointer (some ⟨(sb gv), so gv + ((List.length N0) * 4 + 0), none⟩))) rfl (by kernel_rfl) (fun w hS => by kernel_rfl) hq141_ ?_
     refine A_tk 9 (v := (Value.pointer (some ⟨(sb gv), so gv + ((List.length N0) * 4 + 3), none⟩))) rfl (by kernel_rfl) (fun w hS => by kernel_rfl) hq141_ ?_
     refine A_ready (i := 10) (rs := []) (by kernel_rfl) ?_
     refine AllR.cons ?_ AllR.nil
     refine A_op0 (ls' := #[true, true, true, true, true, true, true, true, true, true, true]) rfl (by kernel_rfl) (T_storeSl (v := gv) (u := v136_) rfl rfl z80 (Holds.sl_one H138_ 5 rfl) H138_ 4 rfl (by first | omega | (rw [fm_len GN.len]; simp only [List.length_append, List.length_cons, List.length_nil]; omega)) rfl rfl ?_)
     intro w142_ S144_ H143_
     replace H143_ : Holds w142_ (cl b131_ 58 [(Value.int .i64 m'), (Value.int .i64 n')] :: ro R :: cl b2_ 58 [(Value.int .i64 m'), (Value.int .i64 n')] :: cl kb 104 [(Value.slice ka kl kc), (Value.int .i64 m), (Value.int .i64 n), gv] :: sl 106 4 gv (List.length N0 + 1) (List.set ((N0 ++ [(⟨ta, m', n', lv, ll⟩ : GN)]).flatMap GN.cells) ((List.length N0) * 4 + 3) v136_) :: sl 58 2 v136_ ((List.length ll) + 1) ((ll.flatMap RV.cells) ++ [(Value.int .i64 m'), (Value.int .i64 n')]) :: F) := H143_
     have S145_ := Same.trans S140_ S144_
     have H146_ := Holds.resl H143_ 4 rfl (gset rfl : List.set ((N0 ++ [(⟨ta, m', n', lv, ll⟩ : GN)]).flatMap GN.cells) ((List.length N0) * 4 + 3) v136_ = (N0 ++ [(⟨ta, m', n', v136_, (ll ++ [(⟨m', n'⟩ : RV)])⟩ : GN)]).flatMap GN.cells) (rfl : (List.length N0 + 1) = (List.length N0 + 1))
     refine ⟨⟨Holds.rd H146_ 2 rfl, (Holds.ro_at H146_ 1 rfl)⟩, ?_⟩
     refine A_done (by kernel_rfl) ?_
     refine (X_then (hK128_ _ _ ?_))
     clear hK128_
     refine C_seq (fun K147_ hK147_ => ?_)
     refine C_reg ?_
     refine S_list (T_val (v := (Value.pointer (some ⟨(sb gv), so gv + ((List.length N0) * 4 + 0), none⟩))) (x_move rfl) ?_)
     refine S_list (T_val (v := (Value.pointer (some ⟨(sb gv), so gv + ((List.length N0) * 4 + 0), none⟩))) (by kernel_rfl) ?_)
     refine S_list (T_val (v := (Value.pointer (some ⟨(sb gv), so gv + ((List.length N0) * 4 + 0), none⟩))) (by kernel_rfl) ?_)
     refine S_list (T_val (v := (Value.int .i64 ta)) (x_load1 rfl Try.underlying2 rfl ((Holds.slrd H146_ 4 rfl) _ _ (fm_cell GN.len (gat _ _) (i := 0) rfl))) ?_)
     refine S_list (T_val (v := (Value.int .i64 (ta + 1))) (x_bin rfl rfl (ib_add (IntWalk.i64_in _ (by omega)))) ?_)
     refine S_list (T_val (v := (Value.pointer (some ⟨(sb gv), so gv + ((List.length N0) * 4 + 0), none⟩))) (by kernel_rfl) ?_)
     refine S_list (T_val (v := (Value.pointer (some ⟨(sb gv), so gv + ((List.length N0) * 4 + 0), none⟩))) (by kernel_rfl) ?_)
     refine S_list0 (T_storeSl (v := gv) (u := (Value.int .i64 (ta + 1))) rfl rfl z2 rfl H146_ 4 rfl (by first | omega | (rw [fm_len GN.len]; simp only [List.length_append, List.length_cons, List.length_nil]; omega)) rfl rfl ?_)
     intro w148_ S150_ H149_
     have S151_ := Same.trans S145_ S150_
     have H152_ := Holds.resl H149_ 4 rfl (gset rfl : List.set ((N0 ++ [(⟨ta, m', n', v136_, (ll ++ [(⟨m', n'⟩ : RV)])⟩ : GN)]).flatMap GN.cells) ((List.length N0) * 4 + 0) (Value.int .i64 (ta + 1)) = (N0 ++ [(⟨(ta + 1), m', n', v136_, (ll ++ [(⟨m', n'⟩ : RV)])⟩ : GN)]).flatMap GN.cells) (rfl : (List.length N0 + 1) = (List.length N0 + 1))
     refine wpList_nil ?_
     refine (X_then (hK147_ _ _ ?_))
     clear hK147_
     refine C_reg ?_
     refine S_list (T_val (v := (Value.pointer (some ⟨kb, 0, none⟩))) (x_move rfl) ?_)
     refine S_list (T_val (v := (Value.agg #[(Value.int .i64 m'), (Value.int .i64 n')])) (x_loadN (vs := [(Value.int .i64 m'), (Value.int .i64 n')]) rfl Try.underlying58 rfl z58 rfl (Rd.cells (Holds.rd H152_ 2 rfl) 0 rfl)) ?_)
     refine S_list (T_val (v := (Value.pointer (some ⟨kb, 0, none⟩))) (by kernel_rfl) ?_)
     refine S_list (T_val (v := (Value.pointer (some ⟨kb, 1, none⟩))) (by kernel_rfl) ?_)
     refine S_list0 (T_storeN (vs := [(Value.int .i64 m'), (Value.int .i64 n')]) rfl rfl z58 rfl (by simp [Value.oneCell']) H152_ 3 rfl (Nat.le_of_ble_eq_true (by rfl)) ?_)
     intro w153_ S155_ H154_
     have S156_ := Same.trans S151_ S155_
     refine wpList_nil ?_
     refine R_0 rfl ?_
     have H157_ := Holds.resl H154_ 4 rfl ((by first | rfl | (simp [RV.cells, GN.cells]; done) | (simp; omega)) : (N0 ++ [(⟨(ta + 1), m', n', v136_, (ll ++ [(⟨m', n'⟩ : RV)])⟩ : GN)]).flatMap GN.cells = (N0 ++ [(⟨(ta + 1), m', n', v136_, (ll ++ [(⟨m', n'⟩ : RV)])⟩ : GN)]).flatMap GN.cells) ((by first | rfl | (simp [RV.cells, GN.cells]; done) | (simp; omega)) : (List.length N0 + 1) = (List.length (N0 ++ [(⟨(ta + 1), m', n', v136_, (ll ++ [(⟨m', n'⟩ : RV)])⟩ : GN)])))
     have H158_ := Holds.resl H157_ 5 rfl ((by first | rfl | (simp [RV.cells, GN.cells]; done) | (simp; omega)) : (ll.flatMap RV.cells) ++ [(Value.int .i64 m'), (Value.int .i64 n')] = (ll ++ [(⟨m', n'⟩ : RV)]).flatMap RV.cells) ((by first | rfl | (simp [RV.cells, GN.cells]; done) | (simp; omega)) : (List.length ll) + 1 = (List.length (ll ++ [(⟨m', n'⟩ : RV)])))
     have H159_ : Holds w153_ (ro R :: cl kb 104 [(Value.slice ka kl kc), (Value.int .i64 m'), (Value.int .i64 n'), gv] :: sl 106 4 gv (List.length (N0 ++ [(⟨(ta + 1), m', n', v136_, (ll ++ [(⟨m', n'⟩ : RV)])⟩ : GN)])) ((N0 ++ [(⟨(ta + 1), m', n', v136_, (ll ++ [(⟨m', n'⟩ : RV)])⟩ : GN)]).flatMap GN.cells) :: sl 58 2 v136_ (List.length (ll ++ [(⟨m', n'⟩ : RV)])) ((ll ++ [(⟨m', n'⟩ : RV)]).flatMap RV.cells) :: F) := (Holds.pkF H158_ [1, 2, 2, 2] 2 :)
     exact ⟨_, _, rfl, ⟨gv, v136_, [(⟨(ta + 1), m', n', v136_, (ll ++ [(⟨m', n'⟩ : RV)])⟩ : GN)], (ll ++ [(⟨m', n'⟩ : RV)]), rfl, rfl, (iPut_first c122_tp), (Or.inr ⟨_, _, _, rfl⟩), (fun h_ => by cases h_)⟩, S156_, H159_⟩
    refine AllR.cons ?_ AllR.nil
    refine A_op (ls' := #[true, true, true, true, false, true, true, false, false, false, false]) rfl (by kernel_rfl) (T_new (obj := .cells #[(Value.int .i64 m'), (Value.int .i64 n')] 58) (f := fun b__ => .slice (some ⟨b__, 0, none⟩) 1 1) (A := fun b__ => cl b__ 58 [(Value.int .i64 m'), (Value.int .i64 n')]) (by kernel_rfl) (fun l h => h.alloc _ _) H129_ ?_)
    intro b160_ w161_ S163_ H162_
    have S164_ := Same.trans (Same.trans S126_ (Same.drew _)) S163_
    refine ⟨⟨Holds.rd H162_ 2 rfl, (Holds.ro_at H162_ 1 rfl)⟩, ?_⟩
    refine A_ready (i := 4) (rs := []) (by kernel_rfl) ?_
    refine AllR.cons ?_ AllR.nil
    refine A_op (ls' := #[true, true, true, true, true, true, true, false, false, false, false]) rfl (by kernel_rfl) (T_val (v := lv) (x_load1 rfl Try.underlying80 rfl ((Holds.slrd H162_ 4 rfl) _ _ (fm_cell GN.len (gat _ _) (i := 3) rfl))) ?_)
    refine ⟨⟨Holds.rd H162_ 2 rfl, (Holds.ro_at H162_ 1 rfl)⟩, ?_⟩
    refine A_ready (i := 7) (rs := []) (by kernel_rfl) ?_
    refine AllR.cons ?_ AllR.nil
    refine A_op (ls' := #[true, true, true, true, true, true, true, true, false, false, false]) rfl (by kernel_rfl) (T_append rfl rfl Try.underlying80 z58 rfl (by decide) H162_ 5 rfl (Holds.cl_src H162_ 0 rfl Try.underlying80 (by simp [Value.oneCell']) rfl) (by first | omega | (simp only [List.length_append, List.length_cons, List.length_nil]; omega)) ?_)
    intro v165_ w166_ S168_ H167_
    have S169_ := Same.trans S164_ S168_
    refine ⟨⟨Holds.rd H167_ 2 rfl, (Holds.ro_at H167_ 1 rfl)⟩, ?_⟩
    have hq170_ := And.intro (Holds.rd H167_ 2 rfl) ((Holds.ro_at H167_ 1 rfl))
    refine A_tk 8 (v := (Value.pointer (some ⟨(sb gv), so gv + ((List.length N0) * 4 + 0), none⟩))) rfl (by kernel_rfl) (fun w hS => by kernel_rfl) hq170_ ?_
    refine A_tk 9 (v := (Value.pointer (some ⟨(sb gv), so gv + ((List.length N0) * 4 + 3), none⟩))) rfl (by kernel_rfl) (fun w hS => by kernel_rfl) hq170_ ?_
    refine A_ready (i := 10) (rs := []) (by kernel_rfl) ?_
    refine AllR.cons ?_ AllR.nil
    refine A_op0 (ls' := #[true, true, true, true, true, true, true, true, true, true, true]) rfl (by kernel_rfl) (T_storeSl (v := gv) (u := v165_) rfl rfl z80 (Holds.sl_one H167_ 5 rfl) H167_ 4 rfl (by first | omega | (rw [fm_len GN.len]; simp only [List.length_append, List.length_cons, List.length_nil]; omega)) rfl rfl ?_)
    intro w171_ S173_ H172_
    replace H172_ : Holds w171_ (cl b160_ 58 [(Value.int .i64 m'), (Value.int .i64 n')] :: ro R :: cl b2_ 58 [(Value.int .i64 m'), (Value.int .i64 n')] :: cl kb 104 [(Value.slice ka kl kc), (Value.int .i64 m), (Value.int .i64 n), gv] :: sl 106 4 gv (List.length N0 + 1) (List.set ((N0 ++ [(⟨ta, m', n', lv, ll⟩ : GN)]).flatMap GN.cells) ((List.length N0) * 4 + 3) v165_) :: sl 58 2 v165_ ((List.length ll) + 1) ((ll.flatMap RV.cells) ++ [(Value.int .i64 m'), (Value.int .i64 n')]) :: F) := H172_
    have S174_ := Same.trans S169_ S173_
    have H175_ := Holds.resl H172_ 4 rfl (gset rfl : List.set ((N0 ++ [(⟨ta, m', n', lv, ll⟩ : GN)]).flatMap GN.cells) ((List.length N0) * 4 + 3) v165_ = (N0 ++ [(⟨ta, m', n', v165_, (ll ++ [(⟨m', n'⟩ : RV)])⟩ : GN)]).flatMap GN.cells) (rfl : (List.length N0 + 1) = (List.length N0 + 1))
    refine ⟨⟨Holds.rd H175_ 2 rfl, (Holds.ro_at H175_ 1 rfl)⟩, ?_⟩
    refine A_done (by kernel_rfl) ?_
    refine (X_then (hK128_ _ _ ?_))
    clear hK128_
    refine C_seq (fun K176_ hK176_ => ?_)
    refine C_reg ?_
    refine S_list (T_val (v := (Value.pointer (some ⟨(sb gv), so gv + ((List.length N0) * 4 + 0), none⟩))) (x_move rfl) ?_)
    refine S_list (T_val (v := (Value.pointer (some ⟨(sb gv), so gv + ((List.length N0) * 4 + 0), none⟩))) (by kernel_rfl) ?_)
    refine S_list (T_val (v := (Value.pointer (some ⟨(sb gv), so gv + ((List.length N0) * 4 + 0), none⟩))) (by kernel_rfl) ?_)
    refine S_list (T_val (v := (Value.int .i64 ta)) (x_load1 rfl Try.underlying2 rfl ((Holds.slrd H175_ 4 rfl) _ _ (fm_cell GN.len (gat _ _) (i := 0) rfl))) ?_)
    refine S_list (T_val (v := (Value.int .i64 (ta + 1))) (x_bin rfl rfl (ib_add (IntWalk.i64_in _ (by omega)))) ?_)
    refine S_list (T_val (v := (Value.pointer (some ⟨(sb gv), so gv + ((List.length N0) * 4 + 0), none⟩))) (by kernel_rfl) ?_)
    refine S_list (T_val (v := (Value.pointer (some ⟨(sb gv), so gv + ((List.length N0) * 4 + 0), none⟩))) (by kernel_rfl) ?_)
    refine S_list0 (T_storeSl (v := gv) (u := (Value.int .i64 (ta + 1))) rfl rfl z2 rfl H175_ 4 rfl (by first | omega | (rw [fm_len GN.len]; simp only [List.length_append, List.length_cons, List.length_nil]; omega)) rfl rfl ?_)
    intro w177_ S179_ H178_
    have S180_ := Same.trans S174_ S179_
    have H181_ := Holds.resl H178_ 4 rfl (gset rfl : List.set ((N0 ++ [(⟨ta, m', n', v165_, (ll ++ [(⟨m', n'⟩ : RV)])⟩ : GN)]).flatMap GN.cells) ((List.length N0) * 4 + 0) (Value.int .i64 (ta + 1)) = (N0 ++ [(⟨(ta + 1), m', n', v165_, (ll ++ [(⟨m', n'⟩ : RV)])⟩ : GN)]).flatMap GN.cells) (rfl : (List.length N0 + 1) = (List.length N0 + 1))
    refine wpList_nil ?_
    refine (X_then (hK176_ _ _ ?_))
    clear hK176_
    refine C_reg ?_
    refine S_list (T_val (v := (Value.pointer (some ⟨kb, 0, none⟩))) (x_move rfl) ?_)
    refine S_list (T_val (v := (Value.agg #[(Value.int .i64 m'), (Value.int .i64 n')])) (x_loadN (vs := [(Value.int .i64 m'), (Value.int .i64 n')]) rfl Try.underlying58 rfl z58 rfl (Rd.cells (Holds.rd H181_ 2 rfl) 0 rfl)) ?_)
    refine S_list (T_val (v := (Value.pointer (some ⟨kb, 0, none⟩))) (by kernel_rfl) ?_)
    refine S_list (T_val (v := (Value.pointer (some ⟨kb, 1, none⟩))) (by kernel_rfl) ?_)
    refine S_list0 (T_storeN (vs := [(Value.int .i64 m'), (Value.int .i64 n')]) rfl rfl z58 rfl (by simp [Value.oneCell']) H181_ 3 rfl (Nat.le_of_ble_eq_true (by rfl)) ?_)
    intro w182_ S184_ H183_
    have S185_ := Same.trans S180_ S184_
    refine wpList_nil ?_
    refine R_0 rfl ?_
    have H186_ := Holds.resl H183_ 4 rfl ((by first | rfl | (simp [RV.cells, GN.cells]; done) | (simp; omega)) : (N0 ++ [(⟨(ta + 1), m', n', v165_, (ll ++ [(⟨m', n'⟩ : RV)])⟩ : GN)]).flatMap GN.cells = (N0 ++ [(⟨(ta + 1), m', n', v165_, (ll ++ [(⟨m', n'⟩ : RV)])⟩ : GN)]).flatMap GN.cells) ((by first | rfl | (simp [RV.cells, GN.cells]; done) | (simp; omega)) : (List.length N0 + 1) = (List.length (N0 ++ [(⟨(ta + 1), m', n', v165_, (ll ++ [(⟨m', n'⟩ : RV)])⟩ : GN)])))
    have H187_ := Holds.resl H186_ 5 rfl ((by first | rfl | (simp [RV.cells, GN.cells]; done) | (simp; omega)) : (ll.flatMap RV.cells) ++ [(Value.int .i64 m'), (Value.int .i64 n')] = (ll ++ [(⟨m', n'⟩ : RV)]).flatMap RV.cells) ((by first | rfl | (simp [RV.cells, GN.cells]; done) | (simp; omega)) : (List.length ll) + 1 = (List.length (ll ++ [(⟨m', n'⟩ : RV)])))
    have H188_ : Holds w182_ (ro R :: cl kb 104 [(Value.slice ka kl kc), (Value.int .i64 m'), (Value.int .i64 n'), gv] :: sl 106 4 gv (List.length (N0 ++ [(⟨(ta + 1), m', n', v165_, (ll ++ [(⟨m', n'⟩ : RV)])⟩ : GN)])) ((N0 ++ [(⟨(ta + 1), m', n', v165_, (ll ++ [(⟨m', n'⟩ : RV)])⟩ : GN)]).flatMap GN.cells) :: sl 58 2 v165_ (List.length (ll ++ [(⟨m', n'⟩ : RV)])) ((ll ++ [(⟨m', n'⟩ : RV)]).flatMap RV.cells) :: F) := (Holds.pkF H187_ [1, 2, 2, 2] 2 :)
    exact ⟨_, _, rfl, ⟨gv, v165_, [(⟨(ta + 1), m', n', v165_, (ll ++ [(⟨m', n'⟩ : RV)])⟩ : GN)], (ll ++ [(⟨m', n'⟩ : RV)]), rfl, rfl, (iPut_first c122_tp), (Or.inr ⟨_, _, _, rfl⟩), (fun h_ => by cases h_)⟩, S185_, H188_⟩
   ·have c122_fp : ¬ (((List.length ll) : Int) = 0) := of_decide_eq_false c122_f
    refine C_skip (X_then (hK120_ _ _ ?_))
    clear hK120_
    refine C_seq (fun K189_ hK189_ => ?_)
    refine A_start (S := fun w => Rd b2_ [(Value.int .i64 m'), (Value.int .i64 n')] w ∧ Sub R (hp w)) (N := 11) foll rfl rfl ?_
    have H190_ := Holds.drew_ H117_
    have hq191_ := And.intro (Holds.rd H190_ 1 rfl) ((Holds.ro_at H190_ 0 rfl))
    refine A_tk 0 (v := (Value.pointer (some ⟨(sb gv), so gv + ((List.length N0) * 4 + 0), none⟩))) rfl (by kernel_rfl) (fun w hS => x_move rfl) hq191_ ?_
    refine A_tk 1 (v := (Value.pointer (some ⟨(sb gv), so gv + ((List.length N0) * 4 + 0), none⟩))) rfl (by kernel_rfl) (fun w hS => x_move rfl) hq191_ ?_
    refine A_tk 2 (v := (Value.pointer (some ⟨(sb gv), so gv + ((List.length N0) * 4 + 0), none⟩))) rfl (by kernel_rfl) (fun w hS => by kernel_rfl) hq191_ ?_
    refine A_tk 3 (v := (Value.pointer (some ⟨(sb gv), so gv + ((List.length N0) * 4 + 3), none⟩))) rfl (by kernel_rfl) (fun w hS => by kernel_rfl) hq191_ ?_
    refine A_tk 5 (v := (Value.agg #[(Value.int .i64 m'), (Value.int .i64 n')])) rfl (by kernel_rfl) (fun w hS => x_loadN (vs := [(Value.int .i64 m'), (Value.int .i64 n')]) rfl Try.underlying58 rfl z58 rfl (Rd.cells hS.1 0 rfl)) hq191_ ?_
    refine A_ready (i := 4) (rs := [6]) (by kernel_rfl) ?_
    refine AllR.cons ?_ ?_
    ·skip
     refine A_op (ls' := #[true, true, true, true, true, true, false, false, false, false, false]) rfl (by kernel_rfl) (T_val (v := lv) (x_load1 rfl Try.underlying80 rfl ((Holds.slrd H190_ 3 rfl) _ _ (fm_cell GN.len (gat _ _) (i := 3) rfl))) ?_)
     refine ⟨⟨Holds.rd H190_ 1 rfl, (Holds.ro_at H190_ 0 rfl)⟩, ?_⟩
     refine A_ready (i := 6) (rs := []) (by kernel_rfl) ?_
     refine AllR.cons ?_ AllR.nil
     refine A_op (ls' := #[true, true, true, true, true, true, true, false, false, false, false]) rfl (by kernel_rfl) (T_new (obj := .cells #[(Value.int .i64 m'), (Value.int .i64 n')] 58) (f := fun b__ => .slice (some ⟨b__, 0, none⟩) 1 1) (A := fun b__ => cl b__ 58 [(Value.int .i64 m'), (Value.int .i64 n')]) (by kernel_rfl) (fun l h => h.alloc _ _) H190_ ?_)
     intro b192_ w193_ S195_ H194_
     replace H194_ : Holds w193_ (cl b192_ 58 [(Value.int .i64 m'), (Value.int .i64 n')] :: ro R :: cl b2_ 58 [(Value.int .i64 m'), (Value.int .i64 n')] :: cl kb 104 [(Value.slice ka kl kc), (Value.int .i64 m), (Value.int .i64 n), gv] :: sl 106 4 gv (List.length N0 + 1) ((N0 ++ [(⟨ta, tb, tc, lv, ll⟩ : GN)]).flatMap GN.cells) :: sl 58 2 lv (List.length ll) (ll.flatMap RV.cells) :: F) := H194_
     have S196_ := Same.trans (Same.trans (Same.trans S21_ (Same.drew _)) (Same.drew _)) S195_
     refine ⟨⟨Holds.rd H194_ 2 rfl, (Holds.ro_at H194_ 1 rfl)⟩, ?_⟩
     refine A_ready (i := 7) (rs := []) (by kernel_rfl) ?_
     refine AllR.cons ?_ AllR.nil
     refine A_op (ls' := #[true, true, true, true, true, true, true, true, false, false, false]) rfl (by kernel_rfl) (T_append rfl rfl Try.underlying80 z58 rfl (by decide) H194_ 5 rfl (Holds.cl_src H194_ 0 rfl Try.underlying80 (by simp [Value.oneCell']) rfl) (by first | omega | (simp only [List.length_append, List.length_cons, List.length_nil]; omega)) ?_)
     intro v197_ w198_ S200_ H199_
     have S201_ := Same.trans S196_ S200_
     refine ⟨⟨Holds.rd H199_ 2 rfl, (Holds.ro_at H199_ 1 rfl)⟩, ?_⟩
     have hq202_ := And.intro (Holds.rd H199_ 2 rfl) ((Holds.ro_at H199_ 1 rfl))
     refine A_tk 8 (v := (Value.pointer (some ⟨(sb gv), so gv + ((List.length N0) * 4 + 0), none⟩))) rfl (by kernel_rfl) (fun w hS => by kernel_rfl) hq202_ ?_
     refine A_tk 9 (v := (Value.pointer (some ⟨(sb gv), so gv + ((List.length N0) * 4 + 3), none⟩))) rfl (by kernel_rfl) (fun w hS => by kernel_rfl) hq202_ ?_
     refine A_ready (i := 10) (rs := []) (by kernel_rfl) ?_
     refine AllR.cons ?_ AllR.nil
     refine A_op0 (ls' := #[true, true, true, true, true, true, true, true, true, true, true]) rfl (by kernel_rfl) (T_storeSl (v := gv) (u := v197_) rfl rfl z80 (Holds.sl_one H199_ 5 rfl) H199_ 4 rfl (by first | omega | (rw [fm_len GN.len]; simp only [List.length_append, List.length_cons, List.length_nil]; omega)) rfl rfl ?_)
     intro w203_ S205_ H204_
     have S206_ := Same.trans S201_ S205_
     have H207_ := Holds.resl H204_ 4 rfl (gset rfl : List.set ((N0 ++ [(⟨ta, tb, tc, lv, ll⟩ : GN)]).flatMap GN.cells) ((List.length N0) * 4 + 3) v197_ = (N0 ++ [(⟨ta, tb, tc, v197_, (ll ++ [(⟨m', n'⟩ : RV)])⟩ : GN)]).flatMap GN.cells) (rfl : (List.length N0 + 1) = (List.length N0 + 1))
     refine ⟨⟨Holds.rd H207_ 2 rfl, (Holds.ro_at H207_ 1 rfl)⟩, ?_⟩
     refine A_done (by kernel_rfl) ?_
     refine (X_then (hK189_ _ _ ?_))
     clear hK189_
     refine C_seq (fun K208_ hK208_ => ?_)
     refine C_reg ?_
     refine S_list (T_val (v := (Value.pointer (some ⟨(sb gv), so gv + ((List.length N0) * 4 + 0), none⟩))) (x_move rfl) ?_)
     refine S_list (T_val (v := (Value.pointer (some ⟨(sb gv), so gv + ((List.length N0) * 4 + 0), none⟩))) (by kernel_rfl) ?_)
     refine S_list (T_val (v := (Value.pointer (some ⟨(sb gv), so gv + ((List.length N0) * 4 + 0), none⟩))) (by kernel_rfl) ?_)
     refine S_list (T_val (v := (Value.int .i64 ta)) (x_load1 rfl Try.underlying2 rfl ((Holds.slrd H207_ 4 rfl) _ _ (fm_cell GN.len (gat _ _) (i := 0) rfl))) ?_)
     refine S_list (T_val (v := (Value.int .i64 (ta + 1))) (x_bin rfl rfl (ib_add (IntWalk.i64_in _ (by omega)))) ?_)
     refine S_list (T_val (v := (Value.pointer (some ⟨(sb gv), so gv + ((List.length N0) * 4 + 0), none⟩))) (by kernel_rfl) ?_)
     refine S_list (T_val (v := (Value.pointer (some ⟨(sb gv), so gv + ((List.length N0) * 4 + 0), none⟩))) (by kernel_rfl) ?_)
     refine S_list0 (T_storeSl (v := gv) (u := (Value.int .i64 (ta + 1))) rfl rfl z2 rfl H207_ 4 rfl (by first | omega | (rw [fm_len GN.len]; simp only [List.length_append, List.length_cons, List.length_nil]; omega)) rfl rfl ?_)
     intro w209_ S211_ H210_
     replace H210_ : Holds w209_ (cl b192_ 58 [(Value.int .i64 m'), (Value.int .i64 n')] :: ro R :: cl b2_ 58 [(Value.int .i64 m'), (Value.int .i64 n')] :: cl kb 104 [(Value.slice ka kl kc), (Value.int .i64 m), (Value.int .i64 n), gv] :: sl 106 4 gv (List.length N0 + 1) (List.set ((N0 ++ [(⟨ta, tb, tc, v197_, (ll ++ [(⟨m', n'⟩ : RV)])⟩ : GN)]).flatMap GN.cells) ((List.length N0) * 4 + 0) (Value.int .i64 (ta + 1))) :: sl 58 2 v197_ ((List.length ll) + 1) ((ll.flatMap RV.cells) ++ [(Value.int .i64 m'), (Value.int .i64 n')]) :: F) := H210_
     have S212_ := Same.trans S206_ S211_
     have H213_ := Holds.resl H210_ 4 rfl (gset rfl : List.set ((N0 ++ [(⟨ta, tb, tc, v197_, (ll ++ [(⟨m', n'⟩ : RV)])⟩ : GN)]).flatMap GN.cells) ((List.length N0) * 4 + 0) (Value.int .i64 (ta + 1)) = (N0 ++ [(⟨(ta + 1), tb, tc, v197_, (ll ++ [(⟨m', n'⟩ : RV)])⟩ : GN)]).flatMap GN.cells) (rfl : (List.length N0 + 1) = (List.length N0 + 1))
     refine wpList_nil ?_
     refine (X_then (hK208_ _ _ ?_))
     clear hK208_
     refine C_reg ?_
     refine S_list (T_val (v := (Value.pointer (some ⟨kb, 0, none⟩))) (x_move rfl) ?_)
     refine S_list (T_val (v := (Value.agg #[(Value.int .i64 m'), (Value.int .i64 n')])) (x_loadN (vs := [(Value.int .i64 m'), (Value.int .i64 n')]) rfl Try.underlying58 rfl z58 rfl (Rd.cells (Holds.rd H213_ 2 rfl) 0 rfl)) ?_)
     refine S_list (T_val (v := (Value.pointer (some ⟨kb, 0, none⟩))) (by kernel_rfl) ?_)
     refine S_list (T_val (v := (Value.pointer (some ⟨kb, 1, none⟩))) (by kernel_rfl) ?_)
     refine S_list0 (T_storeN (vs := [(Value.int .i64 m'), (Value.int .i64 n')]) rfl rfl z58 rfl (by simp [Value.oneCell']) H213_ 3 rfl (Nat.le_of_ble_eq_true (by rfl)) ?_)
     intro w214_ S216_ H215_
     have S217_ := Same.trans S212_ S216_
     refine wpList_nil ?_
     refine R_0 rfl ?_
     have H218_ := Holds.resl H215_ 4 rfl ((by first | rfl | (simp [RV.cells, GN.cells]; done) | (simp; omega)) : (N0 ++ [(⟨(ta + 1), tb, tc, v197_, (ll ++ [(⟨m', n'⟩ : RV)])⟩ : GN)]).flatMap GN.cells = (N0 ++ [(⟨(ta + 1), tb, tc, v197_, (ll ++ [(⟨m', n'⟩ : RV)])⟩ : GN)]).flatMap GN.cells) ((by first | rfl | (simp [RV.cells, GN.cells]; done) | (simp; omega)) : (List.length N0 + 1) = (List.length (N0 ++ [(⟨(ta + 1), tb, tc, v197_, (ll ++ [(⟨m', n'⟩ : RV)])⟩ : GN)])))
     have H219_ := Holds.resl H218_ 5 rfl ((by first | rfl | (simp [RV.cells, GN.cells]; done) | (simp; omega)) : (ll.flatMap RV.cells) ++ [(Value.int .i64 m'), (Value.int .i64 n')] = (ll ++ [(⟨m', n'⟩ : RV)]).flatMap RV.cells) ((by first | rfl | (simp [RV.cells, GN.cells]; done) | (simp; omega)) : (List.length ll) + 1 = (List.length (ll ++ [(⟨m', n'⟩ : RV)])))
     have H220_ : Holds w214_ (ro R :: cl kb 104 [(Value.slice ka kl kc), (Value.int .i64 m'), (Value.int .i64 n'), gv] :: sl 106 4 gv (List.length (N0 ++ [(⟨(ta + 1), tb, tc, v197_, (ll ++ [(⟨m', n'⟩ : RV)])⟩ : GN)])) ((N0 ++ [(⟨(ta + 1), tb, tc, v197_, (ll ++ [(⟨m', n'⟩ : RV)])⟩ : GN)]).flatMap GN.cells) :: sl 58 2 v197_ (List.length (ll ++ [(⟨m', n'⟩ : RV)])) ((ll ++ [(⟨m', n'⟩ : RV)]).flatMap RV.cells) :: F) := (Holds.pkF H219_ [1, 2, 2, 2] 2 :)
     exact ⟨_, _, rfl, ⟨gv, v197_, [(⟨(ta + 1), tb, tc, v197_, (ll ++ [(⟨m', n'⟩ : RV)])⟩ : GN)], (ll ++ [(⟨m', n'⟩ : RV)]), rfl, rfl, (iPut_old c122_fp), (Or.inr ⟨_, _, _, rfl⟩), (fun h_ => by cases h_)⟩, S217_, H220_⟩
    refine AllR.cons ?_ AllR.nil
    refine A_op (ls' := #[true, true, true, true, false, true, true, false, false, false, false]) rfl (by kernel_rfl) (T_new (obj := .cells #[(Value.int .i64 m'), (Value.int .i64 n')] 58) (f := fun b__ => .slice (some ⟨b__, 0, none⟩) 1 1) (A := fun b__ => cl b__ 58 [(Value.int .i64 m'), (Value.int .i64 n')]) (by kernel_rfl) (fun l h => h.alloc _ _) H190_ ?_)
    intro b221_ w222_ S224_ H223_
    have S225_ := Same.trans (Same.trans (Same.trans S21_ (Same.drew _)) (Same.drew _)) S224_
    refine ⟨⟨Holds.rd H223_ 2 rfl, (Holds.ro_at H223_ 1 rfl)⟩, ?_⟩
    refine A_ready (i := 4) (rs := []) (by kernel_rfl) ?_
    refine AllR.cons ?_ AllR.nil
    refine A_op (ls' := #[true, true, true, true, true, true, true, false, false, false, false]) rfl (by kernel_rfl) (T_val (v := lv) (x_load1 rfl Try.underlying80 rfl ((Holds.slrd H223_ 4 rfl) _ _ (fm_cell GN.len (gat _ _) (i := 3) rfl))) ?_)
    refine ⟨⟨Holds.rd H223_ 2 rfl, (Holds.ro_at H223_ 1 rfl)⟩, ?_⟩
    refine A_ready (i := 7) (rs := []) (by kernel_rfl) ?_
    refine AllR.cons ?_ AllR.nil
    refine A_op (ls' := #[true, true, true, true, true, true, true, true, false, false, false]) rfl (by kernel_rfl) (T_append rfl rfl Try.underlying80 z58 rfl (by decide) H223_ 5 rfl (Holds.cl_src H223_ 0 rfl Try.underlying80 (by simp [Value.oneCell']) rfl) (by first | omega | (simp only [List.length_append, List.length_cons, List.length_nil]; omega)) ?_)
    intro v226_ w227_ S229_ H228_
    have S230_ := Same.trans S225_ S229_
    refine ⟨⟨Holds.rd H228_ 2 rfl, (Holds.ro_at H228_ 1 rfl)⟩, ?_⟩
    have hq231_ := And.intro (Holds.rd H228_ 2 rfl) ((Holds.ro_at H228_ 1 rfl))
    refine A_tk 8 (v := (Value.pointer (some ⟨(sb gv), so gv + ((List.length N0) * 4 + 0), none⟩))) rfl (by kernel_rfl) (fun w hS => by kernel_rfl) hq231_ ?_
    refine A_tk 9 (v := (Value.pointer (some ⟨(sb gv), so gv + ((List.length N0) * 4 + 3), none⟩))) rfl (by kernel_rfl) (fun w hS => by kernel_rfl) hq231_ ?_
    refine A_ready (i := 10) (rs := []) (by kernel_rfl) ?_
    refine AllR.cons ?_ AllR.nil
    refine A_op0 (ls' := #[true, true, true, true, true, true, true, true, true, true, true]) rfl (by kernel_rfl) (T_storeSl (v := gv) (u := v226_) rfl rfl z80 (Holds.sl_one H228_ 5 rfl) H228_ 4 rfl (by first | omega | (rw [fm_len GN.len]; simp only [List.length_append, List.length_cons, List.length_nil]; omega)) rfl rfl ?_)
    intro w232_ S234_ H233_
    replace H233_ : Holds w232_ (cl b221_ 58 [(Value.int .i64 m'), (Value.int .i64 n')] :: ro R :: cl b2_ 58 [(Value.int .i64 m'), (Value.int .i64 n')] :: cl kb 104 [(Value.slice ka kl kc), (Value.int .i64 m), (Value.int .i64 n), gv] :: sl 106 4 gv (List.length N0 + 1) (List.set ((N0 ++ [(⟨ta, tb, tc, lv, ll⟩ : GN)]).flatMap GN.cells) ((List.length N0) * 4 + 3) v226_) :: sl 58 2 v226_ ((List.length ll) + 1) ((ll.flatMap RV.cells) ++ [(Value.int .i64 m'), (Value.int .i64 n')]) :: F) := H233_
    have S235_ := Same.trans S230_ S234_
    have H236_ := Holds.resl H233_ 4 rfl (gset rfl : List.set ((N0 ++ [(⟨ta, tb, tc, lv, ll⟩ : GN)]).flatMap GN.cells) ((List.length N0) * 4 + 3) v226_ = (N0 ++ [(⟨ta, tb, tc, v226_, (ll ++ [(⟨m', n'⟩ : RV)])⟩ : GN)]).flatMap GN.cells) (rfl : (List.length N0 + 1) = (List.length N0 + 1))
    refine ⟨⟨Holds.rd H236_ 2 rfl, (Holds.ro_at H236_ 1 rfl)⟩, ?_⟩
    refine A_done (by kernel_rfl) ?_
    refine (X_then (hK189_ _ _ ?_))
    clear hK189_
    refine C_seq (fun K237_ hK237_ => ?_)
    refine C_reg ?_
    refine S_list (T_val (v := (Value.pointer (some ⟨(sb gv), so gv + ((List.length N0) * 4 + 0), none⟩))) (x_move rfl) ?_)
    refine S_list (T_val (v := (Value.pointer (some ⟨(sb gv), so gv + ((List.length N0) * 4 + 0), none⟩))) (by kernel_rfl) ?_)
    refine S_list (T_val (v := (Value.pointer (some ⟨(sb gv), so gv + ((List.length N0) * 4 + 0), none⟩))) (by kernel_rfl) ?_)
    refine S_list (T_val (v := (Value.int .i64 ta)) (x_load1 rfl Try.underlying2 rfl ((Holds.slrd H236_ 4 rfl) _ _ (fm_cell GN.len (gat _ _) (i := 0) rfl))) ?_)
    refine S_list (T_val (v := (Value.int .i64 (ta + 1))) (x_bin rfl rfl (ib_add (IntWalk.i64_in _ (by omega)))) ?_)
    refine S_list (T_val (v := (Value.pointer (some ⟨(sb gv), so gv + ((List.length N0) * 4 + 0), none⟩))) (by kernel_rfl) ?_)
    refine S_list (T_val (v := (Value.pointer (some ⟨(sb gv), so gv + ((List.length N0) * 4 + 0), none⟩))) (by kernel_rfl) ?_)
    refine S_list0 (T_storeSl (v := gv) (u := (Value.int .i64 (ta + 1))) rfl rfl z2 rfl H236_ 4 rfl (by first | omega | (rw [fm_len GN.len]; simp only [List.length_append, List.length_cons, List.length_nil]; omega)) rfl rfl ?_)
    intro w238_ S240_ H239_
    have S241_ := Same.trans S235_ S240_
    have H242_ := Holds.resl H239_ 4 rfl (gset rfl : List.set ((N0 ++ [(⟨ta, tb, tc, v226_, (ll ++ [(⟨m', n'⟩ : RV)])⟩ : GN)]).flatMap GN.cells) ((List.length N0) * 4 + 0) (Value.int .i64 (ta + 1)) = (N0 ++ [(⟨(ta + 1), tb, tc, v226_, (ll ++ [(⟨m', n'⟩ : RV)])⟩ : GN)]).flatMap GN.cells) (rfl : (List.length N0 + 1) = (List.length N0 + 1))
    refine wpList_nil ?_
    refine (X_then (hK237_ _ _ ?_))
    clear hK237_
    refine C_reg ?_
    refine S_list (T_val (v := (Value.pointer (some ⟨kb, 0, none⟩))) (x_move rfl) ?_)
    refine S_list (T_val (v := (Value.agg #[(Value.int .i64 m'), (Value.int .i64 n')])) (x_loadN (vs := [(Value.int .i64 m'), (Value.int .i64 n')]) rfl Try.underlying58 rfl z58 rfl (Rd.cells (Holds.rd H242_ 2 rfl) 0 rfl)) ?_)
    refine S_list (T_val (v := (Value.pointer (some ⟨kb, 0, none⟩))) (by kernel_rfl) ?_)
    refine S_list (T_val (v := (Value.pointer (some ⟨kb, 1, none⟩))) (by kernel_rfl) ?_)
    refine S_list0 (T_storeN (vs := [(Value.int .i64 m'), (Value.int .i64 n')]) rfl rfl z58 rfl (by simp [Value.oneCell']) H242_ 3 rfl (Nat.le_of_ble_eq_true (by rfl)) ?_)
    intro w243_ S245_ H244_
    have S246_ := Same.trans S241_ S245_
    refine wpList_nil ?_
    refine R_0 rfl ?_
    have H247_ := Holds.resl H244_ 4 rfl ((by first | rfl | (simp [RV.cells, GN.cells]; done) | (simp; omega)) : (N0 ++ [(⟨(ta + 1), tb, tc, v226_, (ll ++ [(⟨m', n'⟩ : RV)])⟩ : GN)]).flatMap GN.cells = (N0 ++ [(⟨(ta + 1), tb, tc, v226_, (ll ++ [(⟨m', n'⟩ : RV)])⟩ : GN)]).flatMap GN.cells) ((by first | rfl | (simp [RV.cells, GN.cells]; done) | (simp; omega)) : (List.length N0 + 1) = (List.length (N0 ++ [(⟨(ta + 1), tb, tc, v226_, (ll ++ [(⟨m', n'⟩ : RV)])⟩ : GN)])))
    have H248_ := Holds.resl H247_ 5 rfl ((by first | rfl | (simp [RV.cells, GN.cells]; done) | (simp; omega)) : (ll.flatMap RV.cells) ++ [(Value.int .i64 m'), (Value.int .i64 n')] = (ll ++ [(⟨m', n'⟩ : RV)]).flatMap RV.cells) ((by first | rfl | (simp [RV.cells, GN.cells]; done) | (simp; omega)) : (List.length ll) + 1 = (List.length (ll ++ [(⟨m', n'⟩ : RV)])))
    have H249_ : Holds w243_ (ro R :: cl kb 104 [(Value.slice ka kl kc), (Value.int .i64 m'), (Value.int .i64 n'), gv] :: sl 106 4 gv (List.length (N0 ++ [(⟨(ta + 1), tb, tc, v226_, (ll ++ [(⟨m', n'⟩ : RV)])⟩ : GN)])) ((N0 ++ [(⟨(ta + 1), tb, tc, v226_, (ll ++ [(⟨m', n'⟩ : RV)])⟩ : GN)]).flatMap GN.cells) :: sl 58 2 v226_ (List.length (ll ++ [(⟨m', n'⟩ : RV)])) ((ll ++ [(⟨m', n'⟩ : RV)]).flatMap RV.cells) :: F) := (Holds.pkF H248_ [1, 2, 2, 2] 2 :)
    exact ⟨_, _, rfl, ⟨gv, v226_, [(⟨(ta + 1), tb, tc, v226_, (ll ++ [(⟨m', n'⟩ : RV)])⟩ : GN)], (ll ++ [(⟨m', n'⟩ : RV)]), rfl, rfl, (iPut_old c122_fp), (Or.inr ⟨_, _, _, rfl⟩), (fun h_ => by cases h_)⟩, S246_, H249_⟩
end Go.Proofs.Ytiblemgccgbhoaa
