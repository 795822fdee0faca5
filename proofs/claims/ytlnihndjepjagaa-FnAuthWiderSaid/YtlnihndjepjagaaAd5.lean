/- Words, and proved steps, on which the proof leans. -/
import Derived.Lib.Bytealg
import Derived.Test.YtlnihndjepjagaaAd4
set_option linter.unusedVariables false
set_option linter.unusedSimpArgs false
namespace Go.Proofs.Ytlnihndjepjagaa
open Go Go.RowKit Gw
open Go.Value renaming int → vI, bool → vB, slice → vS, pointer → vP, agg → vA, tuple → vT

section
variable {n : Nat} {e : Env} {w : World} {d : Option Nat} {ty : TypeId} {pos : String} {af : Array Edge} {g : Option (Nat × Bool)}
theorem run_buildIv (t t' : TypeId) (x x' : Value) (w : World) : (Instr.build 111 #[(0, .iface t x), (1, .iface t' x')]).run Try.prog w = .ok (.agg #[.iface t x, .iface t' x']) w := by kernel_rfl
theorem x_buildIv {R : HP} {x y : Operand} {u v u' v' : Value} {c c' : Int} (hx : ev n e x = u) (hy : ev n e y = v) (hu : Cmps R u u' c) (hv : Cmps R v v' c') :
    (execOp (ev n e) ⟨d, .build 111 #[(0, x), (1, y)], ty, pos, af, g⟩).run Try.prog w = .ok (.value (.agg #[u, v])) w := by
  obtain ⟨t, xv, _, rfl, _⟩ := hu
  obtain ⟨t', xv', _, rfl, _⟩ := hv
  have h1 : (#[(0, x), (1, y)] : Array (Nat × Operand)).map (fun (i, z) => (i, ev n e z)) = #[(0, .iface t xv), (1, .iface t' xv')] := by simp [hx, hy]
  simp only [execOp]
  rw [h1]
  exact run_v _ (run_buildIv _ _ _ _ _)
end

set_option maxHeartbeats 1600000 in
theorem itCmp1 (R : HP) (K : Type) (O : KO K) (ib : Nat) (n : ND K) (l r p : Nat) (mb me : Value) (kb ke : K) (hb : O.Val R mb kb) (he : O.Val R me ke) (hn : NOk O R n) :
    Tri Try.prog 163 #[(vQ ib), (Value.iface 290 (vQ n.a))] R [cl ib 111 [mb, me], clf n.a 185 [n.b, n.e, n.v, n.mx, (vQ l), (vQ r), (vQ p), (vI .i64 n.c)]] (fun v__ post__ => v__ = (vI .i64 (icmp O kb ke n.kb n.ke)) ∧ post__ = [cl ib 111 [mb, me], clf n.a 185 [n.b, n.e, n.v, n.mx, (vQ l), (vQ r), (vQ p), (vI .i64 n.c)]]) := by
 refine Tri.into (n := 52) (al := [(vQ ib), (Value.iface 290 (vQ n.a))]) Try.func163 rfl Try.ntmps163 rfl rfl fun w F H => ?_
 refine C_seq (fun K1_ hK1_ => C_reg ?_)
 refine sv (v := (vI .i64 0)) (x_assign rfl) ?_
 refine wpList_nil (X_then (hK1_ _ _ ?_))
 clear hK1_
 refine C_seq (fun K2_ hK2_ => C_reg ?_)
 refine sv (v := (Value.iface 290 (vQ n.a))) (x_move rfl) ?_
 refine sv (v := (vQ n.a)) (by kernel_rfl) ?_
 refine sv (v := (vQ n.a)) (x_assign rfl) ?_
 refine wpList_nil (X_then (hK2_ _ _ ?_))
 clear hK2_
 refine C_seq (fun K3_ hK3_ => ?_)
 refine A_start (S := fun w => Rd ib [mb, me] w ∧ (Rd n.a [n.b, n.e, n.v, n.mx, (vQ l), (vQ r), (vQ p), (vI .i64 n.c)] w ∧ Blk w n.a) ∧ Sub R (hp w)) (N := 12) foll rfl rfl ?_
 have H4_ := Holds.drew_ H
 have hq5_ := And.intro (Holds.rd H4_ 1 rfl) (And.intro ((And.intro (Holds.rdf H4_ 2 rfl) (Holds.blk H4_ 2 rfl))) ((Holds.ro_at H4_ 0 rfl)))
 refine A_tk 0 (v := (vQ ib)) rfl (by kernel_rfl) (fun w hS => x_move rfl) hq5_ ?_
 refine A_tk 1 (v := (vQ ib)) rfl (by kernel_rfl) (fun w hS => by kernel_rfl) hq5_ ?_
 refine A_tk 2 (v := (vQ ib)) rfl (by kernel_rfl) (fun w hS => by kernel_rfl) hq5_ ?_
 refine A_tk 3 (v := mb) rfl (by kernel_rfl) (fun w hS => x_load1 rfl Try.underlying109 rfl (hS.1 0 mb rfl)) hq5_ ?_
 refine A_tk 4 (v := (vQ n.a)) rfl (by kernel_rfl) (fun w hS => x_move rfl) hq5_ ?_
 refine A_tk 5 (v := (vQ n.a)) rfl (by kernel_rfl) (fun w hS => by kernel_rfl) hq5_ ?_
 refine A_tk 6 (v := (vQ n.a)) rfl (by kernel_rfl) (fun w hS => by kernel_rfl) hq5_ ?_
 refine A_tk 7 (v := n.b) rfl (by kernel_rfl) (fun w hS => x_load1 rfl Try.underlying109 rfl (hS.2.1.1 0 n.b rfl)) hq5_ ?_
 refine A_tk 8 (v := mb) rfl (by kernel_rfl) (fun w hS => x_nilV rfl (O.cmp hb hb)) hq5_ ?_
 refine A_tk 9 (v := mb) rfl (by kernel_rfl) (fun w hS => x_move rfl) hq5_ ?_
 refine A_ready (i := 10) (rs := []) (by kernel_rfl) ?_
 refine AllR.cons ?_ AllR.nil
 refine A_op (ls' := #[true, true, true, true, true, true, true, true, true, true, true, false]) rfl (by kernel_rfl) (T_cmp rfl rfl (O.cmp hb hn.b) H4_ 0 rfl ?_)
 intro w6_ S8_ H7_
 have S9_ := Same.trans (Same.trans (Same.refl w) (Same.drew _)) S8_
 refine ⟨⟨Holds.rd H7_ 1 rfl, (And.intro (Holds.rdf H7_ 2 rfl) (Holds.blk H7_ 2 rfl)), (Holds.ro_at H7_ 0 rfl)⟩, ?_⟩
 have hq10_ := And.intro (Holds.rd H7_ 1 rfl) (And.intro ((And.intro (Holds.rdf H7_ 2 rfl) (Holds.blk H7_ 2 rfl))) ((Holds.ro_at H7_ 0 rfl)))
 refine A_tk 11 (v := (vI .i64 (O.cm kb n.kb))) rfl (by kernel_rfl) (fun w hS => x_assign rfl) hq10_ ?_
 refine A_done (by kernel_rfl) ?_
 refine (X_then (hK3_ _ _ ?_))
 clear hK3_
 refine C_seq (fun K11_ hK11_ => ?_)
 refine A_start (S := fun w => Rd ib [mb, me] w ∧ (Rd n.a [n.b, n.e, n.v, n.mx, (vQ l), (vQ r), (vQ p), (vI .i64 n.c)] w ∧ Blk w n.a) ∧ Sub R (hp w)) (N := 12) foll rfl rfl ?_
 have H12_ := Holds.drew_ H7_
 have hq13_ := And.intro (Holds.rd H12_ 1 rfl) (And.intro ((And.intro (Holds.rdf H12_ 2 rfl) (Holds.blk H12_ 2 rfl))) ((Holds.ro_at H12_ 0 rfl)))
 refine A_tk 0 (v := (vQ ib)) rfl (by kernel_rfl) (fun w hS => x_move rfl) hq13_ ?_
 refine A_tk 1 (v := (vQ ib)) rfl (by kernel_rfl) (fun w hS => by kernel_rfl) hq13_ ?_
 refine A_tk 2 (v := (vQ ib)) rfl (by kernel_rfl) (fun w hS => by kernel_rfl) hq13_ ?_
 refine A_tk 3 (v := mb) rfl (by kernel_rfl) (fun w hS => x_load1 rfl Try.underlying109 rfl (hS.1 0 mb rfl)) hq13_ ?_
 refine A_tk 4 (v := (vQ n.a)) rfl (by kernel_rfl) (fun w hS => x_move rfl) hq13_ ?_
 refine A_tk 5 (v := (vQ n.a)) rfl (by kernel_rfl) (fun w hS => by kernel_rfl) hq13_ ?_
 refine A_tk 6 (v := (vP (some ⟨n.a, 1, none⟩))) rfl (by kernel_rfl) (fun w hS => by kernel_rfl) hq13_ ?_
 refine A_tk 7 (v := n.e) rfl (by kernel_rfl) (fun w hS => x_load1 rfl Try.underlying109 rfl (hS.2.1.1 1 n.e rfl)) hq13_ ?_
 refine A_tk 8 (v := mb) rfl (by kernel_rfl) (fun w hS => x_nilV rfl (O.cmp hb hb)) hq13_ ?_
 refine A_tk 9 (v := mb) rfl (by kernel_rfl) (fun w hS => x_move rfl) hq13_ ?_
 refine A_ready (i := 10) (rs := []) (by kernel_rfl) ?_
 refine AllR.cons ?_ AllR.nil
 refine A_op (ls' := #[true, true, true, true, true, true, true, true, true, true, true, false]) rfl (by kernel_rfl) (T_cmp rfl rfl (O.cmp hb hn.e) H12_ 0 rfl ?_)
 intro w14_ S16_ H15_
 have S17_ := Same.trans (Same.trans S9_ (Same.drew _)) S16_
 refine ⟨⟨Holds.rd H15_ 1 rfl, (And.intro (Holds.rdf H15_ 2 rfl) (Holds.blk H15_ 2 rfl)), (Holds.ro_at H15_ 0 rfl)⟩, ?_⟩
 have hq18_ := And.intro (Holds.rd H15_ 1 rfl) (And.intro ((And.intro (Holds.rdf H15_ 2 rfl) (Holds.blk H15_ 2 rfl))) ((Holds.ro_at H15_ 0 rfl)))
 refine A_tk 11 (v := (vI .i64 (O.cm kb n.ke))) rfl (by kernel_rfl) (fun w hS => x_assign rfl) hq18_ ?_
 refine A_done (by kernel_rfl) ?_
 refine (X_then (hK11_ _ _ ?_))
 clear hK11_
 refine C_seq (fun K19_ hK19_ => ?_)
 refine A_start (S := fun w => Rd ib [mb, me] w ∧ (Rd n.a [n.b, n.e, n.v, n.mx, (vQ l), (vQ r), (vQ p), (vI .i64 n.c)] w ∧ Blk w n.a) ∧ Sub R (hp w)) (N := 12) foll rfl rfl ?_
 have H20_ := Holds.drew_ H15_
 have hq21_ := And.intro (Holds.rd H20_ 1 rfl) (And.intro ((And.intro (Holds.rdf H20_ 2 rfl) (Holds.blk H20_ 2 rfl))) ((Holds.ro_at H20_ 0 rfl)))
 refine A_tk 0 (v := (vQ ib)) rfl (by kernel_rfl) (fun w hS => x_move rfl) hq21_ ?_
 refine A_tk 1 (v := (vQ ib)) rfl (by kernel_rfl) (fun w hS => by kernel_rfl) hq21_ ?_
 refine A_tk 2 (v := (vP (some ⟨ib, 1, none⟩))) rfl (by kernel_rfl) (fun w hS => by kernel_rfl) hq21_ ?_
 refine A_tk 3 (v := me) rfl (by kernel_rfl) (fun w hS => x_load1 rfl Try.underlying109 rfl (hS.1 1 me rfl)) hq21_ ?_
 refine A_tk 4 (v := (vQ n.a)) rfl (by kernel_rfl) (fun w hS => x_move rfl) hq21_ ?_
 refine A_tk 5 (v := (vQ n.a)) rfl (by kernel_rfl) (fun w hS => by kernel_rfl) hq21_ ?_
 refine A_tk 6 (v := (vQ n.a)) rfl (by kernel_rfl) (fun w hS => by kernel_rfl) hq21_ ?_
 refine A_tk 7 (v := n.b) rfl (by kernel_rfl) (fun w hS => x_load1 rfl Try.underlying109 rfl (hS.2.1.1 0 n.b rfl)) hq21_ ?_
 refine A_tk 8 (v := me) rfl (by kernel_rfl) (fun w hS => x_nilV rfl (O.cmp he he)) hq21_ ?_
 refine A_tk 9 (v := me) rfl (by kernel_rfl) (fun w hS => x_move rfl) hq21_ ?_
 refine A_ready (i := 10) (rs := []) (by kernel_rfl) ?_
 refine AllR.cons ?_ AllR.nil
 refine A_op (ls' := #[true, true, true, true, true, true, true, true, true, true, true, false]) rfl (by kernel_rfl) (T_cmp rfl rfl (O.cmp he hn.b) H20_ 0 rfl ?_)
 intro w22_ S24_ H23_
 have S25_ := Same.trans (Same.trans S17_ (Same.drew _)) S24_
 refine ⟨⟨Holds.rd H23_ 1 rfl, (And.intro (Holds.rdf H23_ 2 rfl) (Holds.blk H23_ 2 rfl)), (Holds.ro_at H23_ 0 rfl)⟩, ?_⟩
 have hq26_ := And.intro (Holds.rd H23_ 1 rfl) (And.intro ((And.intro (Holds.rdf H23_ 2 rfl) (Holds.blk H23_ 2 rfl))) ((Holds.ro_at H23_ 0 rfl)))
 refine A_tk 11 (v := (vI .i64 (O.cm ke n.kb))) rfl (by kernel_rfl) (fun w hS => x_assign rfl) hq26_ ?_
 refine A_done (by kernel_rfl) ?_
 refine (X_then (hK19_ _ _ ?_))
 clear hK19_
 refine C_seq (fun K27_ hK27_ => ?_)
 refine C_seq (fun K28_ hK28_ => C_reg ?_)
 refine sv (v := (vI .i64 (O.cm kb n.kb))) (x_move rfl) ?_
 refine sv (v := (vB (decide (O.cm kb n.kb < 0)))) (x_bin rfl rfl rfl) ?_
 refine sv (v := (vB (decide (O.cm kb n.kb < 0)))) (x_move rfl) ?_
 rcases Bool.eq_false_or_eq_true (decide (O.cm kb n.kb < 0)) with c29_t | c29_f
 ·have c29_tp : O.cm kb n.kb < 0 := of_decide_eq_true c29_t
  refine S_yes (j := 2) (dj := 46) (b := true) rfl rfl (congrArg vB c29_t) (T_val (v := (vI .i64 (O.cm ke n.kb))) (x_move rfl) ?_)
  refine S_yes (j := 2) (dj := 46) (b := true) rfl rfl (congrArg vB c29_t) (T_val (v := (vB (decide (O.cm ke n.kb ≤ 0)))) (x_bin rfl rfl rfl) ?_)
  refine S_list (T_pickT (v := (vB (decide (O.cm ke n.kb ≤ 0)))) (congrArg vB c29_t) rfl ?_)
  refine wpList_nil (X_then (hK28_ _ _ ?_))
  clear hK28_
  refine C_cond (b := decide (O.cm ke n.kb ≤ 0)) rfl (fun c30_t => ?_) (fun c30_f => ?_)
  ·have c30_tp : O.cm ke n.kb ≤ 0 := of_decide_eq_true c30_t
   refine C_seq (fun K31_ hK31_ => C_reg ?_)
   refine sv (v := (vI .i64 (-1))) (x_assign rfl) ?_
   refine wpList_nil (X_then (hK31_ _ _ ?_))
   clear hK31_
   refine C_ret (X_thenR ?_)
   refine R_any (v := (vI .i64 (-1))) (run_results1 rfl rfl) ?_
   exact ⟨_, _, rfl, ⟨(congrArg (vI .i64) ((by unfold icmp; first | exact (if_pos (by omega)).symm | (rw [if_neg (by omega)]; first | exact (if_pos (by omega)).symm | exact (if_neg (by omega)).symm)) : -1 = icmp O kb ke n.kb n.ke)), rfl⟩, S25_, H23_⟩
  ·have c30_fp : ¬ (O.cm ke n.kb ≤ 0) := of_decide_eq_false c30_f
   refine C_skip (X_then (hK27_ _ _ ?_))
   clear hK27_
   refine C_seq (fun K32_ hK32_ => ?_)
   refine C_seq (fun K33_ hK33_ => C_reg ?_)
   refine sv (v := (vI .i64 (O.cm kb n.ke))) (x_move rfl) ?_
   refine sv (v := (vB (decide (0 ≤ O.cm kb n.ke)))) (x_bin rfl rfl rfl) ?_
   refine wpList_nil (X_then (hK33_ _ _ ?_))
   clear hK33_
   refine C_cond (b := decide (0 ≤ O.cm kb n.ke)) rfl (fun c34_t => ?_) (fun c34_f => ?_)
   ·have c34_tp : 0 ≤ O.cm kb n.ke := of_decide_eq_true c34_t
    refine C_seq (fun K35_ hK35_ => C_reg ?_)
    refine sv (v := (vI .i64 1)) (x_assign rfl) ?_
    refine wpList_nil (X_then (hK35_ _ _ ?_))
    clear hK35_
    refine C_ret (X_thenR ?_)
    refine R_any (v := (vI .i64 1)) (run_results1 rfl rfl) ?_
    exact ⟨_, _, rfl, ⟨(congrArg (vI .i64) ((by unfold icmp; first | exact (if_pos (by omega)).symm | (rw [if_neg (by omega)]; first | exact (if_pos (by omega)).symm | exact (if_neg (by omega)).symm)) : 1 = icmp O kb ke n.kb n.ke)), rfl⟩, S25_, H23_⟩
   ·have c34_fp : ¬ (0 ≤ O.cm kb n.ke) := of_decide_eq_false c34_f
    refine C_skip (X_then (hK32_ _ _ ?_))
    clear hK32_
    refine C_seq (fun K36_ hK36_ => C_reg ?_)
    refine sv (v := (vI .i64 0)) (x_assign rfl) ?_
    refine wpList_nil (X_then (hK36_ _ _ ?_))
    clear hK36_
    refine C_ret ?_
    refine R_any (v := (vI .i64 0)) (run_results1 rfl rfl) ?_
    exact ⟨_, _, rfl, ⟨(congrArg (vI .i64) ((by unfold icmp; first | exact (if_pos (by omega)).symm | (rw [if_neg (by omega)]; first | exact (if_pos (by omega)).symm | exact (if_neg (by omega)).symm)) : 0 = icmp O kb ke n.kb n.ke)), rfl⟩, S25_, H23_⟩
 ·have c29_fp : ¬ (O.cm kb n.kb < 0) := of_decide_eq_false c29_f
  refine S_no (j := 2) (dj := 46) (b := false) rfl rfl (congrArg vB c29_f) (by decide) ?_
  refine S_no (j := 2) (dj := 46) (b := false) rfl rfl (congrArg vB c29_f) (by decide) ?_
  refine S_list (T_pickF (v := (vB false)) (congrArg vB c29_f) rfl ?_)
  refine wpList_nil (X_then (hK28_ _ _ ?_))
  clear hK28_
  refine C_condF rfl ?_
  refine C_skip (X_then (hK27_ _ _ ?_))
  clear hK27_
  refine C_seq (fun K37_ hK37_ => ?_)
  refine C_seq (fun K38_ hK38_ => C_reg ?_)
  refine sv (v := (vI .i64 (O.cm kb n.ke))) (x_move rfl) ?_
  refine sv (v := (vB (decide (0 ≤ O.cm kb n.ke)))) (x_bin rfl rfl rfl) ?_
  refine wpList_nil (X_then (hK38_ _ _ ?_))
  clear hK38_
  refine C_cond (b := decide (0 ≤ O.cm kb n.ke)) rfl (fun c39_t => ?_) (fun c39_f => ?_)
  ·have c39_tp : 0 ≤ O.cm kb n.ke := of_decide_eq_true c39_t
   refine C_seq (fun K40_ hK40_ => C_reg ?_)
   refine sv (v := (vI .i64 1)) (x_assign rfl) ?_
   refine wpList_nil (X_then (hK40_ _ _ ?_))
   clear hK40_
   refine C_ret (X_thenR ?_)
   refine R_any (v := (vI .i64 1)) (run_results1 rfl rfl) ?_
   exact ⟨_, _, rfl, ⟨(congrArg (vI .i64) ((by unfold icmp; first | exact (if_pos (by omega)).symm | (rw [if_neg (by omega)]; first | exact (if_pos (by omega)).symm | exact (if_neg (by omega)).symm)) : 1 = icmp O kb ke n.kb n.ke)), rfl⟩, S25_, H23_⟩
  ·have c39_fp : ¬ (0 ≤ O.cm kb n.ke) := of_decide_eq_false c39_f
   refine C_skip (X_then (hK37_ _ _ ?_))
   clear hK37_
   refine C_seq (fun K41_ hK41_ => C_reg ?_)
   refine sv (v := (vI .i64 0)) (x_assign rfl) ?_
   refine wpList_nil (X_then (hK41_ _ _ ?_))
   clear hK41_
   refine C_ret ?_
   refine R_any (v := (vI .i64 0)) (run_results1 rfl rfl) ?_
   exact ⟨_, _, rfl, ⟨(congrArg (vI .i64) ((by unfold icmp; first | exact (if_pos (by omega)).symm | (rw [if_neg (by omega)]; first | exact (if_pos (by omega)).symm | exact (if_neg (by omega)).symm)) : 0 = icmp O kb ke n.kb n.ke)), rfl⟩, S25_, H23_⟩

set_option maxHeartbeats 1600000 in
theorem itCmp2 (R : HP) (K : Type) (O : KO K) (ib jb : Nat) (mb me ob oe : Value) (kb ke nb ne : K) (hb : O.Val R mb kb) (he : O.Val R me ke) (hnb : O.Val R ob nb) (hne : O.Val R oe ne) :
    Tri Try.prog 163 #[(vQ ib), (Value.iface 290 (vQ jb))] R [cl ib 111 [mb, me], cl jb 111 [ob, oe]] (fun v__ post__ => v__ = (vI .i64 (icmp O kb ke nb ne)) ∧ post__ = [cl ib 111 [mb, me], cl jb 111 [ob, oe]]) := by
 refine Tri.into (n := 52) (al := [(vQ ib), (Value.iface 290 (vQ jb))]) Try.func163 rfl Try.ntmps163 rfl rfl fun w F H => ?_
 refine C_seq (fun K1_ hK1_ => C_reg ?_)
 refine sv (v := (vI .i64 0)) (x_assign rfl) ?_
 refine wpList_nil (X_then (hK1_ _ _ ?_))
 clear hK1_
 refine C_seq (fun K2_ hK2_ => C_reg ?_)
 refine sv (v := (Value.iface 290 (vQ jb))) (x_move rfl) ?_
 refine sv (v := (vQ jb)) (by kernel_rfl) ?_
 refine sv (v := (vQ jb)) (x_assign rfl) ?_
 refine wpList_nil (X_then (hK2_ _ _ ?_))
 clear hK2_
 refine C_seq (fun K3_ hK3_ => ?_)
 refine A_start (S := fun w => Rd ib [mb, me] w ∧ Rd jb [ob, oe] w ∧ Sub R (hp w)) (N := 12) foll rfl rfl ?_
 have H4_ := Holds.drew_ H
 have hq5_ := And.intro (Holds.rd H4_ 1 rfl) (And.intro (Holds.rd H4_ 2 rfl) ((Holds.ro_at H4_ 0 rfl)))
 refine A_tk 0 (v := (vQ ib)) rfl (by kernel_rfl) (fun w hS => x_move rfl) hq5_ ?_
 refine A_tk 1 (v := (vQ ib)) rfl (by kernel_rfl) (fun w hS => by kernel_rfl) hq5_ ?_
 refine A_tk 2 (v := (vQ ib)) rfl (by kernel_rfl) (fun w hS => by kernel_rfl) hq5_ ?_
 refine A_tk 3 (v := mb) rfl (by kernel_rfl) (fun w hS => x_load1 rfl Try.underlying109 rfl (hS.1 0 mb rfl)) hq5_ ?_
 refine A_tk 4 (v := (vQ jb)) rfl (by kernel_rfl) (fun w hS => x_move rfl) hq5_ ?_
 refine A_tk 5 (v := (vQ jb)) rfl (by kernel_rfl) (fun w hS => by kernel_rfl) hq5_ ?_
 refine A_tk 6 (v := (vQ jb)) rfl (by kernel_rfl) (fun w hS => by kernel_rfl) hq5_ ?_
 refine A_tk 7 (v := ob) rfl (by kernel_rfl) (fun w hS => x_load1 rfl Try.underlying109 rfl (hS.2.1 0 ob rfl)) hq5_ ?_
 refine A_tk 8 (v := mb) rfl (by kernel_rfl) (fun w hS => x_nilV rfl (O.cmp hb hb)) hq5_ ?_
 refine A_tk 9 (v := mb) rfl (by kernel_rfl) (fun w hS => x_move rfl) hq5_ ?_
 refine A_ready (i := 10) (rs := []) (by kernel_rfl) ?_
 refine AllR.cons ?_ AllR.nil
 refine A_op (ls' := #[true, true, true, true, true, true, true, true, true, true, true, false]) rfl (by kernel_rfl) (T_cmp rfl rfl (O.cmp hb hnb) H4_ 0 rfl ?_)
 intro w6_ S8_ H7_
 have S9_ := Same.trans (Same.trans (Same.refl w) (Same.drew _)) S8_
 refine ⟨⟨Holds.rd H7_ 1 rfl, Holds.rd H7_ 2 rfl, (Holds.ro_at H7_ 0 rfl)⟩, ?_⟩
 have hq10_ := And.intro (Holds.rd H7_ 1 rfl) (And.intro (Holds.rd H7_ 2 rfl) ((Holds.ro_at H7_ 0 rfl)))
 refine A_tk 11 (v := (vI .i64 (O.cm kb nb))) rfl (by kernel_rfl) (fun w hS => x_assign rfl) hq10_ ?_
 refine A_done (by kernel_rfl) ?_
 refine (X_then (hK3_ _ _ ?_))
 clear hK3_
 refine C_seq (fun K11_ hK11_ => ?_)
 refine A_start (S := fun w => Rd ib [mb, me] w ∧ Rd jb [ob, oe] w ∧ Sub R (hp w)) (N := 12) foll rfl rfl ?_
 have H12_ := Holds.drew_ H7_
 have hq13_ := And.intro (Holds.rd H12_ 1 rfl) (And.intro (Holds.rd H12_ 2 rfl) ((Holds.ro_at H12_ 0 rfl)))
 refine A_tk 0 (v := (vQ ib)) rfl (by kernel_rfl) (fun w hS => x_move rfl) hq13_ ?_
 refine A_tk 1 (v := (vQ ib)) rfl (by kernel_rfl) (fun w hS => by kernel_rfl) hq13_ ?_
 refine A_tk 2 (v := (vQ ib)) rfl (by kernel_rfl) (fun w hS => by kernel_rfl) hq13_ ?_
 refine A_tk 3 (v := mb) rfl (by kernel_rfl) (fun w hS => x_load1 rfl Try.underlying109 rfl (hS.1 0 mb rfl)) hq13_ ?_
 refine A_tk 4 (v := (vQ jb)) rfl (by kernel_rfl) (fun w hS => x_move rfl) hq13_ ?_
 refine A_tk 5 (v := (vQ jb)) rfl (by kernel_rfl) (fun w hS => by kernel_rfl) hq13_ ?_
 refine A_tk 6 (v := (vP (some ⟨jb, 1, none⟩))) rfl (by kernel_rfl) (fun w hS => by kernel_rfl) hq13_ ?_
 refine A_tk 7 (v := oe) rfl (by kernel_rfl) (fun w hS => x_load1 rfl Try.underlying109 rfl (hS.2.1 1 oe rfl)) hq13_ ?_
 refine A_tk 8 (v := mb) rfl (by kernel_rfl) (fun w hS => x_nilV rfl (O.cmp hb hb)) hq13_ ?_
 refine A_tk 9 (v := mb) rfl (by kernel_rfl) (fun w hS => x_move rfl) hq13_ ?_
 refine A_ready (i := 10) (rs := []) (by kernel_rfl) ?_
 refine AllR.cons ?_ AllR.nil
 refine A_op (ls' := #[true, true, true, true, true, true, true, true, true, true, true, false]) rfl (by kernel_rfl) (T_cmp rfl rfl (O.cmp hb hne) H12_ 0 rfl ?_)
 intro w14_ S16_ H15_
 have S17_ := Same.trans (Same.trans S9_ (Same.drew _)) S16_
 refine ⟨⟨Holds.rd H15_ 1 rfl, Holds.rd H15_ 2 rfl, (Holds.ro_at H15_ 0 rfl)⟩, ?_⟩
 have hq18_ := And.intro (Holds.rd H15_ 1 rfl) (And.intro (Holds.rd H15_ 2 rfl) ((Holds.ro_at H15_ 0 rfl)))
 refine A_tk 11 (v := (vI .i64 (O.cm kb ne))) rfl (by kernel_rfl) (fun w hS => x_assign rfl) hq18_ ?_
 refine A_done (by kernel_rfl) ?_
 refine (X_then (hK11_ _ _ ?_))
 clear hK11_
 refine C_seq (fun K19_ hK19_ => ?_)
 refine A_start (S := fun w => Rd ib [mb, me] w ∧ Rd jb [ob, oe] w ∧ Sub R (hp w)) (N := 12) foll rfl rfl ?_
 have H20_ := Holds.drew_ H15_
 have hq21_ := And.intro (Holds.rd H20_ 1 rfl) (And.intro (Holds.rd H20_ 2 rfl) ((Holds.ro_at H20_ 0 rfl)))
 refine A_tk 0 (v := (vQ ib)) rfl (by kernel_rfl) (fun w hS => x_move rfl) hq21_ ?_
 refine A_tk 1 (v := (vQ ib)) rfl (by kernel_rfl) (fun w hS => by kernel_rfl) hq21_ ?_
 refine A_tk 2 (v := (vP (some ⟨ib, 1, none⟩))) rfl (by kernel_rfl) (fun w hS => by kernel_rfl) hq21_ ?_
 refine A_tk 3 (v := me) rfl (by kernel_rfl) (fun w hS => x_load1 rfl Try.underlying109 rfl (hS.1 1 me rfl)) hq21_ ?_
 refine A_tk 4 (v := (vQ jb)) rfl (by kernel_rfl) (fun w hS => x_move rfl) hq21_ ?_
 refine A_tk 5 (v := (vQ jb)) rfl (by kernel_rfl) (fun w hS => by kernel_rfl) hq21_ ?_
 refine A_tk 6 (v := (vQ jb)) rfl (by kernel_rfl) (fun w hS => by kernel_rfl) hq21_ ?_
 refine A_tk 7 (v := ob) rfl (by kernel_rfl) (fun w hS => x_load1 rfl Try.underlying109 rfl (hS.2.1 0 ob rfl)) hq21_ ?_
 refine A_tk 8 (v := me) rfl (by kernel_rfl) (fun w hS => x_nilV rfl (O.cmp he he)) hq21_ ?_
 refine A_tk 9 (v := me) rfl (by kernel_rfl) (fun w hS => x_move rfl) hq21_ ?_
 refine A_ready (i := 10) (rs := []) (by kernel_rfl) ?_
 refine AllR.cons ?_ AllR.nil
 refine A_op (ls' := #[true, true, true, true, true, true, true, true, true, true, true, false]) rfl (by kernel_rfl) (T_cmp rfl rfl (O.cmp he hnb) H20_ 0 rfl ?_)
 intro w22_ S24_ H23_
 have S25_ := Same.trans (Same.trans S17_ (Same.drew _)) S24_
 refine ⟨⟨Holds.rd H23_ 1 rfl, Holds.rd H23_ 2 rfl, (Holds.ro_at H23_ 0 rfl)⟩, ?_⟩
 have hq26_ := And.intro (Holds.rd H23_ 1 rfl) (And.intro (Holds.rd H23_ 2 rfl) ((Holds.ro_at H23_ 0 rfl)))
 refine A_tk 11 (v := (vI .i64 (O.cm ke nb))) rfl (by kernel_rfl) (fun w hS => x_assign rfl) hq26_ ?_
 refine A_done (by kernel_rfl) ?_
 refine (X_then (hK19_ _ _ ?_))
 clear hK19_
 refine C_seq (fun K27_ hK27_ => ?_)
 refine C_seq (fun K28_ hK28_ => C_reg ?_)
 refine sv (v := (vI .i64 (O.cm kb nb))) (x_move rfl) ?_
 refine sv (v := (vB (decide (O.cm kb nb < 0)))) (x_bin rfl rfl rfl) ?_
 refine sv (v := (vB (decide (O.cm kb nb < 0)))) (x_move rfl) ?_
 rcases Bool.eq_false_or_eq_true (decide (O.cm kb nb < 0)) with c29_t | c29_f
 ·have c29_tp : O.cm kb nb < 0 := of_decide_eq_true c29_t
  refine S_yes (j := 2) (dj := 46) (b := true) rfl rfl (congrArg vB c29_t) (T_val (v := (vI .i64 (O.cm ke nb))) (x_move rfl) ?_)
  refine S_yes (j := 2) (dj := 46) (b := true) rfl rfl (congrArg vB c29_t) (T_val (v := (vB (decide (O.cm ke nb ≤ 0)))) (x_bin rfl rfl rfl) ?_)
  refine S_list (T_pickT (v := (vB (decide (O.cm ke nb ≤ 0)))) (congrArg vB c29_t) rfl ?_)
  refine wpList_nil (X_then (hK28_ _ _ ?_))
  clear hK28_
  refine C_cond (b := decide (O.cm ke nb ≤ 0)) rfl (fun c30_t => ?_) (fun c30_f => ?_)
  ·have c30_tp : O.cm ke nb ≤ 0 := of_decide_eq_true c30_t
   refine C_seq (fun K31_ hK31_ => C_reg ?_)
   refine sv (v := (vI .i64 (-1))) (x_assign rfl) ?_
   refine wpList_nil (X_then (hK31_ _ _ ?_))
   clear hK31_
   refine C_ret (X_thenR ?_)
   refine R_any (v := (vI .i64 (-1))) (run_results1 rfl rfl) ?_
   exact ⟨_, _, rfl, ⟨(congrArg (vI .i64) ((by unfold icmp; first | exact (if_pos (by omega)).symm | (rw [if_neg (by omega)]; first | exact (if_pos (by omega)).symm | exact (if_neg (by omega)).symm)) : -1 = icmp O kb ke nb ne)), rfl⟩, S25_, H23_⟩
  ·have c30_fp : ¬ (O.cm ke nb ≤ 0) := of_decide_eq_false c30_f
   refine C_skip (X_then (hK27_ _ _ ?_))
   clear hK27_
   refine C_seq (fun K32_ hK32_ => ?_)
   refine C_seq (fun K33_ hK33_ => C_reg ?_)
   refine sv (v := (vI .i64 (O.cm kb ne))) (x_move rfl) ?_
   refine sv (v := (vB (decide (0 ≤ O.cm kb ne)))) (x_bin rfl rfl rfl) ?_
   refine wpList_nil (X_then (hK33_ _ _ ?_))
   clear hK33_
   refine C_cond (b := decide (0 ≤ O.cm kb ne)) rfl (fun c34_t => ?_) (fun c34_f => ?_)
   ·have c34_tp : 0 ≤ O.cm kb ne := of_decide_eq_true c34_t
    refine C_seq (fun K35_ hK35_ => C_reg ?_)
    refine sv (v := (vI .i64 1)) (x_assign rfl) ?_
    refine wpList_nil (X_then (hK35_ _ _ ?_))
    clear hK35_
    refine C_ret (X_thenR ?_)
    refine R_any (v := (vI .i64 1)) (run_results1 rfl rfl) ?_
    exact ⟨_, _, rfl, ⟨(congrArg (vI .i64) ((by unfold icmp; first | exact (if_pos (by omega)).symm | (rw [if_neg (by omega)]; first | exact (if_pos (by omega)).symm | exact (if_neg (by omega)).symm)) : 1 = icmp O kb ke nb ne)), rfl⟩, S25_, H23_⟩
   ·have c34_fp : ¬ (0 ≤ O.cm kb ne) := of_decide_eq_false c34_f
    refine C_skip (X_then (hK32_ _ _ ?_))
    clear hK32_
    refine C_seq (fun K36_ hK36_ => C_reg ?_)
    refine sv (v := (vI .i64 0)) (x_assign rfl) ?_
    refine wpList_nil (X_then (hK36_ _ _ ?_))
    clear hK36_
    refine C_ret ?_
    refine R_any (v := (vI .i64 0)) (run_results1 rfl rfl) ?_
    exact ⟨_, _, rfl, ⟨(congrArg (vI .i64) ((by unfold icmp; first | exact (if_pos (by omega)).symm | (rw [if_neg (by omega)]; first | exact (if_pos (by omega)).symm | exact (if_neg (by omega)).symm)) : 0 = icmp O kb ke nb ne)), rfl⟩, S25_, H23_⟩
 ·have c29_fp : ¬ (O.cm kb nb < 0) := of_decide_eq_false c29_f
  refine S_no (j := 2) (dj := 46) (b := false) rfl rfl (congrArg vB c29_f) (by decide) ?_
  refine S_no (j := 2) (dj := 46) (b := false) rfl rfl (congrArg vB c29_f) (by decide) ?_
  refine S_list (T_pickF (v := (vB false)) (congrArg vB c29_f) rfl ?_)
  refine wpList_nil (X_then (hK28_ _ _ ?_))
  clear hK28_
  refine C_condF rfl ?_
  refine C_skip (X_then (hK27_ _ _ ?_))
  clear hK27_
  refine C_seq (fun K37_ hK37_ => ?_)
  refine C_seq (fun K38_ hK38_ => C_reg ?_)
  refine sv (v := (vI .i64 (O.cm kb ne))) (x_move rfl) ?_
  refine sv (v := (vB (decide (0 ≤ O.cm kb ne)))) (x_bin rfl rfl rfl) ?_
  refine wpList_nil (X_then (hK38_ _ _ ?_))
  clear hK38_
  refine C_cond (b := decide (0 ≤ O.cm kb ne)) rfl (fun c39_t => ?_) (fun c39_f => ?_)
  ·have c39_tp : 0 ≤ O.cm kb ne := of_decide_eq_true c39_t
   refine C_seq (fun K40_ hK40_ => C_reg ?_)
   refine sv (v := (vI .i64 1)) (x_assign rfl) ?_
   refine wpList_nil (X_then (hK40_ _ _ ?_))
   clear hK40_
   refine C_ret (X_thenR ?_)
   refine R_any (v := (vI .i64 1)) (run_results1 rfl rfl) ?_
   exact ⟨_, _, rfl, ⟨(congrArg (vI .i64) ((by unfold icmp; first | exact (if_pos (by omega)).symm | (rw [if_neg (by omega)]; first | exact (if_pos (by omega)).symm | exact (if_neg (by omega)).symm)) : 1 = icmp O kb ke nb ne)), rfl⟩, S25_, H23_⟩
  ·have c39_fp : ¬ (0 ≤ O.cm kb ne) := of_decide_eq_false c39_f
   refine C_skip (X_then (hK37_ _ _ ?_))
   clear hK37_
   refine C_seq (fun K41_ hK41_ => C_reg ?_)
   refine sv (v := (vI .i64 0)) (x_assign rfl) ?_
   refine wpList_nil (X_then (hK41_ _ _ ?_))
   clear hK41_
   refine C_ret ?_
   refine R_any (v := (vI .i64 0)) (run_results1 rfl rfl) ?_
   exact ⟨_, _, rfl, ⟨(congrArg (vI .i64) ((by unfold icmp; first | exact (if_pos (by omega)).symm | (rw [if_neg (by omega)]; first | exact (if_pos (by omega)).symm | exact (if_neg (by omega)).symm)) : 0 = icmp O kb ke nb ne)), rfl⟩, S25_, H23_⟩

set_option maxHeartbeats 16000000 in
theorem itVisit_step (R : HP) (K : Type) (O : KO K) (σ : Type) (P : σ → SP) (I : HP → σ → Prop) (step : σ → ND K → σ × Bool) (sc : List Value) (ib cb sb p : Nat) (t : Tr K) (s : σ) (mb me : Value) (kb ke : K) (n__ : Nat) (hT : TOk O R t) (hb : O.Val R mb kb) (he : O.Val R me ke) (hi : I R s) (hstep : ∀ (R : HP) (s : σ) (n : ND K) (l r p : Nat) (hi : I R s) (hn : NOk O R n), Tri Try.prog 168 #[pn n.a, pn cb] R [clf n.a 185 (n.cells l r p), vp P s] fun v__ post__ => v__ = (vB (step s n).2) ∧ post__ = [clf n.a 185 (n.cells l r p), vp P (step s n).1] ∧ (I R (step s n).1)) (hn__ : ((ino t).length) ≤ n__) (ih : ∀ (R : HP) (K : Type) (O : KO K) (σ : Type) (P : σ → SP) (I : HP → σ → Prop) (step : σ → ND K → σ × Bool) (sc : List Value) (ib cb sb p : Nat) (t : Tr K) (s : σ) (mb me : Value) (kb ke : K) (hT : TOk O R t) (hb : O.Val R mb kb) (he : O.Val R me ke) (hi : I R s) (hstep : ∀ (R : HP) (s : σ) (n : ND K) (l r p : Nat) (hi : I R s) (hn : NOk O R n), Tri Try.prog 168 #[pn n.a, pn cb] R [clf n.a 185 (n.cells l r p), vp P s] fun v__ post__ => v__ = (vB (step s n).2) ∧ post__ = [clf n.a 185 (n.cells l r p), vp P (step s n).1] ∧ (I R (step s n).1)) (hms : ((ino t).length) < n__), Tri Try.prog 167 #[(vQ (rt sb t)), (vQ ib), (vQ sb), (Value.func (.func 168) #[] #[(vQ cb)])] R [tr sb p t, clf sb 185 sc, cl ib 111 [mb, me], vp P s] (fun v__ post__ => v__ = (vB ((vis O step kb ke t s).2)) ∧ post__ = [tr sb p t, clf sb 185 sc, cl ib 111 [mb, me], vp P ((vis O step kb ke t s).1)] ∧ (I R (vis O step kb ke t s).1))) :
    Tri Try.prog 167 #[(vQ (rt sb t)), (vQ ib), (vQ sb), (Value.func (.func 168) #[] #[(vQ cb)])] R [tr sb p t, clf sb 185 sc, cl ib 111 [mb, me], vp P s] (fun v__ post__ => v__ = (vB ((vis O step kb ke t s).2)) ∧ post__ = [tr sb p t, clf sb 185 sc, cl ib 111 [mb, me], vp P ((vis O step kb ke t s).1)] ∧ (I R (vis O step kb ke t s).1)) := by
 refine Tri.into (n := 97) (al := [(vQ (rt sb t)), (vQ ib), (vQ sb), (Value.func (.func 168) #[] #[(vQ cb)])]) Try.func167 rfl Try.ntmps167 rfl rfl fun w F H => ?_
 refine C_seq (fun K1_ hK1_ => C_reg ?_)
 refine sv (v := (vB false)) (x_assign rfl) ?_
 refine wpList_nil (X_then (hK1_ _ _ ?_))
 clear hK1_
 refine C_seq (fun K2_ hK2_ => ?_)
 refine C_seq (fun K3_ hK3_ => C_reg ?_)
 rcases t with _ | ⟨f4_n, f4_a, f4_b⟩
 ·skip
  have H5_ : Holds w (ro R :: tr sb p (Tr.lf : Tr K) :: clf sb 185 sc :: cl ib 111 [mb, me] :: vp P s :: F) := (H)
  refine sv (v := (vQ sb)) (x_move rfl) ?_
  refine sv (v := (vQ sb)) (x_move rfl) ?_
  refine sv (v := (vB true)) (x_eqP rfl rfl Try.underlying182 z185) ?_
  refine wpList_nil (X_then (hK3_ _ _ ?_))
  clear hK3_
  refine C_condT rfl ?_
  refine C_seq (fun K6_ hK6_ => C_reg ?_)
  refine sv (v := (vB true)) (x_assign rfl) ?_
  refine wpList_nil (X_then (hK6_ _ _ ?_))
  clear hK6_
  refine C_ret (X_thenR ?_)
  refine R_any (v := (vB true)) (run_results1 rfl rfl) ?_
  have hv_ : vis O step kb ke (Tr.lf : Tr K) s = (s, true) := rfl
  have eH7_ : vp P s = vp P ((vis O step kb ke (Tr.lf : Tr K) s).1) := congrArg (vp P) (congrArg Prod.fst hv_).symm
  have H7_ : Holds w (ro R :: tr sb p (Tr.lf : Tr K) :: clf sb 185 sc :: cl ib 111 [mb, me] :: vp P ((vis O step kb ke (Tr.lf : Tr K) s).1) :: F) := cast1 (P := fun c__ => Holds w (ro R :: tr sb p (Tr.lf : Tr K) :: clf sb 185 sc :: cl ib 111 [mb, me] :: c__ :: F)) eH7_ H5_
  exact ⟨_, _, rfl, ⟨(congrArg vB ((congrArg Prod.snd hv_).symm : true = ((vis O step kb ke (Tr.lf : Tr K) s).2))), rfl, ((by rw [hv_]; assumption))⟩, (Same.refl w), H7_⟩
 ·skip
  have H8_ : Holds w (ro R :: tr sb p (Tr.nd f4_n f4_a f4_b) :: clf sb 185 sc :: cl ib 111 [mb, me] :: vp P s :: F) := (H)
  have H9_ := ((Holds.bring H8_ 1 rfl) :)
  have H10_ := Holds.tr_nd H9_
  have hTa_ := hT.2.1
  have hTb_ := hT.2.2
  have hla_ : (ino f4_a).length < n__ := by simp [ino] at hn__; omega
  have hlb_ : (ino f4_b).length < n__ := by simp [ino] at hn__; omega
  refine sv (v := (vQ f4_n.a)) (x_move rfl) ?_
  refine sv (v := (vQ sb)) (x_move rfl) ?_
  have hpc11_ : f4_n.a ≠ sb := Holds.ne_f H10_ 0 rfl 4 rfl (by decide)
  refine sv (v := (vB false)) (x_cast (x_eqPN rfl rfl Try.underlying182 z185 (by decide) (Holds.blk H10_ 0 rfl) (Holds.blk H10_ 4 rfl)) (congrArg vB (decide_eq_false hpc11_))) ?_
  refine wpList_nil (X_then (hK3_ _ _ ?_))
  clear hK3_
  refine C_condF rfl ?_
  refine C_skip (X_then (hK2_ _ _ ?_))
  clear hK2_
  refine C_seq (fun K12_ hK12_ => C_reg ?_)
  refine sv (v := (vQ ib)) (x_move rfl) ?_
  refine sv (v := (vQ f4_n.a)) (x_move rfl) ?_
  refine sv (v := (vQ f4_n.a)) (by kernel_rfl) ?_
  refine sv (v := (vQ f4_n.a)) (by kernel_rfl) ?_
  refine sv (v := (vQ f4_n.a)) (by kernel_rfl) ?_
  refine sv (v := (Value.iface 290 (vQ f4_n.a))) (by kernel_rfl) ?_
  have H14_ := ((Holds.bring (Holds.bring H10_ 5 rfl) 4 rfl) :)
  refine S_list (T_call (al := [(vQ ib), (Value.iface 290 (vQ f4_n.a))]) (pre := [cl ib 111 [mb, me], clf f4_n.a 185 [f4_n.b, f4_n.e, f4_n.v, f4_n.mx, (vQ (rt sb f4_a)), (vQ (rt sb f4_b)), (vQ p), (vI .i64 f4_n.c)]]) rfl rfl cb163 (itCmp1 R K O ib f4_n (rt sb f4_a) (rt sb f4_b) p mb me kb ke (hb) (he) (hT.1)) H14_ ?_)
  rintro v13_ p18_ w15_ ⟨rfl, rfl⟩ S17_ H16_
  have S19_ := Same.trans (Same.refl w) S17_
  refine sv (v := (vI .i64 (icmp O kb ke f4_n.kb f4_n.ke))) (x_assign rfl) ?_
  refine wpList_nil (X_then (hK12_ _ _ ?_))
  clear hK12_
  refine C_seq (fun K20_ hK20_ => ?_)
  refine C_block ?_
  refine C_seq (fun K21_ hK21_ => C_reg ?_)
  refine sv (v := (vI .i64 (icmp O kb ke f4_n.kb f4_n.ke))) (x_move rfl) ?_
  refine sv (v := (vB (decide (icmp O kb ke f4_n.kb f4_n.ke < 0)))) (x_bin rfl rfl rfl) ?_
  refine sv (v := (vB (decide (icmp O kb ke f4_n.kb f4_n.ke < 0)))) (x_assign rfl) ?_
  refine wpList_nil (X_then (hK21_ _ _ ?_))
  clear hK21_
  refine C_cond (b := decide (icmp O kb ke f4_n.kb f4_n.ke < 0)) rfl (fun c22_t => ?_) (fun c22_f => ?_)
  ·have c22_tp : icmp O kb ke f4_n.kb f4_n.ke < 0 := of_decide_eq_true c22_t
   refine C_seq (fun K23_ hK23_ => C_reg ?_)
   refine sv (v := (vQ f4_n.a)) (x_move rfl) ?_
   refine sv (v := (vQ f4_n.a)) (by kernel_rfl) ?_
   refine sv (v := (vP (some ⟨f4_n.a, 4, none⟩))) (by kernel_rfl) ?_
   refine sv (v := (vQ (rt sb f4_a))) (x_load1 rfl Try.underlying182 rfl ((Holds.rdf H16_ 2 rfl) 4 (vQ (rt sb f4_a)) rfl)) ?_
   refine sv (v := (vQ ib)) (x_move rfl) ?_
   refine sv (v := (vQ sb)) (x_move rfl) ?_
   refine sv (v := (Value.func (.func 168) #[] #[(vQ cb)])) (x_move rfl) ?_
   have H26_ := ((Holds.bring (Holds.bring (Holds.bring (Holds.bring (Holds.bring H16_ 6 rfl) 2 rfl) 6 rfl) 5 rfl) 4 rfl) :)
   refine S_list (T_call (al := [(vQ (rt sb f4_a)), (vQ ib), (vQ sb), (Value.func (.func 168) #[] #[(vQ cb)])]) (pre := [tr sb f4_n.a f4_a, clf sb 185 sc, cl ib 111 [mb, me], vp P s]) rfl rfl cb167 (ih R K O σ P I step sc ib cb sb f4_n.a f4_a s mb me kb ke (by first | assumption | omega) (hb) (he) (by first | assumption | omega) (hstep) (by first | assumption | omega)) H26_ ?_)
   rintro v24_ p30_ w27_ ⟨rfl, rfl, he25_⟩ S29_ H28_
   have S31_ := Same.trans S19_ S29_
   refine sv (v := (vB (!((vis O step kb ke f4_a s).2)))) (x_not rfl) ?_
   refine wpList_nil (X_then (hK23_ _ _ ?_))
   clear hK23_
   refine C_cond (b := !((vis O step kb ke f4_a s).2)) rfl (fun c32_t => ?_) (fun c32_f => ?_)
   ·skip
    refine C_seq (fun K33_ hK33_ => C_reg ?_)
    refine sv (v := (vB false)) (x_assign rfl) ?_
    refine wpList_nil (X_then (hK33_ _ _ ?_))
    clear hK33_
    refine C_ret (X_blkR (X_thenR ?_))
    refine R_any (v := (vB false)) (run_results1 rfl rfl) ?_
    have H34_ := ((Holds.bring (Holds.bring (Holds.bring H28_ 6 rfl) 2 rfl) 6 rfl) :)
    have H35_ := Holds.nd_tr (n := f4_n) (a := f4_a) (b := f4_b) H34_
    have q36_ := c22_t; first | (simp only [decide_eq_true_eq, decide_eq_false_iff_not, Bool.not_eq_true', Bool.not_eq_false'] at q36_) | skip
    have q37_ := c32_t; first | (simp only [decide_eq_true_eq, decide_eq_false_iff_not, Bool.not_eq_true', Bool.not_eq_false'] at q37_) | skip
    have hv_ : vis O step kb ke (Tr.nd f4_n f4_a f4_b) s = ((vis O step kb ke f4_a s).1, false) := by simp [Prod.ext_iff, vis, q36_, q37_]
    have eH38_ : vp P ((vis O step kb ke f4_a s).1) = vp P ((vis O step kb ke (Tr.nd f4_n f4_a f4_b) s).1) := congrArg (vp P) (congrArg Prod.fst hv_).symm
    have H38_ : Holds w27_ (tr sb p (Tr.nd f4_n f4_a f4_b) :: ro R :: clf sb 185 sc :: cl ib 111 [mb, me] :: vp P ((vis O step kb ke (Tr.nd f4_n f4_a f4_b) s).1) :: F) := cast1 (P := fun c__ => Holds w27_ (tr sb p (Tr.nd f4_n f4_a f4_b) :: ro R :: clf sb 185 sc :: cl ib 111 [mb, me] :: c__ :: F)) eH38_ H35_
    have H39_ : Holds w27_ (ro R :: tr sb p (Tr.nd f4_n f4_a f4_b) :: clf sb 185 sc :: cl ib 111 [mb, me] :: vp P ((vis O step kb ke (Tr.nd f4_n f4_a f4_b) s).1) :: F) := (Holds.pkF H38_ [1, 0, 0, 0, 0] 0 :)
    exact ⟨_, _, rfl, ⟨(congrArg vB ((congrArg Prod.snd hv_).symm : false = ((vis O step kb ke (Tr.nd f4_n f4_a f4_b) s).2))), rfl, ((by rw [hv_]; assumption))⟩, S31_, H39_⟩
   ·skip
    refine C_skip (X_blkN (X_then (hK20_ _ _ ?_)))
    clear hK20_
    refine C_seq (fun K40_ hK40_ => C_reg ?_)
    refine sv (v := (vB true)) (x_assign rfl) ?_
    refine wpList_nil (X_then (hK40_ _ _ ?_))
    clear hK40_
    refine C_ret ?_
    refine R_any (v := (vB true)) (run_results1 rfl rfl) ?_
    have H41_ := ((Holds.bring (Holds.bring (Holds.bring H28_ 6 rfl) 2 rfl) 6 rfl) :)
    have H42_ := Holds.nd_tr (n := f4_n) (a := f4_a) (b := f4_b) H41_
    have q43_ := c22_t; first | (simp only [decide_eq_true_eq, decide_eq_false_iff_not, Bool.not_eq_true', Bool.not_eq_false'] at q43_) | skip
    have q44_ := c32_f; first | (simp only [decide_eq_true_eq, decide_eq_false_iff_not, Bool.not_eq_true', Bool.not_eq_false'] at q44_) | skip
    have hv_ : vis O step kb ke (Tr.nd f4_n f4_a f4_b) s = ((vis O step kb ke f4_a s).1, true) := by simp [Prod.ext_iff, vis, q43_, q44_]
    have eH45_ : vp P ((vis O step kb ke f4_a s).1) = vp P ((vis O step kb ke (Tr.nd f4_n f4_a f4_b) s).1) := congrArg (vp P) (congrArg Prod.fst hv_).symm
    have H45_ : Holds w27_ (tr sb p (Tr.nd f4_n f4_a f4_b) :: ro R :: clf sb 185 sc :: cl ib 111 [mb, me] :: vp P ((vis O step kb ke (Tr.nd f4_n f4_a f4_b) s).1) :: F) := cast1 (P := fun c__ => Holds w27_ (tr sb p (Tr.nd f4_n f4_a f4_b) :: ro R :: clf sb 185 sc :: cl ib 111 [mb, me] :: c__ :: F)) eH45_ H42_
    have H46_ : Holds w27_ (ro R :: tr sb p (Tr.nd f4_n f4_a f4_b) :: clf sb 185 sc :: cl ib 111 [mb, me] :: vp P ((vis O step kb ke (Tr.nd f4_n f4_a f4_b) s).1) :: F) := (Holds.pkF H45_ [1, 0, 0, 0, 0] 0 :)
    exact ⟨_, _, rfl, ⟨(congrArg vB ((congrArg Prod.snd hv_).symm : true = ((vis O step kb ke (Tr.nd f4_n f4_a f4_b) s).2))), rfl, ((by rw [hv_]; assumption))⟩, S31_, H46_⟩
  ·have c22_fp : ¬ (icmp O kb ke f4_n.kb f4_n.ke < 0) := of_decide_eq_false c22_f
   refine C_seq (fun K47_ hK47_ => C_reg ?_)
   refine sv (v := (vI .i64 (icmp O kb ke f4_n.kb f4_n.ke))) (x_move rfl) ?_
   refine sv (v := (vB (decide (0 < icmp O kb ke f4_n.kb f4_n.ke)))) (x_bin rfl rfl rfl) ?_
   refine sv (v := (vB (decide (0 < icmp O kb ke f4_n.kb f4_n.ke)))) (x_assign rfl) ?_
   refine wpList_nil (X_then (hK47_ _ _ ?_))
   clear hK47_
   refine C_cond (b := decide (0 < icmp O kb ke f4_n.kb f4_n.ke)) rfl (fun c48_t => ?_) (fun c48_f => ?_)
   ·have c48_tp : 0 < icmp O kb ke f4_n.kb f4_n.ke := of_decide_eq_true c48_t
    refine C_seq (fun K49_ hK49_ => ?_)
    refine A_start (S := fun w => (Rd f4_n.a [f4_n.b, f4_n.e, f4_n.v, f4_n.mx, (vQ (rt sb f4_a)), (vQ (rt sb f4_b)), (vQ p), (vI .i64 f4_n.c)] w ∧ Blk w f4_n.a) ∧ RtRd w (rt sb f4_a) (rmx f4_a) ∧ RtRd w (rt sb f4_b) (rmx f4_b) ∧ Sub R (hp w)) (N := 13) foll rfl rfl ?_
    have H50_ := Holds.drew_ H16_
    have hq51_ := And.intro ((And.intro (Holds.rdf H50_ 2 rfl) (Holds.blk H50_ 2 rfl))) (And.intro (Holds.tr_rd H50_ 3 rfl 5 rfl) (And.intro (Holds.tr_rd H50_ 4 rfl 5 rfl) ((Holds.ro_at H50_ 0 rfl))))
    refine A_tk 0 (v := (vQ f4_n.a)) rfl (by kernel_rfl) (fun w hS => x_move rfl) hq51_ ?_
    refine A_tk 1 (v := (vQ f4_n.a)) rfl (by kernel_rfl) (fun w hS => by kernel_rfl) hq51_ ?_
    refine A_tk 2 (v := (vQ f4_n.a)) rfl (by kernel_rfl) (fun w hS => by kernel_rfl) hq51_ ?_
    refine A_tk 3 (v := (vQ f4_n.a)) rfl (by kernel_rfl) (fun w hS => by kernel_rfl) hq51_ ?_
    refine A_tk 4 (v := (vQ f4_n.a)) rfl (by kernel_rfl) (fun w hS => by kernel_rfl) hq51_ ?_
    refine A_tk 5 (v := f4_n.b) rfl (by kernel_rfl) (fun w hS => x_load1 rfl Try.underlying109 rfl (hS.1.1 0 f4_n.b rfl)) hq51_ ?_
    refine A_tk 6 (v := (vQ f4_n.a)) rfl (by kernel_rfl) (fun w hS => x_move rfl) hq51_ ?_
    refine A_tk 7 (v := (vQ f4_n.a)) rfl (by kernel_rfl) (fun w hS => by kernel_rfl) hq51_ ?_
    refine A_tk 8 (v := (vP (some ⟨f4_n.a, 3, none⟩))) rfl (by kernel_rfl) (fun w hS => by kernel_rfl) hq51_ ?_
    refine A_tk 9 (v := f4_n.mx) rfl (by kernel_rfl) (fun w hS => x_load1 rfl Try.underlying109 rfl (hS.1.1 3 f4_n.mx rfl)) hq51_ ?_
    refine A_tk 10 (v := (vA #[f4_n.b, f4_n.mx])) rfl (by kernel_rfl) (fun w hS => x_buildIv rfl rfl (O.cmp (hT.1.b) (hT.1.b)) (O.cmp (hT.1.m) (hT.1.m))) hq51_ ?_
    refine A_ready (i := 11) (rs := []) (by kernel_rfl) ?_
    refine AllR.cons ?_ AllR.nil
    refine A_op (ls' := #[true, true, true, true, true, true, true, true, true, true, true, true, false]) rfl (by kernel_rfl) (T_alloc z111 H50_ ?_)
    intro b52_ w53_ S55_ H54_
    have S56_ := Same.trans (Same.trans S19_ (Same.drew _)) S55_
    refine ⟨⟨(And.intro (Holds.rdf H54_ 3 rfl) (Holds.blk H54_ 3 rfl)), Holds.tr_rd H54_ 4 rfl 6 rfl, Holds.tr_rd H54_ 5 rfl 6 rfl, (Holds.ro_at H54_ 1 rfl)⟩, ?_⟩
    refine A_ready (i := 12) (rs := []) (by kernel_rfl) ?_
    refine AllR.cons ?_ AllR.nil
    refine A_op0 (ls' := #[true, true, true, true, true, true, true, true, true, true, true, true, true]) rfl (by kernel_rfl) (T_storeN (vs := [f4_n.b, f4_n.mx]) rfl rfl z111 rfl (List.forall_mem_cons.2 ⟨(O.one (hT.1.b)), (List.forall_mem_cons.2 ⟨(O.one (hT.1.m)), (fun _ h__ => by cases h__)⟩)⟩) H54_ 0 rfl (Nat.le_of_ble_eq_true (by rfl)) ?_)
    intro w57_ S59_ H58_
    have S60_ := Same.trans S56_ S59_
    refine ⟨⟨(And.intro (Holds.rdf H58_ 3 rfl) (Holds.blk H58_ 3 rfl)), Holds.tr_rd H58_ 4 rfl 6 rfl, Holds.tr_rd H58_ 5 rfl 6 rfl, (Holds.ro_at H58_ 1 rfl)⟩, ?_⟩
    refine A_done (by kernel_rfl) ?_
    refine (X_then (hK49_ _ _ ?_))
    clear hK49_
    refine C_seq (fun K61_ hK61_ => C_reg ?_)
    refine sv (v := (vQ ib)) (x_move rfl) ?_
    refine sv (v := (Value.iface 290 (vQ ib))) (by kernel_rfl) ?_
    have H63_ := ((Holds.bring (Holds.bring (Holds.bring H58_ 2 rfl) 1 rfl) 2 rfl) :)
    refine S_list (T_call (al := [(vQ b52_), (Value.iface 290 (vQ ib))]) (pre := [cl b52_ 111 [f4_n.b, f4_n.mx], cl ib 111 [mb, me]]) rfl rfl cb163 (itCmp2 R K O b52_ ib f4_n.b f4_n.mx mb me f4_n.kb f4_n.km kb ke (hT.1.b) (hT.1.m) (hb) (he)) H63_ ?_)
    rintro v62_ p67_ w64_ ⟨rfl, rfl⟩ S66_ H65_
    have S68_ := Same.trans S60_ S66_
    refine sv (v := (vB (decide (icmp O f4_n.kb f4_n.km kb ke = 0)))) (x_bin rfl rfl rfl) ?_
    refine wpList_nil (X_then (hK61_ _ _ ?_))
    clear hK61_
    refine C_cond (b := decide (icmp O f4_n.kb f4_n.km kb ke = 0)) rfl (fun c69_t => ?_) (fun c69_f => ?_)
    ·have c69_tp : icmp O f4_n.kb f4_n.km kb ke = 0 := of_decide_eq_true c69_t
     refine C_seq (fun K70_ hK70_ => C_reg ?_)
     refine sv (v := (vQ f4_n.a)) (x_move rfl) ?_
     refine sv (v := (vQ f4_n.a)) (by kernel_rfl) ?_
     refine sv (v := (vP (some ⟨f4_n.a, 4, none⟩))) (by kernel_rfl) ?_
     refine sv (v := (vQ (rt sb f4_a))) (x_load1 rfl Try.underlying182 rfl ((Holds.rdf H65_ 3 rfl) 4 (vQ (rt sb f4_a)) rfl)) ?_
     refine sv (v := (vQ ib)) (x_move rfl) ?_
     refine sv (v := (vQ sb)) (x_move rfl) ?_
     refine sv (v := (Value.func (.func 168) #[] #[(vQ cb)])) (x_move rfl) ?_
     have H73_ := ((Holds.bring (Holds.bring (Holds.bring (Holds.bring (Holds.bring H65_ 7 rfl) 3 rfl) 7 rfl) 6 rfl) 4 rfl) :)
     refine S_list (T_call (al := [(vQ (rt sb f4_a)), (vQ ib), (vQ sb), (Value.func (.func 168) #[] #[(vQ cb)])]) (pre := [tr sb f4_n.a f4_a, clf sb 185 sc, cl ib 111 [mb, me], vp P s]) rfl rfl cb167 (ih R K O σ P I step sc ib cb sb f4_n.a f4_a s mb me kb ke (by first | assumption | omega) (hb) (he) (by first | assumption | omega) (hstep) (by first | assumption | omega)) H73_ ?_)
     rintro v71_ p77_ w74_ ⟨rfl, rfl, he72_⟩ S76_ H75_
     have S78_ := Same.trans S68_ S76_
     refine sv (v := (vB (!((vis O step kb ke f4_a s).2)))) (x_not rfl) ?_
     refine sv (v := (vB (!((vis O step kb ke f4_a s).2)))) (x_move rfl) ?_
     rcases Bool.eq_false_or_eq_true (!((vis O step kb ke f4_a s).2)) with c79_t | c79_f
     ·skip
      refine S_no (j := 9) (dj := 86) (b := true) rfl rfl (congrArg vB c79_t) (by decide) ?_
      refine S_no (j := 9) (dj := 86) (b := true) rfl rfl (congrArg vB c79_t) (by decide) ?_
      refine S_no (j := 9) (dj := 86) (b := true) rfl rfl (congrArg vB c79_t) (by decide) ?_
      refine S_no (j := 9) (dj := 86) (b := true) rfl rfl (congrArg vB c79_t) (by decide) ?_
      refine S_no (j := 9) (dj := 86) (b := true) rfl rfl (congrArg vB c79_t) (by decide) ?_
      refine S_no (j := 9) (dj := 86) (b := true) rfl rfl (congrArg vB c79_t) (by decide) ?_
      refine S_no (j := 9) (dj := 86) (b := true) rfl rfl (congrArg vB c79_t) (by decide) ?_
      refine S_no (j := 9) (dj := 86) (b := true) rfl rfl (congrArg vB c79_t) (by decide) ?_
      refine S_no (j := 9) (dj := 86) (b := true) rfl rfl (congrArg vB c79_t) (by decide) ?_
      refine S_list (T_pickT (v := (vB true)) (congrArg vB c79_t) rfl ?_)
      refine wpList_nil (X_then (hK70_ _ _ ?_))
      clear hK70_
      refine C_condT rfl ?_
      refine C_seq (fun K80_ hK80_ => C_reg ?_)
      refine sv (v := (vB false)) (x_assign rfl) ?_
      refine wpList_nil (X_then (hK80_ _ _ ?_))
      clear hK80_
      refine C_ret (X_blkR (X_thenR ?_))
      refine R_any (v := (vB false)) (run_results1 rfl rfl) ?_
      have H81_ := ((Holds.bring (Holds.bring (Holds.bring H75_ 7 rfl) 2 rfl) 7 rfl) :)
      have H82_ := Holds.nd_tr (n := f4_n) (a := f4_a) (b := f4_b) H81_
      have q83_ := c22_f; first | (simp only [decide_eq_true_eq, decide_eq_false_iff_not, Bool.not_eq_true', Bool.not_eq_false'] at q83_) | skip
      have q84_ := c48_t; first | (simp only [decide_eq_true_eq, decide_eq_false_iff_not, Bool.not_eq_true', Bool.not_eq_false'] at q84_) | skip
      have q85_ := c69_t; first | (simp only [decide_eq_true_eq, decide_eq_false_iff_not, Bool.not_eq_true', Bool.not_eq_false'] at q85_) | skip
      have q86_ := c79_t; first | (simp only [decide_eq_true_eq, decide_eq_false_iff_not, Bool.not_eq_true', Bool.not_eq_false'] at q86_) | skip
      have hv_ : vis O step kb ke (Tr.nd f4_n f4_a f4_b) s = ((vis O step kb ke f4_a s).1, false) := by simp [Prod.ext_iff, vis, q83_, q84_, q85_, q86_]
      have eH87_ : vp P ((vis O step kb ke f4_a s).1) = vp P ((vis O step kb ke (Tr.nd f4_n f4_a f4_b) s).1) := congrArg (vp P) (congrArg Prod.fst hv_).symm
      have H87_ : Holds w74_ (tr sb p (Tr.nd f4_n f4_a f4_b) :: ro R :: clf sb 185 sc :: cl ib 111 [mb, me] :: vp P ((vis O step kb ke (Tr.nd f4_n f4_a f4_b) s).1) :: cl b52_ 111 [f4_n.b, f4_n.mx] :: F) := cast1 (P := fun c__ => Holds w74_ (tr sb p (Tr.nd f4_n f4_a f4_b) :: ro R :: clf sb 185 sc :: cl ib 111 [mb, me] :: c__ :: cl b52_ 111 [f4_n.b, f4_n.mx] :: F)) eH87_ H82_
      have H88_ : Holds w74_ (ro R :: tr sb p (Tr.nd f4_n f4_a f4_b) :: clf sb 185 sc :: cl ib 111 [mb, me] :: vp P ((vis O step kb ke (Tr.nd f4_n f4_a f4_b) s).1) :: F) := (Holds.pkF H87_ [1, 0, 0, 0, 0] 1 :)
      exact ⟨_, _, rfl, ⟨(congrArg vB ((congrArg Prod.snd hv_).symm : false = ((vis O step kb ke (Tr.nd f4_n f4_a f4_b) s).2))), rfl, ((by rw [hv_]; assumption))⟩, S78_, H88_⟩
     ·skip
      refine S_yes (j := 9) (dj := 86) (b := false) rfl rfl (congrArg vB c79_f) (T_val (v := (vQ f4_n.a)) (x_move rfl) ?_)
      refine S_yes (j := 9) (dj := 86) (b := false) rfl rfl (congrArg vB c79_f) (T_val (v := (vQ f4_n.a)) (by kernel_rfl) ?_)
      refine S_yes (j := 9) (dj := 86) (b := false) rfl rfl (congrArg vB c79_f) (T_val (v := (vP (some ⟨f4_n.a, 5, none⟩))) (by kernel_rfl) ?_)
      refine S_yes (j := 9) (dj := 86) (b := false) rfl rfl (congrArg vB c79_f) (T_val (v := (vQ (rt sb f4_b))) (x_load1 rfl Try.underlying182 rfl ((Holds.rdf H75_ 6 rfl) 5 (vQ (rt sb f4_b)) rfl)) ?_)
      refine S_yes (j := 9) (dj := 86) (b := false) rfl rfl (congrArg vB c79_f) (T_val (v := (vQ ib)) (x_move rfl) ?_)
      refine S_yes (j := 9) (dj := 86) (b := false) rfl rfl (congrArg vB c79_f) (T_val (v := (vQ sb)) (x_move rfl) ?_)
      refine S_yes (j := 9) (dj := 86) (b := false) rfl rfl (congrArg vB c79_f) (T_val (v := (Value.func (.func 168) #[] #[(vQ cb)])) (x_move rfl) ?_)
      have H91_ := ((Holds.bring (Holds.bring (Holds.bring (Holds.bring (Holds.bring H75_ 4 rfl) 4 rfl) 4 rfl) 7 rfl) 4 rfl) :)
      refine S_yes (j := 9) (dj := 86) (b := false) rfl rfl (congrArg vB c79_f) (T_call (al := [(vQ (rt sb f4_b)), (vQ ib), (vQ sb), (Value.func (.func 168) #[] #[(vQ cb)])]) (pre := [tr sb f4_n.a f4_b, clf sb 185 sc, cl ib 111 [mb, me], vp P ((vis O step kb ke f4_a s).1)]) rfl rfl cb167 (ih R K O σ P I step sc ib cb sb f4_n.a f4_b ((vis O step kb ke f4_a s).1) mb me kb ke (by first | assumption | omega) (hb) (he) (by first | assumption | omega) (hstep) (by first | assumption | omega)) H91_ ?_)
      rintro v89_ p95_ w92_ ⟨rfl, rfl, he90_⟩ S94_ H93_
      have S96_ := Same.trans S78_ S94_
      refine S_yes (j := 9) (dj := 86) (b := false) rfl rfl (congrArg vB c79_f) (T_val (v := (vB (!((vis O step kb ke f4_b ((vis O step kb ke f4_a s).1)).2)))) (x_not rfl) ?_)
      refine S_list (T_pickF (v := (vB (!((vis O step kb ke f4_b ((vis O step kb ke f4_a s).1)).2)))) (congrArg vB c79_f) rfl ?_)
      refine wpList_nil (X_then (hK70_ _ _ ?_))
      clear hK70_
      refine C_cond (b := !((vis O step kb ke f4_b ((vis O step kb ke f4_a s).1)).2)) rfl (fun c97_t => ?_) (fun c97_f => ?_)
      ·skip
       refine C_seq (fun K98_ hK98_ => C_reg ?_)
       refine sv (v := (vB false)) (x_assign rfl) ?_
       refine wpList_nil (X_then (hK98_ _ _ ?_))
       clear hK98_
       refine C_ret (X_blkR (X_thenR ?_))
       refine R_any (v := (vB false)) (run_results1 rfl rfl) ?_
       have H99_ := ((Holds.bring (Holds.bring (Holds.bring H93_ 1 rfl) 5 rfl) 7 rfl) :)
       have H100_ := Holds.nd_tr (n := f4_n) (a := f4_a) (b := f4_b) H99_
       have q101_ := c22_f; first | (simp only [decide_eq_true_eq, decide_eq_false_iff_not, Bool.not_eq_true', Bool.not_eq_false'] at q101_) | skip
       have q102_ := c48_t; first | (simp only [decide_eq_true_eq, decide_eq_false_iff_not, Bool.not_eq_true', Bool.not_eq_false'] at q102_) | skip
       have q103_ := c69_t; first | (simp only [decide_eq_true_eq, decide_eq_false_iff_not, Bool.not_eq_true', Bool.not_eq_false'] at q103_) | skip
       have q104_ := c79_f; first | (simp only [decide_eq_true_eq, decide_eq_false_iff_not, Bool.not_eq_true', Bool.not_eq_false'] at q104_) | skip
       have q105_ := c97_t; first | (simp only [decide_eq_true_eq, decide_eq_false_iff_not, Bool.not_eq_true', Bool.not_eq_false'] at q105_) | skip
       have hv_ : vis O step kb ke (Tr.nd f4_n f4_a f4_b) s = ((vis O step kb ke f4_b ((vis O step kb ke f4_a s).1)).1, false) := by simp [Prod.ext_iff, vis, q101_, q102_, q103_, q104_, q105_]
       have eH106_ : vp P ((vis O step kb ke f4_b ((vis O step kb ke f4_a s).1)).1) = vp P ((vis O step kb ke (Tr.nd f4_n f4_a f4_b) s).1) := congrArg (vp P) (congrArg Prod.fst hv_).symm
       have H106_ : Holds w92_ (tr sb p (Tr.nd f4_n f4_a f4_b) :: ro R :: clf sb 185 sc :: cl ib 111 [mb, me] :: vp P ((vis O step kb ke (Tr.nd f4_n f4_a f4_b) s).1) :: cl b52_ 111 [f4_n.b, f4_n.mx] :: F) := cast1 (P := fun c__ => Holds w92_ (tr sb p (Tr.nd f4_n f4_a f4_b) :: ro R :: clf sb 185 sc :: cl ib 111 [mb, me] :: c__ :: cl b52_ 111 [f4_n.b, f4_n.mx] :: F)) eH106_ H100_
       have H107_ : Holds w92_ (ro R :: tr sb p (Tr.nd f4_n f4_a f4_b) :: clf sb 185 sc :: cl ib 111 [mb, me] :: vp P ((vis O step kb ke (Tr.nd f4_n f4_a f4_b) s).1) :: F) := (Holds.pkF H106_ [1, 0, 0, 0, 0] 1 :)
       exact ⟨_, _, rfl, ⟨(congrArg vB ((congrArg Prod.snd hv_).symm : false = ((vis O step kb ke (Tr.nd f4_n f4_a f4_b) s).2))), rfl, ((by rw [hv_]; assumption))⟩, S96_, H107_⟩
      ·skip
       refine C_skip (X_blkN (X_then (hK20_ _ _ ?_)))
       clear hK20_
       refine C_seq (fun K108_ hK108_ => C_reg ?_)
       refine sv (v := (vB true)) (x_assign rfl) ?_
       refine wpList_nil (X_then (hK108_ _ _ ?_))
       clear hK108_
       refine C_ret ?_
       refine R_any (v := (vB true)) (run_results1 rfl rfl) ?_
       have H109_ := ((Holds.bring (Holds.bring (Holds.bring H93_ 1 rfl) 5 rfl) 7 rfl) :)
       have H110_ := Holds.nd_tr (n := f4_n) (a := f4_a) (b := f4_b) H109_
       have q111_ := c22_f; first | (simp only [decide_eq_true_eq, decide_eq_false_iff_not, Bool.not_eq_true', Bool.not_eq_false'] at q111_) | skip
       have q112_ := c48_t; first | (simp only [decide_eq_true_eq, decide_eq_false_iff_not, Bool.not_eq_true', Bool.not_eq_false'] at q112_) | skip
       have q113_ := c69_t; first | (simp only [decide_eq_true_eq, decide_eq_false_iff_not, Bool.not_eq_true', Bool.not_eq_false'] at q113_) | skip
       have q114_ := c79_f; first | (simp only [decide_eq_true_eq, decide_eq_false_iff_not, Bool.not_eq_true', Bool.not_eq_false'] at q114_) | skip
       have q115_ := c97_f; first | (simp only [decide_eq_true_eq, decide_eq_false_iff_not, Bool.not_eq_true', Bool.not_eq_false'] at q115_) | skip
       have hv_ : vis O step kb ke (Tr.nd f4_n f4_a f4_b) s = ((vis O step kb ke f4_b ((vis O step kb ke f4_a s).1)).1, true) := by simp [Prod.ext_iff, vis, q111_, q112_, q113_, q114_, q115_]
       have eH116_ : vp P ((vis O step kb ke f4_b ((vis O step kb ke f4_a s).1)).1) = vp P ((vis O step kb ke (Tr.nd f4_n f4_a f4_b) s).1) := congrArg (vp P) (congrArg Prod.fst hv_).symm
       have H116_ : Holds w92_ (tr sb p (Tr.nd f4_n f4_a f4_b) :: ro R :: clf sb 185 sc :: cl ib 111 [mb, me] :: vp P ((vis O step kb ke (Tr.nd f4_n f4_a f4_b) s).1) :: cl b52_ 111 [f4_n.b, f4_n.mx] :: F) := cast1 (P := fun c__ => Holds w92_ (tr sb p (Tr.nd f4_n f4_a f4_b) :: ro R :: clf sb 185 sc :: cl ib 111 [mb, me] :: c__ :: cl b52_ 111 [f4_n.b, f4_n.mx] :: F)) eH116_ H110_
       have H117_ : Holds w92_ (ro R :: tr sb p (Tr.nd f4_n f4_a f4_b) :: clf sb 185 sc :: cl ib 111 [mb, me] :: vp P ((vis O step kb ke (Tr.nd f4_n f4_a f4_b) s).1) :: F) := (Holds.pkF H116_ [1, 0, 0, 0, 0] 1 :)
       exact ⟨_, _, rfl, ⟨(congrArg vB ((congrArg Prod.snd hv_).symm : true = ((vis O step kb ke (Tr.nd f4_n f4_a f4_b) s).2))), rfl, ((by rw [hv_]; assumption))⟩, S96_, H117_⟩
    ·have c69_fp : ¬ (icmp O f4_n.kb f4_n.km kb ke = 0) := of_decide_eq_false c69_f
     refine C_skip (X_blkN (X_then (hK20_ _ _ ?_)))
     clear hK20_
     refine C_seq (fun K118_ hK118_ => C_reg ?_)
     refine sv (v := (vB true)) (x_assign rfl) ?_
     refine wpList_nil (X_then (hK118_ _ _ ?_))
     clear hK118_
     refine C_ret ?_
     refine R_any (v := (vB true)) (run_results1 rfl rfl) ?_
     have H119_ := ((Holds.bring (Holds.bring (Holds.bring H65_ 5 rfl) 5 rfl) 5 rfl) :)
     have H120_ := Holds.nd_tr (n := f4_n) (a := f4_a) (b := f4_b) H119_
     have q121_ := c22_f; first | (simp only [decide_eq_true_eq, decide_eq_false_iff_not, Bool.not_eq_true', Bool.not_eq_false'] at q121_) | skip
     have q122_ := c48_t; first | (simp only [decide_eq_true_eq, decide_eq_false_iff_not, Bool.not_eq_true', Bool.not_eq_false'] at q122_) | skip
     have q123_ := c69_f; first | (simp only [decide_eq_true_eq, decide_eq_false_iff_not, Bool.not_eq_true', Bool.not_eq_false'] at q123_) | skip
     have hv_ : vis O step kb ke (Tr.nd f4_n f4_a f4_b) s = (s, true) := by simp [Prod.ext_iff, vis, q121_, q122_, q123_]
     have eH124_ : vp P s = vp P ((vis O step kb ke (Tr.nd f4_n f4_a f4_b) s).1) := congrArg (vp P) (congrArg Prod.fst hv_).symm
     have H124_ : Holds w64_ (tr sb p (Tr.nd f4_n f4_a f4_b) :: ro R :: cl b52_ 111 [f4_n.b, f4_n.mx] :: cl ib 111 [mb, me] :: clf sb 185 sc :: vp P ((vis O step kb ke (Tr.nd f4_n f4_a f4_b) s).1) :: F) := cast1 (P := fun c__ => Holds w64_ (tr sb p (Tr.nd f4_n f4_a f4_b) :: ro R :: cl b52_ 111 [f4_n.b, f4_n.mx] :: cl ib 111 [mb, me] :: clf sb 185 sc :: c__ :: F)) eH124_ H120_
     have H125_ : Holds w64_ (ro R :: tr sb p (Tr.nd f4_n f4_a f4_b) :: clf sb 185 sc :: cl ib 111 [mb, me] :: vp P ((vis O step kb ke (Tr.nd f4_n f4_a f4_b) s).1) :: F) := (Holds.pkF H124_ [1, 0, 2, 1, 1] 1 :)
     exact ⟨_, _, rfl, ⟨(congrArg vB ((congrArg Prod.snd hv_).symm : true = ((vis O step kb ke (Tr.nd f4_n f4_a f4_b) s).2))), rfl, ((by rw [hv_]; assumption))⟩, S68_, H125_⟩
   ·have c48_fp : ¬ (0 < icmp O kb ke f4_n.kb f4_n.ke) := of_decide_eq_false c48_f
    refine C_seq (fun K126_ hK126_ => C_reg ?_)
    refine sv (v := (vQ f4_n.a)) (x_move rfl) ?_
    refine sv (v := (vQ f4_n.a)) (by kernel_rfl) ?_
    refine sv (v := (vP (some ⟨f4_n.a, 4, none⟩))) (by kernel_rfl) ?_
    refine sv (v := (vQ (rt sb f4_a))) (x_load1 rfl Try.underlying182 rfl ((Holds.rdf H16_ 2 rfl) 4 (vQ (rt sb f4_a)) rfl)) ?_
    refine sv (v := (vQ ib)) (x_move rfl) ?_
    refine sv (v := (vQ sb)) (x_move rfl) ?_
    refine sv (v := (Value.func (.func 168) #[] #[(vQ cb)])) (x_move rfl) ?_
    have H129_ := ((Holds.bring (Holds.bring (Holds.bring (Holds.bring (Holds.bring H16_ 6 rfl) 2 rfl) 6 rfl) 5 rfl) 4 rfl) :)
    refine S_list (T_call (al := [(vQ (rt sb f4_a)), (vQ ib), (vQ sb), (Value.func (.func 168) #[] #[(vQ cb)])]) (pre := [tr sb f4_n.a f4_a, clf sb 185 sc, cl ib 111 [mb, me], vp P s]) rfl rfl cb167 (ih R K O σ P I step sc ib cb sb f4_n.a f4_a s mb me kb ke (by first | assumption | omega) (hb) (he) (by first | assumption | omega) (hstep) (by first | assumption | omega)) H129_ ?_)
    rintro v127_ p133_ w130_ ⟨rfl, rfl, he128_⟩ S132_ H131_
    have S134_ := Same.trans S19_ S132_
    refine sv (v := (vB (!((vis O step kb ke f4_a s).2)))) (x_not rfl) ?_
    refine sv (v := (vB (!((vis O step kb ke f4_a s).2)))) (x_move rfl) ?_
    rcases Bool.eq_false_or_eq_true (!((vis O step kb ke f4_a s).2)) with c135_t | c135_f
    ·skip
     refine S_no (j := 9) (dj := 30) (b := true) rfl rfl (congrArg vB c135_t) (by decide) ?_
     refine S_no (j := 9) (dj := 30) (b := true) rfl rfl (congrArg vB c135_t) (by decide) ?_
     refine S_no (j := 9) (dj := 30) (b := true) rfl rfl (congrArg vB c135_t) (by decide) ?_
     refine S_no (j := 9) (dj := 30) (b := true) rfl rfl (congrArg vB c135_t) (by decide) ?_
     refine S_list (T_pickT (v := (vB true)) (congrArg vB c135_t) rfl ?_)
     refine sv (v := (vB true)) (x_move rfl) ?_
     refine S_no (j := 15) (dj := 36) (b := true) rfl rfl rfl (by decide) ?_
     refine S_no (j := 15) (dj := 36) (b := true) rfl rfl rfl (by decide) ?_
     refine S_no (j := 15) (dj := 36) (b := true) rfl rfl rfl (by decide) ?_
     refine S_no (j := 15) (dj := 36) (b := true) rfl rfl rfl (by decide) ?_
     refine S_no (j := 15) (dj := 36) (b := true) rfl rfl rfl (by decide) ?_
     refine S_no (j := 15) (dj := 36) (b := true) rfl rfl rfl (by decide) ?_
     refine S_no (j := 15) (dj := 36) (b := true) rfl rfl rfl (by decide) ?_
     refine S_no (j := 15) (dj := 36) (b := true) rfl rfl rfl (by decide) ?_
     refine S_no (j := 15) (dj := 36) (b := true) rfl rfl rfl (by decide) ?_
     refine S_list (T_pickT (v := (vB true)) rfl rfl ?_)
     refine wpList_nil (X_then (hK126_ _ _ ?_))
     clear hK126_
     refine C_condT rfl ?_
     refine C_seq (fun K136_ hK136_ => C_reg ?_)
     refine sv (v := (vB false)) (x_assign rfl) ?_
     refine wpList_nil (X_then (hK136_ _ _ ?_))
     clear hK136_
     refine C_ret (X_blkR (X_thenR ?_))
     refine R_any (v := (vB false)) (run_results1 rfl rfl) ?_
     have H137_ := ((Holds.bring (Holds.bring (Holds.bring H131_ 6 rfl) 2 rfl) 6 rfl) :)
     have H138_ := Holds.nd_tr (n := f4_n) (a := f4_a) (b := f4_b) H137_
     have q139_ := c22_f; first | (simp only [decide_eq_true_eq, decide_eq_false_iff_not, Bool.not_eq_true', Bool.not_eq_false'] at q139_) | skip
     have q140_ := c48_f; first | (simp only [decide_eq_true_eq, decide_eq_false_iff_not, Bool.not_eq_true', Bool.not_eq_false'] at q140_) | skip
     have q141_ := c135_t; first | (simp only [decide_eq_true_eq, decide_eq_false_iff_not, Bool.not_eq_true', Bool.not_eq_false'] at q141_) | skip
     have hv_ : vis O step kb ke (Tr.nd f4_n f4_a f4_b) s = ((vis O step kb ke f4_a s).1, false) := by simp [Prod.ext_iff, vis, q139_, q140_, q141_]
     have eH142_ : vp P ((vis O step kb ke f4_a s).1) = vp P ((vis O step kb ke (Tr.nd f4_n f4_a f4_b) s).1) := congrArg (vp P) (congrArg Prod.fst hv_).symm
     have H142_ : Holds w130_ (tr sb p (Tr.nd f4_n f4_a f4_b) :: ro R :: clf sb 185 sc :: cl ib 111 [mb, me] :: vp P ((vis O step kb ke (Tr.nd f4_n f4_a f4_b) s).1) :: F) := cast1 (P := fun c__ => Holds w130_ (tr sb p (Tr.nd f4_n f4_a f4_b) :: ro R :: clf sb 185 sc :: cl ib 111 [mb, me] :: c__ :: F)) eH142_ H138_
     have H143_ : Holds w130_ (ro R :: tr sb p (Tr.nd f4_n f4_a f4_b) :: clf sb 185 sc :: cl ib 111 [mb, me] :: vp P ((vis O step kb ke (Tr.nd f4_n f4_a f4_b) s).1) :: F) := (Holds.pkF H142_ [1, 0, 0, 0, 0] 0 :)
     exact ⟨_, _, rfl, ⟨(congrArg vB ((congrArg Prod.snd hv_).symm : false = ((vis O step kb ke (Tr.nd f4_n f4_a f4_b) s).2))), rfl, ((by rw [hv_]; assumption))⟩, S134_, H143_⟩
    ·skip
     refine S_yes (j := 9) (dj := 30) (b := false) rfl rfl (congrArg vB c135_f) (T_val (v := (Value.func (.func 168) #[] #[(vQ cb)])) (x_move rfl) ?_)
     refine S_yes (j := 9) (dj := 30) (b := false) rfl rfl (congrArg vB c135_f) (T_val (v := (vQ f4_n.a)) (x_move rfl) ?_)
     have H146_ := ((Holds.bring (Holds.bring (Holds.bring H131_ 4 rfl) 5 rfl) 2 rfl) :)
     refine S_yes (j := 9) (dj := 30) (b := false) rfl rfl (congrArg vB c135_f) (T_call (al := [(vQ f4_n.a), (vQ cb)]) (pre := [clf f4_n.a 185 [f4_n.b, f4_n.e, f4_n.v, f4_n.mx, (vQ (rt sb f4_a)), (vQ (rt sb f4_b)), (vQ p), (vI .i64 f4_n.c)], vp P ((vis O step kb ke f4_a s).1)]) rfl rfl cb168 (hstep R ((vis O step kb ke f4_a s).1) f4_n (rt sb f4_a) (rt sb f4_b) p (by first | assumption | omega) (hT.1)) H146_ ?_)
     rintro v144_ p150_ w147_ ⟨rfl, rfl, he145_⟩ S149_ H148_
     have S151_ := Same.trans S134_ S149_
     refine S_yes (j := 9) (dj := 30) (b := false) rfl rfl (congrArg vB c135_f) (T_val (v := (vB (!((step ((vis O step kb ke f4_a s).1) f4_n).2)))) (x_not rfl) ?_)
     refine S_list (T_pickF (v := (vB (!((step ((vis O step kb ke f4_a s).1) f4_n).2)))) (congrArg vB c135_f) rfl ?_)
     refine sv (v := (vB (!((step ((vis O step kb ke f4_a s).1) f4_n).2)))) (x_move rfl) ?_
     rcases Bool.eq_false_or_eq_true (!((step ((vis O step kb ke f4_a s).1) f4_n).2)) with c152_t | c152_f
     ·skip
      refine S_no (j := 15) (dj := 36) (b := true) rfl rfl (congrArg vB c152_t) (by decide) ?_
      refine S_no (j := 15) (dj := 36) (b := true) rfl rfl (congrArg vB c152_t) (by decide) ?_
      refine S_no (j := 15) (dj := 36) (b := true) rfl rfl (congrArg vB c152_t) (by decide) ?_
      refine S_no (j := 15) (dj := 36) (b := true) rfl rfl (congrArg vB c152_t) (by decide) ?_
      refine S_no (j := 15) (dj := 36) (b := true) rfl rfl (congrArg vB c152_t) (by decide) ?_
      refine S_no (j := 15) (dj := 36) (b := true) rfl rfl (congrArg vB c152_t) (by decide) ?_
      refine S_no (j := 15) (dj := 36) (b := true) rfl rfl (congrArg vB c152_t) (by decide) ?_
      refine S_no (j := 15) (dj := 36) (b := true) rfl rfl (congrArg vB c152_t) (by decide) ?_
      refine S_no (j := 15) (dj := 36) (b := true) rfl rfl (congrArg vB c152_t) (by decide) ?_
      refine S_list (T_pickT (v := (vB true)) (congrArg vB c152_t) rfl ?_)
      refine wpList_nil (X_then (hK126_ _ _ ?_))
      clear hK126_
      refine C_condT rfl ?_
      refine C_seq (fun K153_ hK153_ => C_reg ?_)
      refine sv (v := (vB false)) (x_assign rfl) ?_
      refine wpList_nil (X_then (hK153_ _ _ ?_))
      clear hK153_
      refine C_ret (X_blkR (X_thenR ?_))
      refine R_any (v := (vB false)) (run_results1 rfl rfl) ?_
      have H154_ := ((Holds.bring (Holds.bring (Holds.bring H148_ 6 rfl) 4 rfl) 3 rfl) :)
      have H155_ := Holds.nd_tr (n := f4_n) (a := f4_a) (b := f4_b) H154_
      have q156_ := c22_f; first | (simp only [decide_eq_true_eq, decide_eq_false_iff_not, Bool.not_eq_true', Bool.not_eq_false'] at q156_) | skip
      have q157_ := c48_f; first | (simp only [decide_eq_true_eq, decide_eq_false_iff_not, Bool.not_eq_true', Bool.not_eq_false'] at q157_) | skip
      have q158_ := c135_f; first | (simp only [decide_eq_true_eq, decide_eq_false_iff_not, Bool.not_eq_true', Bool.not_eq_false'] at q158_) | skip
      have q159_ := c152_t; first | (simp only [decide_eq_true_eq, decide_eq_false_iff_not, Bool.not_eq_true', Bool.not_eq_false'] at q159_) | skip
      have hv_ : vis O step kb ke (Tr.nd f4_n f4_a f4_b) s = ((step ((vis O step kb ke f4_a s).1) f4_n).1, false) := by simp [Prod.ext_iff, vis, q156_, q157_, q158_, q159_]
      have eH160_ : vp P ((step ((vis O step kb ke f4_a s).1) f4_n).1) = vp P ((vis O step kb ke (Tr.nd f4_n f4_a f4_b) s).1) := congrArg (vp P) (congrArg Prod.fst hv_).symm
      have H160_ : Holds w147_ (tr sb p (Tr.nd f4_n f4_a f4_b) :: ro R :: vp P ((vis O step kb ke (Tr.nd f4_n f4_a f4_b) s).1) :: clf sb 185 sc :: cl ib 111 [mb, me] :: F) := cast1 (P := fun c__ => Holds w147_ (tr sb p (Tr.nd f4_n f4_a f4_b) :: ro R :: c__ :: clf sb 185 sc :: cl ib 111 [mb, me] :: F)) eH160_ H155_
      have H161_ : Holds w147_ (ro R :: tr sb p (Tr.nd f4_n f4_a f4_b) :: clf sb 185 sc :: cl ib 111 [mb, me] :: vp P ((vis O step kb ke (Tr.nd f4_n f4_a f4_b) s).1) :: F) := (Holds.pkF H160_ [1, 0, 1, 1, 0] 0 :)
      exact ⟨_, _, rfl, ⟨(congrArg vB ((congrArg Prod.snd hv_).symm : false = ((vis O step kb ke (Tr.nd f4_n f4_a f4_b) s).2))), rfl, ((by rw [hv_]; assumption))⟩, S151_, H161_⟩
     ·skip
      refine S_yes (j := 15) (dj := 36) (b := false) rfl rfl (congrArg vB c152_f) (T_val (v := (vQ f4_n.a)) (x_move rfl) ?_)
      refine S_yes (j := 15) (dj := 36) (b := false) rfl rfl (congrArg vB c152_f) (T_val (v := (vQ f4_n.a)) (by kernel_rfl) ?_)
      refine S_yes (j := 15) (dj := 36) (b := false) rfl rfl (congrArg vB c152_f) (T_val (v := (vP (some ⟨f4_n.a, 5, none⟩))) (by kernel_rfl) ?_)
      refine S_yes (j := 15) (dj := 36) (b := false) rfl rfl (congrArg vB c152_f) (T_val (v := (vQ (rt sb f4_b))) (x_load1 rfl Try.underlying182 rfl ((Holds.rdf H148_ 1 rfl) 5 (vQ (rt sb f4_b)) rfl)) ?_)
      refine S_yes (j := 15) (dj := 36) (b := false) rfl rfl (congrArg vB c152_f) (T_val (v := (vQ ib)) (x_move rfl) ?_)
      refine S_yes (j := 15) (dj := 36) (b := false) rfl rfl (congrArg vB c152_f) (T_val (v := (vQ sb)) (x_move rfl) ?_)
      refine S_yes (j := 15) (dj := 36) (b := false) rfl rfl (congrArg vB c152_f) (T_val (v := (Value.func (.func 168) #[] #[(vQ cb)])) (x_move rfl) ?_)
      have H164_ := ((Holds.bring (Holds.bring (Holds.bring (Holds.bring (Holds.bring H148_ 2 rfl) 5 rfl) 5 rfl) 6 rfl) 4 rfl) :)
      refine S_yes (j := 15) (dj := 36) (b := false) rfl rfl (congrArg vB c152_f) (T_call (al := [(vQ (rt sb f4_b)), (vQ ib), (vQ sb), (Value.func (.func 168) #[] #[(vQ cb)])]) (pre := [tr sb f4_n.a f4_b, clf sb 185 sc, cl ib 111 [mb, me], vp P ((step ((vis O step kb ke f4_a s).1) f4_n).1)]) rfl rfl cb167 (ih R K O σ P I step sc ib cb sb f4_n.a f4_b ((step ((vis O step kb ke f4_a s).1) f4_n).1) mb me kb ke (by first | assumption | omega) (hb) (he) (by first | assumption | omega) (hstep) (by first | assumption | omega)) H164_ ?_)
      rintro v162_ p168_ w165_ ⟨rfl, rfl, he163_⟩ S167_ H166_
      have S169_ := Same.trans S151_ S167_
      refine S_yes (j := 15) (dj := 36) (b := false) rfl rfl (congrArg vB c152_f) (T_val (v := (vB (!((vis O step kb ke f4_b ((step ((vis O step kb ke f4_a s).1) f4_n).1)).2)))) (x_not rfl) ?_)
      refine S_list (T_pickF (v := (vB (!((vis O step kb ke f4_b ((step ((vis O step kb ke f4_a s).1) f4_n).1)).2)))) (congrArg vB c152_f) rfl ?_)
      refine wpList_nil (X_then (hK126_ _ _ ?_))
      clear hK126_
      refine C_cond (b := !((vis O step kb ke f4_b ((step ((vis O step kb ke f4_a s).1) f4_n).1)).2)) rfl (fun c170_t => ?_) (fun c170_f => ?_)
      ·skip
       refine C_seq (fun K171_ hK171_ => C_reg ?_)
       refine sv (v := (vB false)) (x_assign rfl) ?_
       refine wpList_nil (X_then (hK171_ _ _ ?_))
       clear hK171_
       refine C_ret (X_blkR (X_thenR ?_))
       refine R_any (v := (vB false)) (run_results1 rfl rfl) ?_
       have H172_ := ((Holds.bring (Holds.bring (Holds.bring H166_ 1 rfl) 6 rfl) 6 rfl) :)
       have H173_ := Holds.nd_tr (n := f4_n) (a := f4_a) (b := f4_b) H172_
       have q174_ := c22_f; first | (simp only [decide_eq_true_eq, decide_eq_false_iff_not, Bool.not_eq_true', Bool.not_eq_false'] at q174_) | skip
       have q175_ := c48_f; first | (simp only [decide_eq_true_eq, decide_eq_false_iff_not, Bool.not_eq_true', Bool.not_eq_false'] at q175_) | skip
       have q176_ := c135_f; first | (simp only [decide_eq_true_eq, decide_eq_false_iff_not, Bool.not_eq_true', Bool.not_eq_false'] at q176_) | skip
       have q177_ := c152_f; first | (simp only [decide_eq_true_eq, decide_eq_false_iff_not, Bool.not_eq_true', Bool.not_eq_false'] at q177_) | skip
       have q178_ := c170_t; first | (simp only [decide_eq_true_eq, decide_eq_false_iff_not, Bool.not_eq_true', Bool.not_eq_false'] at q178_) | skip
       have hv_ : vis O step kb ke (Tr.nd f4_n f4_a f4_b) s = ((vis O step kb ke f4_b ((step ((vis O step kb ke f4_a s).1) f4_n).1)).1, false) := by simp [Prod.ext_iff, vis, q174_, q175_, q176_, q177_, q178_]
       have eH179_ : vp P ((vis O step kb ke f4_b ((step ((vis O step kb ke f4_a s).1) f4_n).1)).1) = vp P ((vis O step kb ke (Tr.nd f4_n f4_a f4_b) s).1) := congrArg (vp P) (congrArg Prod.fst hv_).symm
       have H179_ : Holds w165_ (tr sb p (Tr.nd f4_n f4_a f4_b) :: ro R :: clf sb 185 sc :: cl ib 111 [mb, me] :: vp P ((vis O step kb ke (Tr.nd f4_n f4_a f4_b) s).1) :: F) := cast1 (P := fun c__ => Holds w165_ (tr sb p (Tr.nd f4_n f4_a f4_b) :: ro R :: clf sb 185 sc :: cl ib 111 [mb, me] :: c__ :: F)) eH179_ H173_
       have H180_ : Holds w165_ (ro R :: tr sb p (Tr.nd f4_n f4_a f4_b) :: clf sb 185 sc :: cl ib 111 [mb, me] :: vp P ((vis O step kb ke (Tr.nd f4_n f4_a f4_b) s).1) :: F) := (Holds.pkF H179_ [1, 0, 0, 0, 0] 0 :)
       exact ⟨_, _, rfl, ⟨(congrArg vB ((congrArg Prod.snd hv_).symm : false = ((vis O step kb ke (Tr.nd f4_n f4_a f4_b) s).2))), rfl, ((by rw [hv_]; assumption))⟩, S169_, H180_⟩
      ·skip
       refine C_skip (X_blkN (X_then (hK20_ _ _ ?_)))
       clear hK20_
       refine C_seq (fun K181_ hK181_ => C_reg ?_)
       refine sv (v := (vB true)) (x_assign rfl) ?_
       refine wpList_nil (X_then (hK181_ _ _ ?_))
       clear hK181_
       refine C_ret ?_
       refine R_any (v := (vB true)) (run_results1 rfl rfl) ?_
       have H182_ := ((Holds.bring (Holds.bring (Holds.bring H166_ 1 rfl) 6 rfl) 6 rfl) :)
       have H183_ := Holds.nd_tr (n := f4_n) (a := f4_a) (b := f4_b) H182_
       have q184_ := c22_f; first | (simp only [decide_eq_true_eq, decide_eq_false_iff_not, Bool.not_eq_true', Bool.not_eq_false'] at q184_) | skip
       have q185_ := c48_f; first | (simp only [decide_eq_true_eq, decide_eq_false_iff_not, Bool.not_eq_true', Bool.not_eq_false'] at q185_) | skip
       have q186_ := c135_f; first | (simp only [decide_eq_true_eq, decide_eq_false_iff_not, Bool.not_eq_true', Bool.not_eq_false'] at q186_) | skip
       have q187_ := c152_f; first | (simp only [decide_eq_true_eq, decide_eq_false_iff_not, Bool.not_eq_true', Bool.not_eq_false'] at q187_) | skip
       have q188_ := c170_f; first | (simp only [decide_eq_true_eq, decide_eq_false_iff_not, Bool.not_eq_true', Bool.not_eq_false'] at q188_) | skip
       have hv_ : vis O step kb ke (Tr.nd f4_n f4_a f4_b) s = ((vis O step kb ke f4_b ((step ((vis O step kb ke f4_a s).1) f4_n).1)).1, true) := by simp [Prod.ext_iff, vis, q184_, q185_, q186_, q187_, q188_]
       have eH189_ : vp P ((vis O step kb ke f4_b ((step ((vis O step kb ke f4_a s).1) f4_n).1)).1) = vp P ((vis O step kb ke (Tr.nd f4_n f4_a f4_b) s).1) := congrArg (vp P) (congrArg Prod.fst hv_).symm
       have H189_ : Holds w165_ (tr sb p (Tr.nd f4_n f4_a f4_b) :: ro R :: clf sb 185 sc :: cl ib 111 [mb, me] :: vp P ((vis O step kb ke (Tr.nd f4_n f4_a f4_b) s).1) :: F) := cast1 (P := fun c__ => Holds w165_ (tr sb p (Tr.nd f4_n f4_a f4_b) :: ro R :: clf sb 185 sc :: cl ib 111 [mb, me] :: c__ :: F)) eH189_ H183_
       have H190_ : Holds w165_ (ro R :: tr sb p (Tr.nd f4_n f4_a f4_b) :: clf sb 185 sc :: cl ib 111 [mb, me] :: vp P ((vis O step kb ke (Tr.nd f4_n f4_a f4_b) s).1) :: F) := (Holds.pkF H189_ [1, 0, 0, 0, 0] 0 :)
       exact ⟨_, _, rfl, ⟨(congrArg vB ((congrArg Prod.snd hv_).symm : true = ((vis O step kb ke (Tr.nd f4_n f4_a f4_b) s).2))), rfl, ((by rw [hv_]; assumption))⟩, S169_, H190_⟩

theorem itVisit (R : HP) (K : Type) (O : KO K) (σ : Type) (P : σ → SP) (I : HP → σ → Prop) (step : σ → ND K → σ × Bool) (sc : List Value) (ib cb sb p : Nat) (t : Tr K) (s : σ) (mb me : Value) (kb ke : K) (hT : TOk O R t) (hb : O.Val R mb kb) (he : O.Val R me ke) (hi : I R s) (hstep : ∀ (R : HP) (s : σ) (n : ND K) (l r p : Nat) (hi : I R s) (hn : NOk O R n), Tri Try.prog 168 #[pn n.a, pn cb] R [clf n.a 185 (n.cells l r p), vp P s] fun v__ post__ => v__ = (vB (step s n).2) ∧ post__ = [clf n.a 185 (n.cells l r p), vp P (step s n).1] ∧ (I R (step s n).1)) : Tri Try.prog 167 #[(vQ (rt sb t)), (vQ ib), (vQ sb), (Value.func (.func 168) #[] #[(vQ cb)])] R [tr sb p t, clf sb 185 sc, cl ib 111 [mb, me], vp P s] (fun v__ post__ => v__ = (vB ((vis O step kb ke t s).2)) ∧ post__ = [tr sb p t, clf sb 185 sc, cl ib 111 [mb, me], vp P ((vis O step kb ke t s).1)] ∧ (I R (vis O step kb ke t s).1)) := by
  have key : ∀ (n__ : Nat) (R : HP) (K : Type) (O : KO K) (σ : Type) (P : σ → SP) (I : HP → σ → Prop) (step : σ → ND K → σ × Bool) (sc : List Value) (ib cb sb p : Nat) (t : Tr K) (s : σ) (mb me : Value) (kb ke : K) (hT : TOk O R t) (hb : O.Val R mb kb) (he : O.Val R me ke) (hi : I R s) (hstep : ∀ (R : HP) (s : σ) (n : ND K) (l r p : Nat) (hi : I R s) (hn : NOk O R n), Tri Try.prog 168 #[pn n.a, pn cb] R [clf n.a 185 (n.cells l r p), vp P s] fun v__ post__ => v__ = (vB (step s n).2) ∧ post__ = [clf n.a 185 (n.cells l r p), vp P (step s n).1] ∧ (I R (step s n).1)) (hn__ : (ino t).length = n__), Tri Try.prog 167 #[(vQ (rt sb t)), (vQ ib), (vQ sb), (Value.func (.func 168) #[] #[(vQ cb)])] R [tr sb p t, clf sb 185 sc, cl ib 111 [mb, me], vp P s] (fun v__ post__ => v__ = (vB ((vis O step kb ke t s).2)) ∧ post__ = [tr sb p t, clf sb 185 sc, cl ib 111 [mb, me], vp P ((vis O step kb ke t s).1)] ∧ (I R (vis O step kb ke t s).1)) := by
    intro n__
    induction n__ using Nat.strongRecOn with
    | ind n__ ih => intro R K O σ P I step sc ib cb sb p t s mb me kb ke hT hb he hi hstep hn__; exact itVisit_step R K O σ P I step sc ib cb sb p t s mb me kb ke n__ hT hb he hi hstep (Nat.le_of_eq hn__) (fun R K O σ P I step sc ib cb sb p t s mb me kb ke hT hb he hi hstep hms => ih _ hms R K O σ P I step sc ib cb sb p t s mb me kb ke hT hb he hi hstep rfl)
  exact key _ R K O σ P I step sc ib cb sb p t s mb me kb ke hT hb he hi hstep rfl
end Go.Proofs.Ytlnihndjepjagaa
set_option linter.unusedVariables false
set_option linter.unusedSimpArgs false
namespace Go.Proofs.Ytlnihndjepjagaa
open Go Go.RowKit Gw
open Go.Value renaming int → vI, bool → vB, slice → vS, pointer → vP, agg → vA, tuple → vT

set_option maxHeartbeats 8000000 in
theorem itContains (R : HP) (K : Type) (O : KO K) (tb sb : Nat) (cnt : Int) (sc : List Value) (W : Tr K) (it jt : TypeId) (ix jx : Value) (kb ke : K) (hW : TOk O R W) (hb : O.Val R (Value.iface it ix) kb) (he : O.Val R (Value.iface jt jx) ke) :
    Tri Try.prog 143 #[(vQ tb), (vA #[((Value.iface it ix)), ((Value.iface jt jx))])] R [cl tb 188 [(vQ (rt sb W)), (vI .i64 cnt), (vQ sb)], tr sb sb W, clf sb 185 sc] (fun v__ post__ => v__ = (vB ((vis O (CS.step O) kb ke W (⟨none, true⟩ : CS K)).1.yes O kb ke)) ∧ post__ = [cl tb 188 [(vQ (rt sb W)), (vI .i64 cnt), (vQ sb)], tr sb sb W, clf sb 185 sc]) := by
 refine Tri.into (n := 31) (al := [(vQ tb), (vA #[((Value.iface it ix)), ((Value.iface jt jx))])]) Try.func143 rfl Try.ntmps143 rfl rfl fun w F H => ?_
 refine C_seq (fun K1_ hK1_ => C_reg ?_)
 refine S_list (T_box (v := (vA #[((Value.iface it ix)), ((Value.iface jt jx))])) rfl H ?_)
 intro b2_ w3_ S5_ H4_
 have S6_ := Same.trans (Same.refl w) S5_
 refine sv (v := (vB false)) (x_assign rfl) ?_
 refine wpList_nil (X_then (hK1_ _ _ ?_))
 clear hK1_
 refine C_seq (fun K7_ hK7_ => C_reg ?_)
 refine S_list (T_alloc z109 H4_ ?_)
 intro b8_ w9_ S11_ H10_
 have S12_ := Same.trans S6_ S11_
 refine S_list (T_alloc z109 H10_ ?_)
 intro b13_ w14_ S16_ H15_
 have S17_ := Same.trans S12_ S16_
 refine wpList_nil (X_then (hK7_ _ _ ?_))
 clear hK7_
 refine C_seq (fun K18_ hK18_ => C_reg ?_)
 refine S_list (T_alloc z4 H15_ ?_)
 intro b19_ w20_ S22_ H21_
 have S23_ := Same.trans S17_ S22_
 refine S_list0 (T_store1 (v := (vB true)) rfl rfl z4 rfl H21_ 0 rfl (Nat.le_of_ble_eq_true (by rfl)) ?_)
 intro w24_ S26_ H25_
 have S27_ := Same.trans S23_ S26_
 refine wpList_nil (X_then (hK18_ _ _ ?_))
 clear hK18_
 refine C_seq (fun K28_ hK28_ => C_reg ?_)
 refine sv (v := (vQ tb)) (x_move rfl) ?_
 refine sv (v := (vA #[((Value.iface it ix)), ((Value.iface jt jx))])) (x_loadN (vs := [((Value.iface it ix)), ((Value.iface jt jx))]) rfl Try.underlying111 rfl z111 rfl (Rd.cells (Holds.rd H25_ 3 rfl) 0 rfl)) ?_
 refine sv (v := (Value.func (.func 154) #[] #[(vQ b13_), (vQ b8_), (vQ b19_)])) (by kernel_rfl) ?_
 refine S_list (T_callW (al := [(vQ tb), (vA #[((Value.iface it ix)), ((Value.iface jt jx))]), (Value.func (.func 154) #[] #[(vQ b13_), (vQ b8_), (vQ b19_)])]) rfl rfl cb153 (Calls.into (n := 16) (al := [(vQ tb), (vA #[((Value.iface it ix)), ((Value.iface jt jx))]), (Value.func (.func 154) #[] #[(vQ b13_), (vQ b8_), (vQ b19_)])]) Try.func153 rfl Try.ntmps153 rfl rfl ?_))
 refine C_seq (fun K29_ hK29_ => C_reg ?_)
 refine S_list (T_box (v := (vA #[((Value.iface it ix)), ((Value.iface jt jx))])) rfl H25_ ?_)
 intro b30_ w31_ S33_ H32_
 have S34_ := Same.trans S27_ S33_
 refine S_list (T_box (v := (Value.func (.func 154) #[] #[(vQ b13_), (vQ b8_), (vQ b19_)])) rfl H32_ ?_)
 intro b35_ w36_ S38_ H37_
 have S39_ := Same.trans S34_ S38_
 refine wpList_nil (X_then (hK29_ _ _ ?_))
 clear hK29_
 refine A_start (S := fun w => Rd b35_ [(Value.func (.func 154) #[] #[(vQ b13_), (vQ b8_), (vQ b19_)])] w ∧ Rd b30_ [((Value.iface it ix)), ((Value.iface jt jx))] w ∧ Rd tb [(vQ (rt sb W)), (vI .i64 cnt), (vQ sb)] w ∧ RtRd w (rt sb W) (rmx W) ∧ Sub R (hp w)) (N := 10) foll rfl rfl ?_
 have H40_ := Holds.drew_ H37_
 have hq41_ := And.intro (Holds.rd H40_ 0 rfl) (And.intro (Holds.rd H40_ 1 rfl) (And.intro (Holds.rd H40_ 7 rfl) (And.intro (Holds.tr_rd H40_ 8 rfl 9 rfl) ((Holds.ro_at H40_ 6 rfl)))))
 refine A_tk 0 (v := (vQ tb)) rfl (by kernel_rfl) (fun w hS => x_move rfl) hq41_ ?_
 refine A_tk 1 (v := (vQ tb)) rfl (by kernel_rfl) (fun w hS => by kernel_rfl) hq41_ ?_
 refine A_tk 2 (v := (vQ tb)) rfl (by kernel_rfl) (fun w hS => by kernel_rfl) hq41_ ?_
 refine A_tk 3 (v := (vQ (rt sb W))) rfl (by kernel_rfl) (fun w hS => x_load1 rfl Try.underlying182 rfl (hS.2.2.1 0 (vQ (rt sb W)) rfl)) hq41_ ?_
 refine A_tk 4 (v := (vQ tb)) rfl (by kernel_rfl) (fun w hS => x_move rfl) hq41_ ?_
 refine A_tk 5 (v := (vQ tb)) rfl (by kernel_rfl) (fun w hS => by kernel_rfl) hq41_ ?_
 refine A_tk 6 (v := (vP (some ⟨tb, 2, none⟩))) rfl (by kernel_rfl) (fun w hS => by kernel_rfl) hq41_ ?_
 refine A_tk 7 (v := (vQ sb)) rfl (by kernel_rfl) (fun w hS => x_load1 rfl Try.underlying182 rfl (hS.2.2.1 2 (vQ sb) rfl)) hq41_ ?_
 refine A_tk 8 (v := (Value.func (.func 168) #[] #[(vQ b35_)])) rfl (by kernel_rfl) (fun w hS => by kernel_rfl) hq41_ ?_
 refine A_ready (i := 9) (rs := []) (by kernel_rfl) ?_
 refine AllR.cons ?_ AllR.nil
 have H42_ := ((Holds.bring (Holds.bring (Holds.bring (Holds.bring H40_ 2 rfl) 4 rfl) 4 rfl) 3 rfl) :)
 have H43_ : Holds w36_.drew (vp (csP b35_ b13_ b8_ b19_) (⟨none, true⟩ : CS K) :: cl b30_ 111 [((Value.iface it ix)), ((Value.iface jt jx))] :: cl b2_ 111 [((Value.iface it ix)), ((Value.iface jt jx))] :: ro R :: cl tb 188 [(vQ (rt sb W)), (vI .i64 cnt), (vQ sb)] :: tr sb sb W :: clf sb 185 sc :: F) := Holds.grp (l := [cl b35_ 279 [(Value.func (.func 154) #[] #[(vQ b13_), (vQ b8_), (vQ b19_)])], cl b13_ 109 [(Value.nilIface)], cl b8_ 109 [(Value.nilIface)], cl b19_ 4 [(vB true)]]) H42_
 have H46_ := ((Holds.bring (Holds.bring (Holds.bring (Holds.bring H43_ 1 rfl) 6 rfl) 6 rfl) 5 rfl) :)
 refine A_op (ls' := #[true, true, true, true, true, true, true, true, true, true]) rfl (by kernel_rfl) (T_call (al := [(vQ (rt sb W)), (vQ b30_), (vQ sb), (Value.func (.func 168) #[] #[(vQ b35_)])]) (pre := [tr sb sb W, clf sb 185 sc, cl b30_ 111 [((Value.iface it ix)), ((Value.iface jt jx))], vp (csP b35_ b13_ b8_ b19_) (⟨none, true⟩ : CS K)]) rfl rfl cb167 (itVisit R K O (CS K) (csP b35_ b13_ b8_ b19_) (CS.Ok O) (CS.step O) sc b30_ b35_ sb sb W (⟨none, true⟩ : CS K) (Value.iface it ix) (Value.iface jt jx) kb ke (hW) (hb) (he) ((fun x hx => by cases hx)) ((fun R s n l r p hi hn => itStepV R b35_ b13_ b8_ b19_ s n l r p hi hn))) H46_ ?_)
 rintro v44_ p50_ w47_ ⟨rfl, rfl, he45_⟩ S49_ H48_
 have S51_ := Same.trans (Same.trans S39_ (Same.drew _)) S49_
 have H52_ := ((Holds.bring H48_ 4 rfl) :)
 obtain ⟨S_, hS_⟩ : ∃ S, S = (vis O (CS.step O) kb ke W (⟨none, true⟩ : CS K)).1 := ⟨_, rfl⟩
 have hI_ : CS.Ok O R S_ := by rw [hS_]; exact he45_
 have H54_ := H52_; rw [← hS_] at H54_
 have H53_ : Holds w47_ (cl b35_ 279 [(Value.func (.func 154) #[] #[(vQ b13_), (vQ b8_), (vQ b19_)])] :: cl b13_ 109 [((CS.f S_))] :: cl b8_ 109 [((CS.m S_))] :: cl b19_ 4 [(vB S_.ok)] :: ro R :: tr sb sb W :: clf sb 185 sc :: cl b30_ 111 [((Value.iface it ix)), ((Value.iface jt jx))] :: cl b2_ 111 [((Value.iface it ix)), ((Value.iface jt jx))] :: cl tb 188 [(vQ (rt sb W)), (vI .i64 cnt), (vQ sb)] :: F) := Holds.ungrp (l := [cl b35_ 279 [(Value.func (.func 154) #[] #[(vQ b13_), (vQ b8_), (vQ b19_)])], cl b13_ 109 [((CS.f S_))], cl b8_ 109 [((CS.m S_))], cl b19_ 4 [(vB S_.ok)]]) H54_
 refine ⟨⟨Holds.rd H53_ 0 rfl, Holds.rd H53_ 7 rfl, Holds.rd H53_ 9 rfl, Holds.tr_rd H53_ 5 rfl 6 rfl, (Holds.ro_at H53_ 4 rfl)⟩, ?_⟩
 refine A_done (by kernel_rfl) ?_
 refine R_0 rfl ⟨_, rfl, ?_⟩
 refine wpList_nil (X_then (hK28_ _ _ ?_))
 clear hK28_
 refine C_seq (fun K55_ hK55_ => C_reg ?_)
 obtain ⟨fm_, ok_⟩ := S_
 rcases fm_ with _ | ⟨⟨fv_, fk_⟩, ⟨mv_, mk_⟩⟩
 ·skip
  have H56_ : Holds w47_ (cl b35_ 279 [(Value.func (.func 154) #[] #[(vQ b13_), (vQ b8_), (vQ b19_)])] :: cl b13_ 109 [(Value.nilIface)] :: cl b8_ 109 [(Value.nilIface)] :: cl b19_ 4 [(vB ok_)] :: ro R :: tr sb sb W :: clf sb 185 sc :: cl b30_ 111 [((Value.iface it ix)), ((Value.iface jt jx))] :: cl b2_ 111 [((Value.iface it ix)), ((Value.iface jt jx))] :: cl tb 188 [(vQ (rt sb W)), (vI .i64 cnt), (vQ sb)] :: F) := (H53_)
  refine sv (v := (vB ok_)) (x_load1 rfl Try.underlying4 rfl ((Holds.rd H56_ 3 rfl) 0 (vB ok_) rfl)) ?_
  refine sv (v := (vB ok_)) (x_move rfl) ?_
  rcases Bool.eq_false_or_eq_true (ok_) with c57_t | c57_f
  ·skip
   refine S_yes (j := 1) (dj := 13) (b := true) rfl rfl (congrArg vB c57_t) (T_val (v := (Value.nilIface)) (x_load1 rfl Try.underlying109 rfl ((Holds.rd H56_ 1 rfl) 0 (Value.nilIface) rfl)) ?_)
   refine S_yes (j := 1) (dj := 13) (b := true) rfl rfl (congrArg vB c57_t) (T_val (v := (vB false)) (by kernel_rfl) ?_)
   refine S_list (T_pickT (v := (vB false)) (congrArg vB c57_t) rfl ?_)
   refine sv (v := (vB false)) (x_move rfl) ?_
   refine S_no (j := 5) (dj := 17) (b := false) rfl rfl rfl (by decide) ?_
   refine S_no (j := 5) (dj := 17) (b := false) rfl rfl rfl (by decide) ?_
   refine S_no (j := 5) (dj := 17) (b := false) rfl rfl rfl (by decide) ?_
   refine S_no (j := 5) (dj := 17) (b := false) rfl rfl rfl (by decide) ?_
   refine S_no (j := 5) (dj := 17) (b := false) rfl rfl rfl (by decide) ?_
   refine S_list (T_pickF (v := (vB false)) rfl rfl ?_)
   refine sv (v := (vB false)) (x_move rfl) ?_
   refine S_no (j := 12) (dj := 24) (b := false) rfl rfl rfl (by decide) ?_
   refine S_no (j := 12) (dj := 24) (b := false) rfl rfl rfl (by decide) ?_
   refine S_no (j := 12) (dj := 24) (b := false) rfl rfl rfl (by decide) ?_
   refine S_no (j := 12) (dj := 24) (b := false) rfl rfl rfl (by decide) ?_
   refine S_no (j := 12) (dj := 24) (b := false) rfl rfl rfl (by decide) ?_
   refine S_list (T_pickF (v := (vB false)) rfl rfl ?_)
   refine sv (v := (vB false)) (x_assign rfl) ?_
   refine wpList_nil (X_then (hK55_ _ _ ?_))
   clear hK55_
   refine C_ret ?_
   refine R_any (v := (vB false)) (run_results1 rfl rfl) ?_
   have H58_ : Holds w47_ (ro R :: cl tb 188 [(vQ (rt sb W)), (vI .i64 cnt), (vQ sb)] :: tr sb sb W :: clf sb 185 sc :: F) := (Holds.pkF H56_ [4, 8, 4, 4] 6 :)
   exact ⟨_, _, rfl, ⟨(congrArg vB ((by rw [← hS_]; simp [CS.yes, c57_t]) : false = ((vis O (CS.step O) kb ke W (⟨none, true⟩ : CS K)).1.yes O kb ke))), rfl⟩, S51_, H58_⟩
  ·skip
   refine S_no (j := 1) (dj := 13) (b := false) rfl rfl (congrArg vB c57_f) (by decide) ?_
   refine S_no (j := 1) (dj := 13) (b := false) rfl rfl (congrArg vB c57_f) (by decide) ?_
   refine S_list (T_pickF (v := (vB false)) (congrArg vB c57_f) rfl ?_)
   refine sv (v := (vB false)) (x_move rfl) ?_
   refine S_no (j := 5) (dj := 17) (b := false) rfl rfl rfl (by decide) ?_
   refine S_no (j := 5) (dj := 17) (b := false) rfl rfl rfl (by decide) ?_
   refine S_no (j := 5) (dj := 17) (b := false) rfl rfl rfl (by decide) ?_
   refine S_no (j := 5) (dj := 17) (b := false) rfl rfl rfl (by decide) ?_
   refine S_no (j := 5) (dj := 17) (b := false) rfl rfl rfl (by decide) ?_
   refine S_list (T_pickF (v := (vB false)) rfl rfl ?_)
   refine sv (v := (vB false)) (x_move rfl) ?_
   refine S_no (j := 12) (dj := 24) (b := false) rfl rfl rfl (by decide) ?_
   refine S_no (j := 12) (dj := 24) (b := false) rfl rfl rfl (by decide) ?_
   refine S_no (j := 12) (dj := 24) (b := false) rfl rfl rfl (by decide) ?_
   refine S_no (j := 12) (dj := 24) (b := false) rfl rfl rfl (by decide) ?_
   refine S_no (j := 12) (dj := 24) (b := false) rfl rfl rfl (by decide) ?_
   refine S_list (T_pickF (v := (vB false)) rfl rfl ?_)
   refine sv (v := (vB false)) (x_assign rfl) ?_
   refine wpList_nil (X_then (hK55_ _ _ ?_))
   clear hK55_
   refine C_ret ?_
   refine R_any (v := (vB false)) (run_results1 rfl rfl) ?_
   have H59_ : Holds w47_ (ro R :: cl tb 188 [(vQ (rt sb W)), (vI .i64 cnt), (vQ sb)] :: tr sb sb W :: clf sb 185 sc :: F) := (Holds.pkF H56_ [4, 8, 4, 4] 6 :)
   exact ⟨_, _, rfl, ⟨(congrArg vB ((by rw [← hS_]; simp [CS.yes, c57_f]) : false = ((vis O (CS.step O) kb ke W (⟨none, true⟩ : CS K)).1.yes O kb ke))), rfl⟩, S51_, H59_⟩
 ·skip
  obtain ⟨hf_, hm_⟩ := hI_ _ rfl
  obtain ⟨ft_, fx_, _, ef_, _⟩ := O.cmp hf_ hf_
  obtain ⟨mt_, mx_, _, em_, _⟩ := O.cmp hm_ hm_
  simp only at ef_ em_ hf_ hm_; subst ef_; subst em_
  have H60_ : Holds w47_ (cl b35_ 279 [(Value.func (.func 154) #[] #[(vQ b13_), (vQ b8_), (vQ b19_)])] :: cl b13_ 109 [((Value.iface ft_ fx_))] :: cl b8_ 109 [((Value.iface mt_ mx_))] :: cl b19_ 4 [(vB ok_)] :: ro R :: tr sb sb W :: clf sb 185 sc :: cl b30_ 111 [((Value.iface it ix)), ((Value.iface jt jx))] :: cl b2_ 111 [((Value.iface it ix)), ((Value.iface jt jx))] :: cl tb 188 [(vQ (rt sb W)), (vI .i64 cnt), (vQ sb)] :: F) := (H53_)
  refine sv (v := (vB ok_)) (x_load1 rfl Try.underlying4 rfl ((Holds.rd H60_ 3 rfl) 0 (vB ok_) rfl)) ?_
  refine sv (v := (vB ok_)) (x_move rfl) ?_
  rcases Bool.eq_false_or_eq_true (ok_) with c61_t | c61_f
  ·skip
   refine S_yes (j := 1) (dj := 13) (b := true) rfl rfl (congrArg vB c61_t) (T_val (v := ((Value.iface ft_ fx_))) (x_load1 rfl Try.underlying109 rfl ((Holds.rd H60_ 1 rfl) 0 ((Value.iface ft_ fx_)) rfl)) ?_)
   refine S_yes (j := 1) (dj := 13) (b := true) rfl rfl (congrArg vB c61_t) (T_val (v := (vB true)) (by kernel_rfl) ?_)
   refine S_list (T_pickT (v := (vB true)) (congrArg vB c61_t) rfl ?_)
   refine sv (v := (vB true)) (x_move rfl) ?_
   refine S_yes (j := 5) (dj := 17) (b := true) rfl rfl rfl (T_val (v := ((Value.iface mt_ mx_))) (x_load1 rfl Try.underlying109 rfl ((Holds.rd H60_ 2 rfl) 0 ((Value.iface mt_ mx_)) rfl)) ?_)
   refine S_yes (j := 5) (dj := 17) (b := true) rfl rfl rfl (T_val (v := (vP (some ⟨b2_, 1, none⟩))) (by kernel_rfl) ?_)
   refine S_yes (j := 5) (dj := 17) (b := true) rfl rfl rfl (T_val (v := ((Value.iface jt jx))) (x_load1 rfl Try.underlying109 rfl ((Holds.rd H60_ 8 rfl) 1 ((Value.iface jt jx)) rfl)) ?_)
   refine S_yes (j := 5) (dj := 17) (b := true) rfl rfl rfl (T_cmp rfl rfl (O.cmp hm_ he) H60_ 4 rfl ?_)
   intro w62_ S64_ H63_
   have S65_ := Same.trans S51_ S64_
   refine S_yes (j := 5) (dj := 17) (b := true) rfl rfl rfl (T_val (v := (vB (decide (0 ≤ O.cm mk_ ke)))) (x_bin rfl rfl rfl) ?_)
   refine S_list (T_pickT (v := (vB (decide (0 ≤ O.cm mk_ ke)))) rfl rfl ?_)
   refine sv (v := (vB (decide (0 ≤ O.cm mk_ ke)))) (x_move rfl) ?_
   rcases Bool.eq_false_or_eq_true (decide (0 ≤ O.cm mk_ ke)) with c66_t | c66_f
   ·have c66_tp : 0 ≤ O.cm mk_ ke := of_decide_eq_true c66_t
    refine S_yes (j := 12) (dj := 24) (b := true) rfl rfl (congrArg vB c66_t) (T_val (v := ((Value.iface ft_ fx_))) (x_load1 rfl Try.underlying109 rfl ((Holds.rd H63_ 1 rfl) 0 ((Value.iface ft_ fx_)) rfl)) ?_)
    refine S_yes (j := 12) (dj := 24) (b := true) rfl rfl (congrArg vB c66_t) (T_val (v := (vQ b2_)) (by kernel_rfl) ?_)
    refine S_yes (j := 12) (dj := 24) (b := true) rfl rfl (congrArg vB c66_t) (T_val (v := ((Value.iface it ix))) (x_load1 rfl Try.underlying109 rfl ((Holds.rd H63_ 8 rfl) 0 ((Value.iface it ix)) rfl)) ?_)
    refine S_yes (j := 12) (dj := 24) (b := true) rfl rfl (congrArg vB c66_t) (T_cmp rfl rfl (O.cmp hf_ hb) H63_ 4 rfl ?_)
    intro w67_ S69_ H68_
    have S70_ := Same.trans S65_ S69_
    refine S_yes (j := 12) (dj := 24) (b := true) rfl rfl (congrArg vB c66_t) (T_val (v := (vB (decide (O.cm fk_ kb ≤ 0)))) (x_bin rfl rfl rfl) ?_)
    refine S_list (T_pickT (v := (vB (decide (O.cm fk_ kb ≤ 0)))) (congrArg vB c66_t) rfl ?_)
    refine sv (v := (vB (decide (O.cm fk_ kb ≤ 0)))) (x_assign rfl) ?_
    refine wpList_nil (X_then (hK55_ _ _ ?_))
    clear hK55_
    refine C_ret ?_
    refine R_any (v := (vB (decide (O.cm fk_ kb ≤ 0)))) (run_results1 rfl rfl) ?_
    have H71_ : Holds w67_ (ro R :: cl tb 188 [(vQ (rt sb W)), (vI .i64 cnt), (vQ sb)] :: tr sb sb W :: clf sb 185 sc :: F) := (Holds.pkF H68_ [4, 8, 4, 4] 6 :)
    exact ⟨_, _, rfl, ⟨(congrArg vB ((by rw [← hS_]; simp [CS.yes, c61_t, c66_t]) : (decide (O.cm fk_ kb ≤ 0)) = ((vis O (CS.step O) kb ke W (⟨none, true⟩ : CS K)).1.yes O kb ke))), rfl⟩, S70_, H71_⟩
   ·have c66_fp : ¬ (0 ≤ O.cm mk_ ke) := of_decide_eq_false c66_f
    refine S_no (j := 12) (dj := 24) (b := false) rfl rfl (congrArg vB c66_f) (by decide) ?_
    refine S_no (j := 12) (dj := 24) (b := false) rfl rfl (congrArg vB c66_f) (by decide) ?_
    refine S_no (j := 12) (dj := 24) (b := false) rfl rfl (congrArg vB c66_f) (by decide) ?_
    refine S_no (j := 12) (dj := 24) (b := false) rfl rfl (congrArg vB c66_f) (by decide) ?_
    refine S_no (j := 12) (dj := 24) (b := false) rfl rfl (congrArg vB c66_f) (by decide) ?_
    refine S_list (T_pickF (v := (vB false)) (congrArg vB c66_f) rfl ?_)
    refine sv (v := (vB false)) (x_assign rfl) ?_
    refine wpList_nil (X_then (hK55_ _ _ ?_))
    clear hK55_
    refine C_ret ?_
    refine R_any (v := (vB false)) (run_results1 rfl rfl) ?_
    have H72_ : Holds w62_ (ro R :: cl tb 188 [(vQ (rt sb W)), (vI .i64 cnt), (vQ sb)] :: tr sb sb W :: clf sb 185 sc :: F) := (Holds.pkF H63_ [4, 8, 4, 4] 6 :)
    exact ⟨_, _, rfl, ⟨(congrArg vB ((by rw [← hS_]; simp [CS.yes, c61_t, c66_f]) : false = ((vis O (CS.step O) kb ke W (⟨none, true⟩ : CS K)).1.yes O kb ke))), rfl⟩, S65_, H72_⟩
  ·skip
   refine S_no (j := 1) (dj := 13) (b := false) rfl rfl (congrArg vB c61_f) (by decide) ?_
   refine S_no (j := 1) (dj := 13) (b := false) rfl rfl (congrArg vB c61_f) (by decide) ?_
   refine S_list (T_pickF (v := (vB false)) (congrArg vB c61_f) rfl ?_)
   refine sv (v := (vB false)) (x_move rfl) ?_
   refine S_no (j := 5) (dj := 17) (b := false) rfl rfl rfl (by decide) ?_
   refine S_no (j := 5) (dj := 17) (b := false) rfl rfl rfl (by decide) ?_
   refine S_no (j := 5) (dj := 17) (b := false) rfl rfl rfl (by decide) ?_
   refine S_no (j := 5) (dj := 17) (b := false) rfl rfl rfl (by decide) ?_
   refine S_no (j := 5) (dj := 17) (b := false) rfl rfl rfl (by decide) ?_
   refine S_list (T_pickF (v := (vB false)) rfl rfl ?_)
   refine sv (v := (vB false)) (x_move rfl) ?_
   refine S_no (j := 12) (dj := 24) (b := false) rfl rfl rfl (by decide) ?_
   refine S_no (j := 12) (dj := 24) (b := false) rfl rfl rfl (by decide) ?_
   refine S_no (j := 12) (dj := 24) (b := false) rfl rfl rfl (by decide) ?_
   refine S_no (j := 12) (dj := 24) (b := false) rfl rfl rfl (by decide) ?_
   refine S_no (j := 12) (dj := 24) (b := false) rfl rfl rfl (by decide) ?_
   refine S_list (T_pickF (v := (vB false)) rfl rfl ?_)
   refine sv (v := (vB false)) (x_assign rfl) ?_
   refine wpList_nil (X_then (hK55_ _ _ ?_))
   clear hK55_
   refine C_ret ?_
   refine R_any (v := (vB false)) (run_results1 rfl rfl) ?_
   have H73_ : Holds w47_ (ro R :: cl tb 188 [(vQ (rt sb W)), (vI .i64 cnt), (vQ sb)] :: tr sb sb W :: clf sb 185 sc :: F) := (Holds.pkF H60_ [4, 8, 4, 4] 6 :)
   exact ⟨_, _, rfl, ⟨(congrArg vB ((by rw [← hS_]; simp [CS.yes, c61_f]) : false = ((vis O (CS.step O) kb ke W (⟨none, true⟩ : CS K)).1.yes O kb ke))), rfl⟩, S51_, H73_⟩
end Go.Proofs.Ytlnihndjepjagaa
set_option linter.unusedVariables false
set_option linter.unusedSimpArgs false
namespace Go.Proofs.Ytlnihndjepjagaa
open Go Go.RowKit Gw
open Go.Value renaming int → vI, bool → vB, slice → vS, pointer → vP, agg → vA, tuple → vT

/-! ### Texts in order; the empty one stands behind all -/
theorem cb_refl : ∀ a : List UInt8, Lib.compareBytes a a = 0
  | [] => rfl
  | a :: xs => by simp [Lib.compareBytes, cb_refl xs]
theorem cb_flip : ∀ a b : List UInt8, Lib.compareBytes a b = - Lib.compareBytes b a
  | [], [] => rfl
  | [], _ :: _ => rfl
  | _ :: _, [] => rfl
  | a :: xs, b :: ys => by
    have ih := cb_flip xs ys
    simp only [Lib.compareBytes, UInt8.lt_iff_toNat_lt]
    split <;> split <;> first | omega | rfl
theorem cb_anti : ∀ {a b : List UInt8}, Lib.compareBytes a b = 0 → a = b
  | [], [], _ => rfl
  | [], _ :: _, h => by cases h
  | _ :: _, [], h => by cases h
  | a :: xs, b :: ys, h => by
    simp only [Lib.compareBytes, UInt8.lt_iff_toNat_lt] at h
    split at h
    · cases h
    · split at h
      · cases h
      · rw [cb_anti h, show a = b from UInt8.toNat_inj.1 (by omega)]
theorem cb_trans : ∀ {a b c : List UInt8}, Lib.compareBytes a b ≤ 0 → Lib.compareBytes b c ≤ 0 → Lib.compareBytes a c ≤ 0
  | [], _, [], _, _ => by decide
  | [], _, _ :: _, _, _ => by show (-1 : Int) ≤ 0; decide
  | _ :: _, [], _, h, _ => absurd (show (1 : Int) ≤ 0 from h) (by decide)
  | _ :: _, _ :: _, [], _, h => absurd (show (1 : Int) ≤ 0 from h) (by decide)
  | a :: xs, b :: ys, c :: zs, h1, h2 => by
    simp only [Lib.compareBytes, UInt8.lt_iff_toNat_lt] at h1 h2 ⊢
    by_cases h3 : a.toNat < c.toNat
    · rw [if_pos h3]; decide
    · rw [if_neg h3]
      split at h1
      · split at h2
        · omega
        · split at h2
          · exact absurd h2 (by decide)
          · omega
      · split at h1
        · exact absurd h1 (by decide)
        · split at h2
          · omega
          · split at h2
            · exact absurd h2 (by decide)
            · rw [if_neg (by omega)]; exact cb_trans h1 h2
def acm : List UInt8 → List UInt8 → Int
  | [], [] => 0
  | [], _ :: _ => 1
  | _ :: _, [] => -1
  | a :: xs, b :: ys => Lib.compareBytes (a :: xs) (b :: ys)
theorem acm_refl : ∀ a, acm a a = 0
  | [] => rfl
  | a :: xs => cb_refl (a :: xs)
theorem acm_flip : ∀ a b, acm a b = - acm b a
  | [], [] => rfl
  | [], _ :: _ => rfl
  | _ :: _, [] => rfl
  | a :: xs, b :: ys => cb_flip (a :: xs) (b :: ys)
theorem acm_anti : ∀ {a b}, acm a b = 0 → a = b
  | [], [], _ => rfl
  | [], _ :: _, h => by cases h
  | _ :: _, [], h => by cases h
  | _ :: _, _ :: _, h => cb_anti h
theorem acm_trans : ∀ {a b c}, acm a b ≤ 0 → acm b c ≤ 0 → acm a c ≤ 0
  | [], [], _, _, h => h
  | [], _ :: _, _, h, _ => absurd (show (1 : Int) ≤ 0 from h) (by decide)
  | _ :: _, [], [], h, _ => h
  | _ :: _, [], _ :: _, _, h => absurd (show (1 : Int) ≤ 0 from h) (by decide)
  | _ :: _, _ :: _, [], _, _ => by show (-1 : Int) ≤ 0; decide
  | _ :: _, _ :: _, _ :: _, h1, h2 => cb_trans h1 h2
theorem acm_ne {a b : List UInt8} (ha : a ≠ []) (hb : b ≠ []) : acm a b = Lib.compareBytes a b := by
  cases a with
  | nil => exact absurd rfl ha
  | cons _ _ => cases b with
    | nil => exact absurd rfl hb
    | cons _ _ => rfl
theorem acm_l {b : List UInt8} (hb : b ≠ []) : acm [] b = 1 := by
  cases b with
  | nil => exact absurd rfl hb
  | cons _ _ => rfl
theorem acm_r {b : List UInt8} (hb : b ≠ []) : acm b [] = -1 := by
  cases b with
  | nil => exact absurd rfl hb
  | cons _ _ => rfl
theorem u8s_len (ns : List Int) : (u8s ns).length = ns.length := by simp [u8s]
theorem u8s_nil {ns : List Int} (h : ns.length = 0) : u8s ns = [] := List.eq_nil_of_length_eq_zero (by rw [u8s_len, h])
theorem u8s_nnil {ns : List Int} (h : ns.length ≠ 0) : u8s ns ≠ [] := fun e => h (by rw [← u8s_len, e]; rfl)


set_option maxHeartbeats 1600000 in
theorem bCmp (R : HP) (x y : Value) (A B : List Int) (hx : RS R 1 x (List.length A) (bytesV A)) (hy : RS R 1 y (List.length B) (bytesV B)) :
    Tri Try.prog 137 #[x, (Value.iface 168 y)] R [] (fun v__ post__ => v__ = (vI .i64 (acm (u8s A) (u8s B))) ∧ post__ = []) := by
 refine Tri.into (n := 20) (al := [x, (Value.iface 168 y)]) Try.func137 rfl Try.ntmps137 rfl rfl fun w F H => ?_
 refine C_seq (fun K1_ hK1_ => C_reg ?_)
 refine sv (v := (vI .i64 0)) (x_assign rfl) ?_
 refine wpList_nil (X_then (hK1_ _ _ ?_))
 clear hK1_
 refine C_seq (fun K2_ hK2_ => C_reg ?_)
 refine sv (v := (Value.iface 168 y)) (x_move rfl) ?_
 refine sv (v := y) (by kernel_rfl) ?_
 refine sv (v := y) (x_assign rfl) ?_
 refine wpList_nil (X_then (hK2_ _ _ ?_))
 clear hK2_
 refine C_seq (fun K3_ hK3_ => ?_)
 refine C_seq (fun K4_ hK4_ => C_reg ?_)
 refine sv (v := x) (x_move rfl) ?_
 refine sv (v := (vI .i64 ((List.length A) : Int))) (x_lenRS rfl hx Try.underlying168) ?_
 refine sv (v := (vB (decide (((List.length A) : Int) = 0)))) (x_bin rfl rfl rfl) ?_
 refine wpList_nil (X_then (hK4_ _ _ ?_))
 clear hK4_
 refine C_cond (b := decide (((List.length A) : Int) = 0)) rfl (fun c5_t => ?_) (fun c5_f => ?_)
 ·have c5_tp : ((List.length A) : Int) = 0 := of_decide_eq_true c5_t
  refine C_seq (fun K6_ hK6_ => ?_)
  refine C_seq (fun K7_ hK7_ => C_reg ?_)
  refine sv (v := y) (x_move rfl) ?_
  refine sv (v := (vI .i64 ((List.length B) : Int))) (x_lenRS rfl hy Try.underlying168) ?_
  refine sv (v := (vB (decide (((List.length B) : Int) = 0)))) (x_bin rfl rfl rfl) ?_
  refine wpList_nil (X_then (hK7_ _ _ ?_))
  clear hK7_
  refine C_cond (b := decide (((List.length B) : Int) = 0)) rfl (fun c8_t => ?_) (fun c8_f => ?_)
  ·have c8_tp : ((List.length B) : Int) = 0 := of_decide_eq_true c8_t
   refine C_seq (fun K9_ hK9_ => C_reg ?_)
   refine sv (v := (vI .i64 0)) (x_assign rfl) ?_
   refine wpList_nil (X_then (hK9_ _ _ ?_))
   clear hK9_
   refine C_ret (X_thenR (X_thenR ?_))
   refine R_any (v := (vI .i64 0)) (run_results1 rfl rfl) ?_
   exact ⟨_, _, rfl, ⟨(congrArg (vI .i64) ((by rw [u8s_nil (ns := A) (by omega), u8s_nil (ns := B) (by omega)]; rfl) : 0 = acm (u8s A) (u8s B))), rfl⟩, (Same.refl w), H⟩
  ·have c8_fp : ¬ (((List.length B) : Int) = 0) := of_decide_eq_false c8_f
   refine C_skip (X_then (hK6_ _ _ ?_))
   clear hK6_
   refine C_seq (fun K10_ hK10_ => C_reg ?_)
   refine sv (v := (vI .i64 1)) (x_assign rfl) ?_
   refine wpList_nil (X_then (hK10_ _ _ ?_))
   clear hK10_
   refine C_ret (X_thenR ?_)
   refine R_any (v := (vI .i64 1)) (run_results1 rfl rfl) ?_
   exact ⟨_, _, rfl, ⟨(congrArg (vI .i64) ((by rw [u8s_nil (ns := A) (by omega), acm_l (u8s_nnil (by omega))]) : 1 = acm (u8s A) (u8s B))), rfl⟩, (Same.refl w), H⟩
 ·have c5_fp : ¬ (((List.length A) : Int) = 0) := of_decide_eq_false c5_f
  refine C_skip (X_then (hK3_ _ _ ?_))
  clear hK3_
  refine C_seq (fun K11_ hK11_ => ?_)
  refine C_seq (fun K12_ hK12_ => C_reg ?_)
  refine sv (v := y) (x_move rfl) ?_
  refine sv (v := (vI .i64 ((List.length B) : Int))) (x_lenRS rfl hy Try.underlying168) ?_
  refine sv (v := (vB (decide (((List.length B) : Int) = 0)))) (x_bin rfl rfl rfl) ?_
  refine wpList_nil (X_then (hK12_ _ _ ?_))
  clear hK12_
  refine C_cond (b := decide (((List.length B) : Int) = 0)) rfl (fun c13_t => ?_) (fun c13_f => ?_)
  ·have c13_tp : ((List.length B) : Int) = 0 := of_decide_eq_true c13_t
   refine C_seq (fun K14_ hK14_ => C_reg ?_)
   refine sv (v := (vI .i64 (-1))) (x_assign rfl) ?_
   refine wpList_nil (X_then (hK14_ _ _ ?_))
   clear hK14_
   refine C_ret (X_thenR ?_)
   refine R_any (v := (vI .i64 (-1))) (run_results1 rfl rfl) ?_
   exact ⟨_, _, rfl, ⟨(congrArg (vI .i64) ((by rw [u8s_nil (ns := B) (by omega), acm_r (u8s_nnil (by omega))]) : -1 = acm (u8s A) (u8s B))), rfl⟩, (Same.refl w), H⟩
  ·have c13_fp : ¬ (((List.length B) : Int) = 0) := of_decide_eq_false c13_f
   refine C_skip (X_then (hK11_ _ _ ?_))
   clear hK11_
   refine C_seq (fun K15_ hK15_ => C_reg ?_)
   refine sv (v := x) (x_move rfl) ?_
   refine sv (v := y) (x_move rfl) ?_
   refine S_list (T_callW (al := [x, y]) rfl rfl cb155 (Calls.into (n := 8) (al := [x, y]) Try.func155 rfl Try.ntmps155 rfl rfl ?_))
   refine C_seq (fun K16_ hK16_ => C_reg ?_)
   refine sv (v := (vI .i64 0)) (x_assign rfl) ?_
   refine wpList_nil (X_then (hK16_ _ _ ?_))
   clear hK16_
   refine C_seq (fun K17_ hK17_ => C_reg ?_)
   refine sv (v := x) (x_move rfl) ?_
   refine sv (v := y) (x_move rfl) ?_
   refine S_list (T_bcmp (fn := Try.f169) (u := x) (v := y) (xs := A) (ys := B) Try.func169 (by kernel_rfl) rfl (by kernel_rfl) (by kernel_rfl) rfl rfl ((hx : RS R 1 x (List.length A) (bytesV A)).mono (Holds.ro_at H 0 rfl)) ((hy : RS R 1 y (List.length B) (bytesV B)).mono (Holds.ro_at H 0 rfl)) ?_)
   refine sv (v := (vI .i64 (Lib.compareBytes (u8s A) (u8s B)))) (x_assign rfl) ?_
   refine wpList_nil (X_then (hK17_ _ _ ?_))
   clear hK17_
   refine C_ret ?_
   refine R_any (v := (vI .i64 (Lib.compareBytes (u8s A) (u8s B)))) (run_results1 rfl rfl) ⟨_, rfl, ?_⟩
   refine sv (v := (vI .i64 (Lib.compareBytes (u8s A) (u8s B)))) (x_assign rfl) ?_
   refine wpList_nil (X_then (hK15_ _ _ ?_))
   clear hK15_
   refine C_ret ?_
   refine R_any (v := (vI .i64 (Lib.compareBytes (u8s A) (u8s B)))) (run_results1 rfl rfl) ?_
   exact ⟨_, _, rfl, ⟨(congrArg (vI .i64) ((acm_ne (u8s_nnil (by omega)) (u8s_nnil (by omega))).symm : Lib.compareBytes (u8s A) (u8s B) = acm (u8s A) (u8s B))), rfl⟩, (Same.refl w), H⟩

def BVal (R : HP) (v : Value) (k : List UInt8) : Prop := ∃ (x : Value) (A : List Int), v = .iface 168 x ∧ RS R 1 x (List.length A) (bytesV A) ∧ k = u8s A
/-- Bytes of texts that are only read, in order. -/
def BO : KO (List UInt8) where
  cm := acm
  Val := BVal
  mono := fun s ⟨x, A, h1, h2, h3⟩ => ⟨x, A, h1, h2.mono s, h3⟩
  one := fun ⟨x, A, h1, _, _⟩ => by subst h1; rfl
  cmp := fun {R v w a b} ⟨x, A, e1, h1, k1⟩ ⟨y, B, e2, h2, k2⟩ => ⟨168, x, 137, e1, fun W => by kernel_rfl, cb137, by
    subst e2; subst k1; subst k2
    exact (bCmp R x y A B h1 h2).mono fun v l h => h, fun W => by kernel_rfl⟩
  refl := acm_refl
  anti := acm_anti
  flip := fun {a b} => by have := acm_flip a b; omega
  trans := acm_trans
end Go.Proofs.Ytlnihndjepjagaa
set_option linter.unusedVariables false
set_option linter.unusedSimpArgs false
namespace Go.Proofs.Ytlnihndjepjagaa
open Go Go.RowKit Gw
open Go.Value renaming int → vI, bool → vB, slice → vS, pointer → vP, agg → vA, tuple → vT

set_option maxHeartbeats 1600000 in
theorem bPoint (R : HP) (x : Value) (A : List Int) (hx : RS R 1 x (List.length A) (bytesV A)) (hs : A.length ≤ 1000000) :
    Tri Try.prog 102 #[x] R [] (fun v__ post__ => ∃ (b : Nat), v__ = (vA #[(Value.iface 168 x), (Value.iface 168 (vS (some ⟨b, 0, none⟩) (A.length + 1) (A.length + 1)))]) ∧ post__ = [cl b 5 (bytesV (A ++ [0]))]) := by
 have hrep_ : (List.replicate (A.length + 1) (vI IntKind.u8 0)).length = A.length + 1 := by simp
 refine Tri.into (n := 18) (al := [x]) Try.func102 rfl Try.ntmps102 rfl rfl fun w F H => ?_
 refine C_seq (fun K1_ hK1_ => C_reg ?_)
 refine S_list (T_alloc z111 H ?_)
 intro b2_ w3_ S5_ H4_
 have S6_ := Same.trans (Same.refl w) S5_
 refine wpList_nil (X_then (hK1_ _ _ ?_))
 clear hK1_
 refine C_seq (fun K7_ hK7_ => C_reg ?_)
 refine sv (v := x) (x_move rfl) ?_
 refine sv (v := (vI .i64 ((List.length A) : Int))) (x_lenRS rfl hx Try.underlying122) ?_
 refine sv (v := (vI .i64 (((List.length A) : Int) + 1))) (x_bin rfl rfl (ib_add (IntWalk.i64_in _ (by omega)))) ?_
 refine S_list (T_makeSlice1 (len := (List.length A) + 1) (cap := (List.length A) + 1) rfl rfl Try.underlying122 z5 rfl (by omega) (by omega) (by omega) (by omega) (by omega) H4_ ?_)
 intro b8_ w9_ S11_ H10_
 have S12_ := Same.trans S6_ S11_
 refine sv (v := (vS (some ⟨b8_, 0, none⟩) ((List.length A) + 1) ((List.length A) + 1))) (x_assign rfl) ?_
 refine wpList_nil (X_then (hK7_ _ _ ?_))
 clear hK7_
 refine C_seq (fun K13_ hK13_ => C_reg ?_)
 refine sv (v := (vS (some ⟨b8_, 0, none⟩) ((List.length A) + 1) ((List.length A) + 1))) (x_move rfl) ?_
 refine sv (v := x) (x_move rfl) ?_
 refine S_list (T_copy rfl rfl Try.underlying122 z5 H10_ 0 rfl hx (Holds.ro_at H10_ 2 rfl) (by omega) (by omega) (one_bytes _) ?_)
 intro w14_ S16_ H15_
 have S17_ := Same.trans S12_ S16_
 refine wpList_nil (X_then (hK13_ _ _ ?_))
 clear hK13_
 refine C_seq (fun K18_ hK18_ => C_reg ?_)
 refine sv (v := (vS (some ⟨b8_, 0, none⟩) ((List.length A) + 1) ((List.length A) + 1))) (x_move rfl) ?_
 refine sv (v := x) (x_move rfl) ?_
 refine sv (v := (vI .i64 ((List.length A) : Int))) (x_lenRS rfl hx Try.underlying122) ?_
 refine sv (v := (vP (some ⟨b8_, (List.length A), none⟩))) (x_indexAddr rfl rfl Try.underlying122 z5 (by omega) (by omega) (by omega : _ = (List.length A)) (by first | rfl | simp | (congr 1; omega))) ?_
 refine S_list0 (T_store1 (v := (vI .u8 0)) rfl rfl z5 rfl H15_ 0 rfl (by simp [bytesV_len]) ?_)
 intro w19_ S21_ H20_
 have S22_ := Same.trans S17_ S21_
 have H23_ := Holds.recl H20_ 0 rfl (by simp [bytesV, List.set_append] : (List.take 0 (List.replicate ((List.length A) + 1) (vI .u8 0)) ++ (bytesV A) ++ List.drop (0 + List.length (bytesV A)) (List.replicate ((List.length A) + 1) (vI .u8 0))).set (List.length A) (vI .u8 0) = bytesV (A ++ [0]))
 refine wpList_nil (X_then (hK18_ _ _ ?_))
 clear hK18_
 refine C_seq (fun K24_ hK24_ => C_reg ?_)
 refine sv (v := x) (x_move rfl) ?_
 refine sv (v := (vS (some ⟨b8_, 0, none⟩) ((List.length A) + 1) ((List.length A) + 1))) (x_move rfl) ?_
 refine S_list (T_callW (al := [x, (vS (some ⟨b8_, 0, none⟩) ((List.length A) + 1) ((List.length A) + 1))]) rfl rfl cb101 (Calls.into (n := 10) (al := [x, (vS (some ⟨b8_, 0, none⟩) ((List.length A) + 1) ((List.length A) + 1))]) Try.func101 rfl Try.ntmps101 rfl rfl ?_))
 refine C_seq (fun K25_ hK25_ => C_reg ?_)
 refine S_list (T_alloc z111 H23_ ?_)
 intro b26_ w27_ S29_ H28_
 have S30_ := Same.trans S22_ S29_
 refine wpList_nil (X_then (hK25_ _ _ ?_))
 clear hK25_
 refine C_seq (fun K31_ hK31_ => C_reg ?_)
 refine sv (v := x) (x_move rfl) ?_
 refine sv (v := (Value.iface 168 x)) (by kernel_rfl) ?_
 refine sv (v := (vS (some ⟨b8_, 0, none⟩) ((List.length A) + 1) ((List.length A) + 1))) (x_move rfl) ?_
 refine sv (v := (Value.iface 168 (vS (some ⟨b8_, 0, none⟩) ((List.length A) + 1) ((List.length A) + 1)))) (by kernel_rfl) ?_
 refine sv (v := (vA #[(Value.iface 168 x), (Value.iface 168 (vS (some ⟨b8_, 0, none⟩) ((List.length A) + 1) ((List.length A) + 1)))])) (by kernel_rfl) ?_
 refine S_list0 (T_storeN (vs := [(Value.iface 168 x), (Value.iface 168 (vS (some ⟨b8_, 0, none⟩) ((List.length A) + 1) ((List.length A) + 1)))]) rfl rfl z111 rfl (by simp [Value.oneCell']) H28_ 0 rfl (Nat.le_of_ble_eq_true (by rfl)) ?_)
 intro w32_ S34_ H33_
 have S35_ := Same.trans S30_ S34_
 refine wpList_nil (X_then (hK31_ _ _ ?_))
 clear hK31_
 refine C_ret ?_
 refine R_any (v := (vA #[(Value.iface 168 x), (Value.iface 168 (vS (some ⟨b8_, 0, none⟩) ((List.length A) + 1) ((List.length A) + 1)))])) (run_results1 rfl ⟨_, rfl, load_resN Try.underlying111 rfl z111 rfl (vs := [(Value.iface 168 x), (Value.iface 168 (vS (some ⟨b8_, 0, none⟩) ((List.length A) + 1) ((List.length A) + 1)))]) (Holds.cl_cells H33_ 0 rfl 0 rfl)⟩) ⟨_, rfl, ?_⟩
 refine S_list0 (T_storeN (vs := [(Value.iface 168 x), (Value.iface 168 (vS (some ⟨b8_, 0, none⟩) ((List.length A) + 1) ((List.length A) + 1)))]) rfl rfl z111 rfl (by simp [Value.oneCell']) H33_ 2 rfl (Nat.le_of_ble_eq_true (by rfl)) ?_)
 intro w36_ S38_ H37_
 have S39_ := Same.trans S35_ S38_
 refine wpList_nil (X_then (hK24_ _ _ ?_))
 clear hK24_
 refine C_ret ?_
 refine R_any (v := (vA #[(Value.iface 168 x), (Value.iface 168 (vS (some ⟨b8_, 0, none⟩) ((List.length A) + 1) ((List.length A) + 1)))])) (run_results1 rfl ⟨_, rfl, load_resN Try.underlying111 rfl z111 rfl (vs := [(Value.iface 168 x), (Value.iface 168 (vS (some ⟨b8_, 0, none⟩) ((List.length A) + 1) ((List.length A) + 1)))]) (Holds.cl_cells H37_ 2 rfl 0 rfl)⟩) ?_
 have H40_ : Holds w36_ (ro R :: cl b8_ 5 (bytesV (A ++ [0])) :: F) := (Holds.pkF H37_ [3, 1] 2 :)
 exact ⟨_, _, rfl, ⟨b8_, (congrArg (fun l => vA (List.toArray l)) (lcons rfl (lcons ((by first | rfl | omega | (simp; done) | (simp; omega)) : (Value.iface 168 (vS (some ⟨b8_, 0, none⟩) ((List.length A) + 1) ((List.length A) + 1))) = (Value.iface 168 (vS (some ⟨b8_, 0, none⟩) (A.length + 1) (A.length + 1)))) rfl))), rfl⟩, S39_, H40_⟩
end Go.Proofs.Ytlnihndjepjagaa
set_option linter.unusedVariables false
set_option linter.unusedSimpArgs false
namespace Go.Proofs.Ytlnihndjepjagaa
open Go Go.RowKit Gw
open Go.Value renaming int → vI, bool → vB, slice → vS, pointer → vP, agg → vA, tuple → vT

structure PM where
  kind : Int
  key : ByteArray
  end_ : ByteArray
def PM.cells (x : PM) : List Value := [(vI .i64 x.kind), (Value.string x.key), (Value.string x.end_)]
theorem PM.len (x : PM) : x.cells.length = 3 := rfl

theorem take_snoc {α : Type} {l : List α} {k : Nat} {y : α} (h : l[k]? = some y) : l.take (k + 1) = l.take k ++ [y] := by
  rw [List.take_add_one, h]; rfl
def pv (b : Nat) : Value := .pointer (some ⟨b, 0, none⟩)
def All2 {α : Type} (P : Nat → α → Prop) (C : List Nat) (l : List α) : Prop := C.length = l.length ∧ ∀ (i c : Nat) (y : α), C[i]? = some c → l[i]? = some y → P c y
theorem All2.nil {α : Type} {P : Nat → α → Prop} : All2 P [] ([] : List α) := ⟨rfl, fun i c y h => by simp at h⟩
theorem All2.mono {α : Type} {P P' : Nat → α → Prop} {C : List Nat} {l : List α} (h : All2 P C l) (hp : ∀ c y, P c y → P' c y) : All2 P' C l := ⟨h.1, fun i c y a b => hp c y (h.2 i c y a b)⟩
theorem All2.snoc {α : Type} {P : Nat → α → Prop} {C : List Nat} {l : List α} {k c : Nat} {y : α} (h : All2 P C (l.take k)) (hy : l[k]? = some y) (hp : P c y) : All2 P (C ++ [c]) (l.take (k + 1)) := by
  have hk := (List.getElem?_eq_some_iff.1 hy).1
  have hl : C.length = k := by have := h.1; rw [List.length_take] at this; omega
  rw [take_snoc hy]
  refine ⟨by rw [List.length_append, List.length_append, h.1]; rfl, fun i a z h1 h2 => ?_⟩
  by_cases hi : i < C.length
  · rw [List.getElem?_append_left hi] at h1
    rw [List.getElem?_append_left (by rw [← h.1]; exact hi)] at h2
    exact h.2 i a z h1 h2
  · have hi2 : i = C.length := by
      have := (List.getElem?_eq_some_iff.1 h1).1
      rw [List.length_append] at this; simp at this; omega
    subst hi2
    rw [List.getElem?_append_right (Nat.le_refl _), Nat.sub_self] at h1
    have e : C.length = (l.take k).length := h.1
    rw [e, List.getElem?_append_right (Nat.le_refl _), Nat.sub_self] at h2
    simp at h1 h2
    subst h1; subst h2; exact hp
theorem All2.at_ {α : Type} {P : Nat → α → Prop} {C : List Nat} {l : List α} (h : All2 P C l) {k c : Nat} (hc : C[k]? = some c) : ∃ y, l[k]? = some y ∧ P c y := by
  have hk := (List.getElem?_eq_some_iff.1 hc).1
  rw [h.1] at hk
  exact ⟨l[k], List.getElem?_eq_some_iff.2 ⟨hk, rfl⟩, h.2 k c _ hc (List.getElem?_eq_some_iff.2 ⟨hk, rfl⟩)⟩
/-! ### Permissions -/
structure PmOk (p : PM) : Prop where
  k : 0 ≤ p.kind ∧ p.kind ≤ 2
  s1 : p.key.size ≤ 64
  s2 : p.end_.size ≤ 64
  n : p.key.size ≠ 0
  v : p.end_.size = 0 ∨ p.end_.data.toList = [0] ∨ Lib.compareBytes p.key.data.toList p.end_.data.toList < 0
def PM.lo (p : PM) : List UInt8 := p.key.data.toList
def PM.hi (p : PM) : List UInt8 := if p.end_.size = 0 then p.lo ++ [0] else if p.end_.data.toList = [0] then [] else p.end_.data.toList
def PermAt (R : HP) (b : Nat) (p : PM) : Prop := ∃ (kv ev : Value), RS R 1 kv (List.length (ints p.key)) (bytesV (ints p.key)) ∧ RS R 1 ev (List.length (ints p.end_)) (bytesV (ints p.end_)) ∧ RC R b 0 [.int .i32 p.kind, kv, ev]
theorem PermAt.mono {R R' : HP} (s : Sub R R') {b : Nat} {p : PM} (h : PermAt R b p) : PermAt R' b p := by
  obtain ⟨kv, ev, h1, h2, h3⟩ := h; exact ⟨kv, ev, h1.mono s, h2.mono s, h3.mono s⟩
theorem PM.lo_ne {p : PM} (h : PmOk p) : p.lo ≠ [] := fun e => h.n (by have : p.key.data.toList.length = 0 := by rw [show p.key.data.toList = [] from e]; rfl
                                                                       simpa using this)
theorem cb_snoc : ∀ (a : List UInt8) (x : UInt8), Lib.compareBytes a (a ++ [x]) = -1
  | [], x => rfl
  | a :: xs, x => by
    have := cb_snoc xs x
    simp only [List.cons_append, Lib.compareBytes]
    rw [if_neg (by simp [UInt8.lt_iff_toNat_lt]), if_neg (by simp [UInt8.lt_iff_toNat_lt])]
    exact this
theorem PM.proper {p : PM} (h : PmOk p) : acm p.lo p.hi < 0 := by
  have hn := PM.lo_ne h
  unfold PM.hi
  by_cases h1 : p.end_.size = 0
  · rw [if_pos h1, acm_ne hn (by simp), cb_snoc]; decide
  · rw [if_neg h1]
    by_cases h2 : p.end_.data.toList = [0]
    · rw [if_pos h2, acm_r hn]; decide
    · rw [if_neg h2]
      have he : p.end_.data.toList ≠ [] := fun e => h1 (by have : p.end_.data.toList.length = 0 := by rw [e]; rfl
                                                           simpa using this)
      rw [acm_ne hn he]
      rcases h.v with h3 | h3 | h3
      · exact absurd h3 h1
      · exact absurd h3 h2
      · exact h3
def pallows (kind : Int) (p : PM) : Bool := decide (p.kind = kind ∨ p.kind = 2)
def pivls (l : List PM) (kind : Int) : List (List UInt8 × List UInt8) := (l.filter (pallows kind)).map fun p => (p.lo, p.hi)
theorem pivls_snoc {l : List PM} {k : Nat} {p : PM} {kind : Int} (h : l[k]? = some p) : pivls (l.take (k + 1)) kind = pivls (l.take k) kind ++ if pallows kind p then [(p.lo, p.hi)] else [] := by
  unfold pivls
  rw [take_snoc h, List.filter_append, List.map_append]
  congr 1
  cases hp : pallows kind p <;> simp [List.filter_cons, hp]
theorem pivls_yes {l : List PM} {k : Nat} {p : PM} {kind : Int} (h : l[k]? = some p) (hk : p.kind = kind ∨ p.kind = 2) : pivls (l.take (k + 1)) kind = pivls (l.take k) kind ++ [(p.lo, p.hi)] := by
  rw [pivls_snoc h, show pallows kind p = true from decide_eq_true hk]; rfl
theorem pivls_no {l : List PM} {k : Nat} {p : PM} {kind : Int} (h : l[k]? = some p) (hk : ¬ (p.kind = kind ∨ p.kind = 2)) : pivls (l.take (k + 1)) kind = pivls (l.take k) kind := by
  rw [pivls_snoc h, show pallows kind p = false from decide_eq_false hk]; simp
theorem pivls_mem {l : List PM} {kind : Int} {q : List UInt8 × List UInt8} : q ∈ pivls l kind ↔ ∃ p ∈ l, (p.kind = kind ∨ p.kind = 2) ∧ q = (p.lo, p.hi) := by
  unfold pivls
  rw [List.mem_map]
  constructor
  · rintro ⟨p, hp, rfl⟩
    have := List.mem_filter.1 hp
    exact ⟨p, this.1, of_decide_eq_true this.2, rfl⟩
  · rintro ⟨p, hp, hk, rfl⟩
    exact ⟨p, List.mem_filter.2 ⟨hp, decide_eq_true hk⟩, rfl⟩
/-! ### A tree of these intervals -/
section
variable {K : Type} (O : KO K)
structure TI (R : HP) (W : Tr K) (M : List (K × K)) : Prop where
  ok : TOk O R W ∧ LocT O W ∧ blackT W
  s : srt O (ino W)
  m : ∀ p, p ∈ M ↔ ∃ n ∈ ino W, n.kb = p.1 ∧ n.ke = p.2
variable {O}
theorem TI.mono {R R' : HP} (s : Sub R R') {W : Tr K} {M : List (K × K)} (h : TI O R W M) : TI O R' W M := ⟨⟨h.ok.1.mono s, h.ok.2⟩, h.s, h.m⟩
theorem TI.nil {R : HP} : TI O R (Tr.lf : Tr K) [] := ⟨⟨trivial, trivial, trivial⟩, List.Pairwise.nil, fun p => ⟨(fun h => by cases h), (fun ⟨n, h, _⟩ => by cases h)⟩⟩
theorem TI.ins {R : HP} {W W' : Tr K} {M : List (K × K)} {L1 L2 : List (ND K)} {z : ND K} {b e v : Value} {kb ke : K} (h : TI O R W M) (h1 : TOk O R W' ∧ LocT O W' ∧ blackT W') (h2 : ino W' = L1 ++ z.er :: L2) (h3 : ino W = L1 ++ L2) (h4 : z.b = b ∧ z.e = e ∧ z.v = v ∧ z.kb = kb ∧ z.ke = ke)
    (h5 : srt O (ino W')) : TI O R W' (M ++ [(kb, ke)]) := by
  obtain ⟨-, -, -, rfl, rfl⟩ := h4
  refine ⟨h1, h5, fun p => ?_⟩
  rw [h2, List.mem_append, h.m, h3]
  constructor
  · rintro (⟨n, hn, hp⟩ | hp)
    · refine ⟨n, ?_, hp⟩
      rcases List.mem_append.1 hn with hn | hn
      · exact List.mem_append.2 (.inl hn)
      · exact List.mem_append.2 (.inr (List.mem_cons_of_mem _ hn))
    · have : p = (z.kb, z.ke) := by simpa using hp
      subst this
      exact ⟨z.er, by simp, rfl, rfl⟩
  · rintro ⟨n, hn, hp⟩
    rcases List.mem_append.1 hn with hn | hn
    · exact .inl ⟨n, List.mem_append.2 (.inl hn), hp⟩
    · rcases List.mem_cons.1 hn with rfl | hn
      · refine .inr ?_
        have : p = (z.kb, z.ke) := Prod.ext hp.1.symm hp.2.symm
        rw [this]; exact List.mem_singleton.2 rfl
      · exact .inl ⟨n, List.mem_append.2 (.inr hn), hp⟩
theorem TI.prp {R : HP} {W : Tr K} {M : List (K × K)} (h : TI O R W M) (hm : ∀ p ∈ M, O.cm p.1 p.2 < 0) : Prp O (ino W) := fun n hn => hm (n.kb, n.ke) ((h.m _).2 ⟨n, hn, rfl, rfl⟩)
/-- Does a search find one that meets [b, e)? -/
theorem TI.isect {R : HP} {W : Tr K} {M : List (K × K)} (h : TI O R W M) (hm : ∀ p ∈ M, O.cm p.1 p.2 < 0) {b e : K} (hq : O.cm b e < 0) : Go.Proofs.Ytlnihndjepjagaa.isect O b e W = true ↔ ∃ p ∈ M, O.cm p.1 e < 0 ∧ O.cm b p.2 < 0 := by
  rw [isect_eq hq h.s h.ok.2.1 (h.prp hm), List.any_eq_true]
  constructor
  · rintro ⟨n, hn, hp⟩
    exact ⟨(n.kb, n.ke), (h.m _).2 ⟨n, hn, rfl, rfl⟩, of_decide_eq_true hp⟩
  · rintro ⟨p, hp, h1⟩
    obtain ⟨n, hn, e1, e2⟩ := (h.m p).1 hp
    refine ⟨n, hn, decide_eq_true ?_⟩
    rw [e1, e2]; exact h1
/-- Does Contains find that [b, e) is covered? -/
theorem TI.cont {R : HP} {W : Tr K} {M : List (K × K)} (h : TI O R W M) (hm : ∀ p ∈ M, O.cm p.1 p.2 < 0) {b e : K} (hq : O.cm b e < 0) :
    (vis O (CS.step O) b e W (⟨none, true⟩ : CS K)).1.yes O b e = true ↔ ∀ x, O.cm b x ≤ 0 → O.cm x e < 0 → ∃ p ∈ M, O.cm p.1 x ≤ 0 ∧ O.cm x p.2 < 0 := by
  rw [vis_eq step_er hq _ h.s h.ok.2.1 (h.prp hm), cont_iff hq h.s]
  constructor
  · intro hc x h1 h2
    obtain ⟨n, hn, hi⟩ := hc x h1 h2
    exact ⟨(n.kb, n.ke), (h.m _).2 ⟨n, hn, rfl, rfl⟩, hi⟩
  · intro hc x h1 h2
    obtain ⟨p, hp, hi⟩ := hc x h1 h2
    obtain ⟨n, hn, e1, e2⟩ := (h.m p).1 hp
    refine ⟨n, hn, ?_⟩
    unfold inI
    rw [e1, e2]; exact hi
end
/-! ### What permissions permit -/
def permitP (M : List (List UInt8 × List UInt8)) (q : PM) : Prop :=
  if q.end_.size = 0 then ∃ p ∈ M, acm p.1 q.hi < 0 ∧ acm q.lo p.2 < 0 else ∀ x, acm q.lo x ≤ 0 → acm x q.hi < 0 → ∃ p ∈ M, acm p.1 x ≤ 0 ∧ acm x p.2 < 0
open Classical in
noncomputable def permits (l : List PM) (q : PM) (kind : Int) : Bool := decide (permitP (pivls l kind) q)
theorem permits_iff {l : List PM} {q : PM} {kind : Int} : permits l q kind = true ↔ permitP (pivls l kind) q := by unfold permits; simp
theorem bool_of {a b : Bool} {p : Prop} (h1 : a = true ↔ p) (h2 : b = true ↔ p) : a = b := by
  cases a <;> cases b <;> simp_all
theorem pivls_proper {l : List PM} {kind : Int} (h : ∀ p ∈ l, PmOk p) : ∀ q ∈ pivls l kind, acm q.1 q.2 < 0 := fun q hq => by
  obtain ⟨p, hp, _, rfl⟩ := pivls_mem.1 hq
  exact PM.proper (h p hp)
theorem permits_pt {R : HP} {W : Tr (List UInt8)} {l : List PM} {q : PM} {kind : Int} (h : TI BO R W (pivls l kind)) (hl : ∀ p ∈ l, PmOk p) (hq : PmOk q) (h0 : q.end_.size = 0) : Go.Proofs.Ytlnihndjepjagaa.isect BO q.lo q.hi W = permits l q kind :=
  bool_of (h.isect (pivls_proper hl) (PM.proper hq)) (permits_iff.trans (by unfold permitP; rw [if_pos h0]; exact Iff.rfl))
theorem permits_iv {R : HP} {W : Tr (List UInt8)} {l : List PM} {q : PM} {kind : Int} (h : TI BO R W (pivls l kind)) (hl : ∀ p ∈ l, PmOk p) (hq : PmOk q) (h0 : q.end_.size ≠ 0) :
    (vis BO (CS.step BO) q.lo q.hi W (⟨none, true⟩ : CS (List UInt8))).1.yes BO q.lo q.hi = permits l q kind :=
  bool_of (h.cont (pivls_proper hl) (PM.proper hq)) (permits_iff.trans (by unfold permitP; rw [if_neg h0]; exact Iff.rfl))
theorem PM.hi_nil {p : PM} (h : p.end_.data.toList = [0]) : p.hi = [] := by
  have : p.end_.size ≠ 0 := fun e => by
    have h2 : p.end_.data.toList.length = 0 := by simpa using e
    rw [h] at h2; cases h2
  unfold PM.hi
  rw [if_neg this, if_pos h]
theorem PM.hi_end {p : PM} (h0 : p.end_.size ≠ 0) (h : p.end_.data.toList ≠ [0]) : p.hi = p.end_.data.toList := by
  unfold PM.hi
  rw [if_neg h0, if_neg h]
theorem PM.hi_pt {p : PM} (h0 : p.end_.size = 0) : p.hi = p.lo ++ [0] := by
  unfold PM.hi
  rw [if_pos h0]


set_option maxHeartbeats 1600000 in
theorem ckOrder (R : HP) (i : Int) (hi : 0 ≤ i ∧ i ≤ 2) :
    Tri Try.prog 68 #[(vI .i64 i)] R [] (fun v__ post__ => v__ = (vI .i32 i) ∧ post__ = []) := by
 refine Tri.into (n := 11) (al := [(vI .i64 i)]) Try.func68 rfl Try.ntmps68 rfl rfl fun w F H => ?_
 refine C_seq (fun K1_ hK1_ => C_reg ?_)
 refine sv (v := (vI .i32 0)) (x_assign rfl) ?_
 refine wpList_nil (X_then (hK1_ _ _ ?_))
 clear hK1_
 refine C_seq (fun K2_ hK2_ => ?_)
 refine C_seq (fun K3_ hK3_ => C_reg ?_)
 refine sv (v := (vI .i64 i)) (x_move rfl) ?_
 refine sv (v := (vB (decide (i < -2147483648)))) (x_bin rfl rfl rfl) ?_
 refine sv (v := (vB (decide (i < -2147483648)))) (x_move rfl) ?_
 rcases Bool.eq_false_or_eq_true (decide (i < -2147483648)) with c4_t | c4_f
 ·have c4_tp : i < -2147483648 := of_decide_eq_true c4_t
  refine S_no (j := 2) (dj := 5) (b := true) rfl rfl (congrArg vB c4_t) (by decide) ?_
  refine S_no (j := 2) (dj := 5) (b := true) rfl rfl (congrArg vB c4_t) (by decide) ?_
  refine S_list (T_pickT (v := (vB true)) (congrArg vB c4_t) rfl ?_)
  refine wpList_nil (X_then (hK3_ _ _ ?_))
  clear hK3_
  refine C_condT rfl ?_
  refine C_seq (fun K5_ hK5_ => C_reg ?_)
  refine sv (v := (vI .i32 (-1))) (x_assign rfl) ?_
  refine wpList_nil (X_then (hK5_ _ _ ?_))
  clear hK5_
  refine C_ret (X_thenR ?_)
  refine R_any (v := (vI .i32 (-1))) (run_results1 rfl rfl) ?_
  exact ⟨_, _, rfl, ⟨(congrArg (vI .i32) ((by omega) : -1 = i)), rfl⟩, (Same.refl w), H⟩
 ·have c4_fp : ¬ (i < -2147483648) := of_decide_eq_false c4_f
  refine S_yes (j := 2) (dj := 5) (b := false) rfl rfl (congrArg vB c4_f) (T_val (v := (vI .i64 i)) (x_move rfl) ?_)
  refine S_yes (j := 2) (dj := 5) (b := false) rfl rfl (congrArg vB c4_f) (T_val (v := (vB (decide (2147483647 < i)))) (x_bin rfl rfl rfl) ?_)
  refine S_list (T_pickF (v := (vB (decide (2147483647 < i)))) (congrArg vB c4_f) rfl ?_)
  refine wpList_nil (X_then (hK3_ _ _ ?_))
  clear hK3_
  refine C_cond (b := decide (2147483647 < i)) rfl (fun c6_t => ?_) (fun c6_f => ?_)
  ·have c6_tp : 2147483647 < i := of_decide_eq_true c6_t
   refine C_seq (fun K7_ hK7_ => C_reg ?_)
   refine sv (v := (vI .i32 (-1))) (x_assign rfl) ?_
   refine wpList_nil (X_then (hK7_ _ _ ?_))
   clear hK7_
   refine C_ret (X_thenR ?_)
   refine R_any (v := (vI .i32 (-1))) (run_results1 rfl rfl) ?_
   exact ⟨_, _, rfl, ⟨(congrArg (vI .i32) ((by omega) : -1 = i)), rfl⟩, (Same.refl w), H⟩
  ·have c6_fp : ¬ (2147483647 < i) := of_decide_eq_false c6_f
   refine C_skip (X_then (hK2_ _ _ ?_))
   clear hK2_
   refine C_seq (fun K8_ hK8_ => C_reg ?_)
   refine sv (v := (vI .i64 i)) (x_move rfl) ?_
   refine sv (v := (vI .i32 (IntKind.i32.wrap i))) (x_convI rfl Try.underlying3 Try.underlying21 rfl) ?_
   refine sv (v := (vI .i32 (IntKind.i32.wrap i))) (x_assign rfl) ?_
   refine wpList_nil (X_then (hK8_ _ _ ?_))
   clear hK8_
   refine C_ret ?_
   refine R_any (v := (vI .i32 (IntKind.i32.wrap i))) (run_results1 rfl rfl) ?_
   exact ⟨_, _, rfl, ⟨(congrArg (vI .i32) ((IntWalk.i32_in _ (by omega)) : IntKind.i32.wrap i = i)), rfl⟩, (Same.refl w), H⟩

set_option maxHeartbeats 1600000 in
theorem pmIn (R : HP) (p : PM) (hpm : PmOk p) :
    TriG Try.prog 56 #[(vA #[(vI .i64 p.kind), (Value.string p.key), (Value.string p.end_)])] R [] (fun R' v__ post__ => ∃ (b' : Nat), v__ = (vQ b') ∧ post__ = [] ∧ (PermAt R' b' p)) := by
 have hk_ := hpm.k
 have hs1_ := hpm.s1
 have hs2_ := hpm.s2
 refine TriG.into (n := 14) (al := [(vA #[(vI .i64 p.kind), (Value.string p.key), (Value.string p.end_)])]) Try.func56 rfl Try.ntmps56 rfl rfl fun w F H => ?_
 refine C_seq (fun K1_ hK1_ => C_reg ?_)
 refine S_list (T_box (v := (vA #[(vI .i64 p.kind), (Value.string p.key), (Value.string p.end_)])) rfl H ?_)
 intro b2_ w3_ S5_ H4_
 have S6_ := Same.trans (Same.refl w) S5_
 refine sv (v := (vP none)) (x_assign rfl) ?_
 refine wpList_nil (X_then (hK1_ _ _ ?_))
 clear hK1_
 refine C_seq (fun K7_ hK7_ => ?_)
 refine A_start (S := fun w => Rd b2_ [(vI .i64 p.kind), (Value.string p.key), (Value.string p.end_)] w ∧ Sub R (hp w)) (N := 12) foll rfl rfl ?_
 have H8_ := Holds.drew_ H4_
 have hq9_ := And.intro (Holds.rd H8_ 0 rfl) ((Holds.ro_at H8_ 1 rfl))
 refine A_tk 0 (v := (vQ b2_)) rfl (by kernel_rfl) (fun w hS => by kernel_rfl) hq9_ ?_
 refine A_tk 1 (v := (vI .i64 p.kind)) rfl (by kernel_rfl) (fun w hS => x_load1 rfl Try.underlying3 rfl (hS.1 0 (vI .i64 p.kind) rfl)) hq9_ ?_
 refine A_tk 3 (v := (vP (some ⟨b2_, 1, none⟩))) rfl (by kernel_rfl) (fun w hS => by kernel_rfl) hq9_ ?_
 refine A_tk 4 (v := (Value.string p.key)) rfl (by kernel_rfl) (fun w hS => x_load1 rfl Try.underlying9 rfl (hS.1 1 (Value.string p.key) rfl)) hq9_ ?_
 refine A_tk 6 (v := (vP (some ⟨b2_, 2, none⟩))) rfl (by kernel_rfl) (fun w hS => by kernel_rfl) hq9_ ?_
 refine A_tk 7 (v := (Value.string p.end_)) rfl (by kernel_rfl) (fun w hS => x_load1 rfl Try.underlying9 rfl (hS.1 2 (Value.string p.end_) rfl)) hq9_ ?_
 refine A_ready (i := 2) (rs := [5, 8]) (by kernel_rfl) ?_
 refine AllR.cons ?_ ?_
 ·skip
  have H11_ := ((Holds.bring H8_ 1 rfl) :)
  refine A_op (ls' := #[true, true, true, true, true, false, true, true, false, false, false, false]) rfl (by kernel_rfl) (T_call (al := [(vI .i64 p.kind)]) (pre := []) rfl rfl cb68 (ckOrder R p.kind (by first | assumption | omega)) H11_ ?_)
  rintro v10_ p15_ w12_ ⟨rfl, rfl⟩ S14_ H13_
  have S16_ := Same.trans (Same.trans S6_ (Same.drew _)) S14_
  refine ⟨⟨Holds.rd H13_ 1 rfl, (Holds.ro_at H13_ 0 rfl)⟩, ?_⟩
  refine A_ready (i := 5) (rs := [8]) (by kernel_rfl) ?_
  refine AllR.cons ?_ ?_
  ·skip
   refine A_op (ls' := #[true, true, true, true, true, true, true, true, false, false, false, false]) rfl (by kernel_rfl) (T_s2b rfl Try.underlying9 Try.underlying122 Try.underlying5 H13_ ?_)
   intro b17_ cp18_ w19_ S21_ hc22_ H20_
   have S23_ := Same.trans S16_ S21_
   have H24_ := Holds.resl H20_ 0 rfl (byteCells_bytesV _ : byteCells p.key = bytesV (ints p.key)) rfl
   have H25_ := Holds.resl H24_ 0 rfl (rfl : bytesV (ints p.key) = bytesV (ints p.key)) ((ints_length _).symm : p.key.size = (List.length (ints p.key)))
   refine ⟨⟨Holds.rd H25_ 2 rfl, (Holds.ro_at H25_ 1 rfl)⟩, ?_⟩
   refine A_ready (i := 8) (rs := []) (by kernel_rfl) ?_
   refine AllR.cons ?_ AllR.nil
   refine A_op (ls' := #[true, true, true, true, true, true, true, true, true, false, false, false]) rfl (by kernel_rfl) (T_s2b rfl Try.underlying9 Try.underlying122 Try.underlying5 H25_ ?_)
   intro b26_ cp27_ w28_ S30_ hc31_ H29_
   have S32_ := Same.trans S23_ S30_
   have H33_ := Holds.resl H29_ 0 rfl (byteCells_bytesV _ : byteCells p.end_ = bytesV (ints p.end_)) rfl
   have H34_ := Holds.resl H33_ 0 rfl (rfl : bytesV (ints p.end_) = bytesV (ints p.end_)) ((ints_length _).symm : p.end_.size = (List.length (ints p.end_)))
   refine ⟨⟨Holds.rd H34_ 3 rfl, (Holds.ro_at H34_ 2 rfl)⟩, ?_⟩
   have hq35_ := And.intro (Holds.rd H34_ 3 rfl) ((Holds.ro_at H34_ 2 rfl))
   refine A_tk 9 (v := (vA #[(vI .i32 p.kind), (vS (some ⟨b17_, 0, none⟩) p.key.size cp18_), (vS (some ⟨b26_, 0, none⟩) p.end_.size cp27_)])) rfl (by kernel_rfl) (fun w hS => by kernel_rfl) hq35_ ?_
   refine A_ready (i := 10) (rs := []) (by kernel_rfl) ?_
   refine AllR.cons ?_ AllR.nil
   refine A_op (ls' := #[true, true, true, true, true, true, true, true, true, true, true, false]) rfl (by kernel_rfl) (T_box (v := (vA #[(vI .i32 p.kind), (vS (some ⟨b17_, 0, none⟩) p.key.size cp18_), (vS (some ⟨b26_, 0, none⟩) p.end_.size cp27_)])) rfl H34_ ?_)
   intro b36_ w37_ S39_ H38_
   have S40_ := Same.trans S32_ S39_
   refine ⟨⟨Holds.rd H38_ 4 rfl, (Holds.ro_at H38_ 3 rfl)⟩, ?_⟩
   have hq41_ := And.intro (Holds.rd H38_ 4 rfl) ((Holds.ro_at H38_ 3 rfl))
   refine A_tk 11 (v := (vQ b36_)) rfl (by kernel_rfl) (fun w hS => x_assign rfl) hq41_ ?_
   refine A_done (by kernel_rfl) ?_
   refine (X_then (hK7_ _ _ ?_))
   clear hK7_
   refine C_ret ?_
   refine R_any (v := (vQ b36_)) (run_results1 rfl rfl) ?_
   have H42_ := ((Holds.bring (Holds.bring H38_ 2 rfl) 3 rfl) :)
   obtain ⟨R43_, hs44_, ⟨R45_, ha46_, hs47_⟩, H48_⟩ := Holds.gift H42_
   have hr49_ : RS R43_ 1 (vS (some ⟨b17_, 0, none⟩) p.key.size cp18_) (List.length (ints p.key)) (bytesV (ints p.key)) := (sl_RS ha46_ (Sub.rfl' _)).mono hs47_
   have H50_ := ((Holds.bring (Holds.bring H48_ 2 rfl) 1 rfl) :)
   obtain ⟨R51_, hs52_, ⟨R53_, ha54_, hs55_⟩, H56_⟩ := Holds.gift H50_
   have hz_R_R51_ := Sub.trans' hs44_ hs52_
   have hr57_ : RS R51_ 1 (vS (some ⟨b26_, 0, none⟩) p.end_.size cp27_) (List.length (ints p.end_)) (bytesV (ints p.end_)) := (sl_RS ha54_ (Sub.rfl' _)).mono hs55_
   obtain ⟨R58_, hs59_, ⟨R60_, ha61_, hs62_⟩, H63_⟩ := Holds.gift H56_
   have hz_R_R58_ := Sub.trans' hz_R_R51_ hs59_
   have hz_R43__R58_ := Sub.trans' hs52_ hs59_
   have hr64_ : RC R58_ b36_ 0 [(vI .i32 p.kind), (vS (some ⟨b17_, 0, none⟩) p.key.size cp18_), (vS (some ⟨b26_, 0, none⟩) p.end_.size cp27_)] := (cl_RC ha61_ (Sub.rfl' _)).mono hs62_
   have H65_ : Holds w37_ (ro R58_ :: F) := (Holds.pkF H63_ [0] 1 :)
   exact ⟨R58_, _, _, rfl, hz_R_R58_, ⟨b36_, rfl, rfl, (⟨_, _, (RS.mono hr49_ hz_R43__R58_), (RS.mono hr57_ hs59_), hr64_⟩)⟩, S40_, H65_⟩
  refine AllR.cons ?_ AllR.nil
  refine A_op (ls' := #[true, true, true, true, true, false, true, true, true, false, false, false]) rfl (by kernel_rfl) (T_s2b rfl Try.underlying9 Try.underlying122 Try.underlying5 H13_ ?_)
  intro b66_ cp67_ w68_ S70_ hc71_ H69_
  have S72_ := Same.trans S16_ S70_
  have H73_ := Holds.resl H69_ 0 rfl (byteCells_bytesV _ : byteCells p.end_ = bytesV (ints p.end_)) rfl
  have H74_ := Holds.resl H73_ 0 rfl (rfl : bytesV (ints p.end_) = bytesV (ints p.end_)) ((ints_length _).symm : p.end_.size = (List.length (ints p.end_)))
  refine ⟨⟨Holds.rd H74_ 2 rfl, (Holds.ro_at H74_ 1 rfl)⟩, ?_⟩
  refine A_ready (i := 5) (rs := []) (by kernel_rfl) ?_
  refine AllR.cons ?_ AllR.nil
  refine A_op (ls' := #[true, true, true, true, true, true, true, true, true, false, false, false]) rfl (by kernel_rfl) (T_s2b rfl Try.underlying9 Try.underlying122 Try.underlying5 H74_ ?_)
  intro b75_ cp76_ w77_ S79_ hc80_ H78_
  have S81_ := Same.trans S72_ S79_
  have H82_ := Holds.resl H78_ 0 rfl (byteCells_bytesV _ : byteCells p.key = bytesV (ints p.key)) rfl
  have H83_ := Holds.resl H82_ 0 rfl (rfl : bytesV (ints p.key) = bytesV (ints p.key)) ((ints_length _).symm : p.key.size = (List.length (ints p.key)))
  refine ⟨⟨Holds.rd H83_ 3 rfl, (Holds.ro_at H83_ 2 rfl)⟩, ?_⟩
  have hq84_ := And.intro (Holds.rd H83_ 3 rfl) ((Holds.ro_at H83_ 2 rfl))
  refine A_tk 9 (v := (vA #[(vI .i32 p.kind), (vS (some ⟨b75_, 0, none⟩) p.key.size cp76_), (vS (some ⟨b66_, 0, none⟩) p.end_.size cp67_)])) rfl (by kernel_rfl) (fun w hS => by kernel_rfl) hq84_ ?_
  refine A_ready (i := 10) (rs := []) (by kernel_rfl) ?_
  refine AllR.cons ?_ AllR.nil
  refine A_op (ls' := #[true, true, true, true, true, true, true, true, true, true, true, false]) rfl (by kernel_rfl) (T_box (v := (vA #[(vI .i32 p.kind), (vS (some ⟨b75_, 0, none⟩) p.key.size cp76_), (vS (some ⟨b66_, 0, none⟩) p.end_.size cp67_)])) rfl H83_ ?_)
  intro b85_ w86_ S88_ H87_
  have S89_ := Same.trans S81_ S88_
  refine ⟨⟨Holds.rd H87_ 4 rfl, (Holds.ro_at H87_ 3 rfl)⟩, ?_⟩
  have hq90_ := And.intro (Holds.rd H87_ 4 rfl) ((Holds.ro_at H87_ 3 rfl))
  refine A_tk 11 (v := (vQ b85_)) rfl (by kernel_rfl) (fun w hS => x_assign rfl) hq90_ ?_
  refine A_done (by kernel_rfl) ?_
  refine (X_then (hK7_ _ _ ?_))
  clear hK7_
  refine C_ret ?_
  refine R_any (v := (vQ b85_)) (run_results1 rfl rfl) ?_
  have H91_ := ((Holds.bring (Holds.bring H87_ 1 rfl) 3 rfl) :)
  obtain ⟨R92_, hs93_, ⟨R94_, ha95_, hs96_⟩, H97_⟩ := Holds.gift H91_
  have hr98_ : RS R92_ 1 (vS (some ⟨b75_, 0, none⟩) p.key.size cp76_) (List.length (ints p.key)) (bytesV (ints p.key)) := (sl_RS ha95_ (Sub.rfl' _)).mono hs96_
  have H99_ := ((Holds.bring (Holds.bring H97_ 2 rfl) 1 rfl) :)
  obtain ⟨R100_, hs101_, ⟨R102_, ha103_, hs104_⟩, H105_⟩ := Holds.gift H99_
  have hz_R_R100_ := Sub.trans' hs93_ hs101_
  have hr106_ : RS R100_ 1 (vS (some ⟨b66_, 0, none⟩) p.end_.size cp67_) (List.length (ints p.end_)) (bytesV (ints p.end_)) := (sl_RS ha103_ (Sub.rfl' _)).mono hs104_
  obtain ⟨R107_, hs108_, ⟨R109_, ha110_, hs111_⟩, H112_⟩ := Holds.gift H105_
  have hz_R_R107_ := Sub.trans' hz_R_R100_ hs108_
  have hz_R92__R107_ := Sub.trans' hs101_ hs108_
  have hr113_ : RC R107_ b85_ 0 [(vI .i32 p.kind), (vS (some ⟨b75_, 0, none⟩) p.key.size cp76_), (vS (some ⟨b66_, 0, none⟩) p.end_.size cp67_)] := (cl_RC ha110_ (Sub.rfl' _)).mono hs111_
  have H114_ : Holds w86_ (ro R107_ :: F) := (Holds.pkF H112_ [0] 1 :)
  exact ⟨R107_, _, _, rfl, hz_R_R107_, ⟨b85_, rfl, rfl, (⟨_, _, (RS.mono hr98_ hz_R92__R107_), (RS.mono hr106_ hs108_), hr113_⟩)⟩, S89_, H114_⟩
 refine AllR.cons ?_ ?_
 ·skip
  refine A_op (ls' := #[true, true, false, true, true, true, true, true, false, false, false, false]) rfl (by kernel_rfl) (T_s2b rfl Try.underlying9 Try.underlying122 Try.underlying5 H8_ ?_)
  intro b115_ cp116_ w117_ S119_ hc120_ H118_
  have S121_ := Same.trans (Same.trans S6_ (Same.drew _)) S119_
  have H122_ := Holds.resl H118_ 0 rfl (byteCells_bytesV _ : byteCells p.key = bytesV (ints p.key)) rfl
  have H123_ := Holds.resl H122_ 0 rfl (rfl : bytesV (ints p.key) = bytesV (ints p.key)) ((ints_length _).symm : p.key.size = (List.length (ints p.key)))
  refine ⟨⟨Holds.rd H123_ 1 rfl, (Holds.ro_at H123_ 2 rfl)⟩, ?_⟩
  refine A_ready (i := 2) (rs := [8]) (by kernel_rfl) ?_
  refine AllR.cons ?_ ?_
  ·skip
   have H125_ := ((Holds.bring H123_ 2 rfl) :)
   refine A_op (ls' := #[true, true, true, true, true, true, true, true, false, false, false, false]) rfl (by kernel_rfl) (T_call (al := [(vI .i64 p.kind)]) (pre := []) rfl rfl cb68 (ckOrder R p.kind (by first | assumption | omega)) H125_ ?_)
   rintro v124_ p129_ w126_ ⟨rfl, rfl⟩ S128_ H127_
   have S130_ := Same.trans S121_ S128_
   refine ⟨⟨Holds.rd H127_ 2 rfl, (Holds.ro_at H127_ 0 rfl)⟩, ?_⟩
   refine A_ready (i := 8) (rs := []) (by kernel_rfl) ?_
   refine AllR.cons ?_ AllR.nil
   refine A_op (ls' := #[true, true, true, true, true, true, true, true, true, false, false, false]) rfl (by kernel_rfl) (T_s2b rfl Try.underlying9 Try.underlying122 Try.underlying5 H127_ ?_)
   intro b131_ cp132_ w133_ S135_ hc136_ H134_
   have S137_ := Same.trans S130_ S135_
   have H138_ := Holds.resl H134_ 0 rfl (byteCells_bytesV _ : byteCells p.end_ = bytesV (ints p.end_)) rfl
   have H139_ := Holds.resl H138_ 0 rfl (rfl : bytesV (ints p.end_) = bytesV (ints p.end_)) ((ints_length _).symm : p.end_.size = (List.length (ints p.end_)))
   refine ⟨⟨Holds.rd H139_ 3 rfl, (Holds.ro_at H139_ 1 rfl)⟩, ?_⟩
   have hq140_ := And.intro (Holds.rd H139_ 3 rfl) ((Holds.ro_at H139_ 1 rfl))
   refine A_tk 9 (v := (vA #[(vI .i32 p.kind), (vS (some ⟨b115_, 0, none⟩) p.key.size cp116_), (vS (some ⟨b131_, 0, none⟩) p.end_.size cp132_)])) rfl (by kernel_rfl) (fun w hS => by kernel_rfl) hq140_ ?_
   refine A_ready (i := 10) (rs := []) (by kernel_rfl) ?_
   refine AllR.cons ?_ AllR.nil
   refine A_op (ls' := #[true, true, true, true, true, true, true, true, true, true, true, false]) rfl (by kernel_rfl) (T_box (v := (vA #[(vI .i32 p.kind), (vS (some ⟨b115_, 0, none⟩) p.key.size cp116_), (vS (some ⟨b131_, 0, none⟩) p.end_.size cp132_)])) rfl H139_ ?_)
   intro b141_ w142_ S144_ H143_
   have S145_ := Same.trans S137_ S144_
   refine ⟨⟨Holds.rd H143_ 4 rfl, (Holds.ro_at H143_ 2 rfl)⟩, ?_⟩
   have hq146_ := And.intro (Holds.rd H143_ 4 rfl) ((Holds.ro_at H143_ 2 rfl))
   refine A_tk 11 (v := (vQ b141_)) rfl (by kernel_rfl) (fun w hS => x_assign rfl) hq146_ ?_
   refine A_done (by kernel_rfl) ?_
   refine (X_then (hK7_ _ _ ?_))
   clear hK7_
   refine C_ret ?_
   refine R_any (v := (vQ b141_)) (run_results1 rfl rfl) ?_
   have H147_ := ((Holds.bring (Holds.bring H143_ 3 rfl) 3 rfl) :)
   obtain ⟨R148_, hs149_, ⟨R150_, ha151_, hs152_⟩, H153_⟩ := Holds.gift H147_
   have hr154_ : RS R148_ 1 (vS (some ⟨b115_, 0, none⟩) p.key.size cp116_) (List.length (ints p.key)) (bytesV (ints p.key)) := (sl_RS ha151_ (Sub.rfl' _)).mono hs152_
   have H155_ := ((Holds.bring (Holds.bring H153_ 2 rfl) 1 rfl) :)
   obtain ⟨R156_, hs157_, ⟨R158_, ha159_, hs160_⟩, H161_⟩ := Holds.gift H155_
   have hz_R_R156_ := Sub.trans' hs149_ hs157_
   have hr162_ : RS R156_ 1 (vS (some ⟨b131_, 0, none⟩) p.end_.size cp132_) (List.length (ints p.end_)) (bytesV (ints p.end_)) := (sl_RS ha159_ (Sub.rfl' _)).mono hs160_
   obtain ⟨R163_, hs164_, ⟨R165_, ha166_, hs167_⟩, H168_⟩ := Holds.gift H161_
   have hz_R_R163_ := Sub.trans' hz_R_R156_ hs164_
   have hz_R148__R163_ := Sub.trans' hs157_ hs164_
   have hr169_ : RC R163_ b141_ 0 [(vI .i32 p.kind), (vS (some ⟨b115_, 0, none⟩) p.key.size cp116_), (vS (some ⟨b131_, 0, none⟩) p.end_.size cp132_)] := (cl_RC ha166_ (Sub.rfl' _)).mono hs167_
   have H170_ : Holds w142_ (ro R163_ :: F) := (Holds.pkF H168_ [0] 1 :)
   exact ⟨R163_, _, _, rfl, hz_R_R163_, ⟨b141_, rfl, rfl, (⟨_, _, (RS.mono hr154_ hz_R148__R163_), (RS.mono hr162_ hs164_), hr169_⟩)⟩, S145_, H170_⟩
  refine AllR.cons ?_ AllR.nil
  refine A_op (ls' := #[true, true, false, true, true, true, true, true, true, false, false, false]) rfl (by kernel_rfl) (T_s2b rfl Try.underlying9 Try.underlying122 Try.underlying5 H123_ ?_)
  intro b171_ cp172_ w173_ S175_ hc176_ H174_
  have S177_ := Same.trans S121_ S175_
  have H178_ := Holds.resl H174_ 0 rfl (byteCells_bytesV _ : byteCells p.end_ = bytesV (ints p.end_)) rfl
  have H179_ := Holds.resl H178_ 0 rfl (rfl : bytesV (ints p.end_) = bytesV (ints p.end_)) ((ints_length _).symm : p.end_.size = (List.length (ints p.end_)))
  refine ⟨⟨Holds.rd H179_ 2 rfl, (Holds.ro_at H179_ 3 rfl)⟩, ?_⟩
  refine A_ready (i := 2) (rs := []) (by kernel_rfl) ?_
  refine AllR.cons ?_ AllR.nil
  have H181_ := ((Holds.bring H179_ 3 rfl) :)
  refine A_op (ls' := #[true, true, true, true, true, true, true, true, true, false, false, false]) rfl (by kernel_rfl) (T_call (al := [(vI .i64 p.kind)]) (pre := []) rfl rfl cb68 (ckOrder R p.kind (by first | assumption | omega)) H181_ ?_)
  rintro v180_ p185_ w182_ ⟨rfl, rfl⟩ S184_ H183_
  have S186_ := Same.trans S177_ S184_
  refine ⟨⟨Holds.rd H183_ 3 rfl, (Holds.ro_at H183_ 0 rfl)⟩, ?_⟩
  have hq187_ := And.intro (Holds.rd H183_ 3 rfl) ((Holds.ro_at H183_ 0 rfl))
  refine A_tk 9 (v := (vA #[(vI .i32 p.kind), (vS (some ⟨b115_, 0, none⟩) p.key.size cp116_), (vS (some ⟨b171_, 0, none⟩) p.end_.size cp172_)])) rfl (by kernel_rfl) (fun w hS => by kernel_rfl) hq187_ ?_
  refine A_ready (i := 10) (rs := []) (by kernel_rfl) ?_
  refine AllR.cons ?_ AllR.nil
  refine A_op (ls' := #[true, true, true, true, true, true, true, true, true, true, true, false]) rfl (by kernel_rfl) (T_box (v := (vA #[(vI .i32 p.kind), (vS (some ⟨b115_, 0, none⟩) p.key.size cp116_), (vS (some ⟨b171_, 0, none⟩) p.end_.size cp172_)])) rfl H183_ ?_)
  intro b188_ w189_ S191_ H190_
  have S192_ := Same.trans S186_ S191_
  refine ⟨⟨Holds.rd H190_ 4 rfl, (Holds.ro_at H190_ 1 rfl)⟩, ?_⟩
  have hq193_ := And.intro (Holds.rd H190_ 4 rfl) ((Holds.ro_at H190_ 1 rfl))
  refine A_tk 11 (v := (vQ b188_)) rfl (by kernel_rfl) (fun w hS => x_assign rfl) hq193_ ?_
  refine A_done (by kernel_rfl) ?_
  refine (X_then (hK7_ _ _ ?_))
  clear hK7_
  refine C_ret ?_
  refine R_any (v := (vQ b188_)) (run_results1 rfl rfl) ?_
  have H194_ := ((Holds.bring (Holds.bring H190_ 3 rfl) 2 rfl) :)
  obtain ⟨R195_, hs196_, ⟨R197_, ha198_, hs199_⟩, H200_⟩ := Holds.gift H194_
  have hr201_ : RS R195_ 1 (vS (some ⟨b115_, 0, none⟩) p.key.size cp116_) (List.length (ints p.key)) (bytesV (ints p.key)) := (sl_RS ha198_ (Sub.rfl' _)).mono hs199_
  have H202_ := ((Holds.bring (Holds.bring H200_ 2 rfl) 1 rfl) :)
  obtain ⟨R203_, hs204_, ⟨R205_, ha206_, hs207_⟩, H208_⟩ := Holds.gift H202_
  have hz_R_R203_ := Sub.trans' hs196_ hs204_
  have hr209_ : RS R203_ 1 (vS (some ⟨b171_, 0, none⟩) p.end_.size cp172_) (List.length (ints p.end_)) (bytesV (ints p.end_)) := (sl_RS ha206_ (Sub.rfl' _)).mono hs207_
  obtain ⟨R210_, hs211_, ⟨R212_, ha213_, hs214_⟩, H215_⟩ := Holds.gift H208_
  have hz_R_R210_ := Sub.trans' hz_R_R203_ hs211_
  have hz_R195__R210_ := Sub.trans' hs204_ hs211_
  have hr216_ : RC R210_ b188_ 0 [(vI .i32 p.kind), (vS (some ⟨b115_, 0, none⟩) p.key.size cp116_), (vS (some ⟨b171_, 0, none⟩) p.end_.size cp172_)] := (cl_RC ha213_ (Sub.rfl' _)).mono hs214_
  have H217_ : Holds w189_ (ro R210_ :: F) := (Holds.pkF H215_ [0] 1 :)
  exact ⟨R210_, _, _, rfl, hz_R_R210_, ⟨b188_, rfl, rfl, (⟨_, _, (RS.mono hr201_ hz_R195__R210_), (RS.mono hr209_ hs211_), hr216_⟩)⟩, S192_, H217_⟩
 refine AllR.cons ?_ AllR.nil
 refine A_op (ls' := #[true, true, false, true, true, false, true, true, true, false, false, false]) rfl (by kernel_rfl) (T_s2b rfl Try.underlying9 Try.underlying122 Try.underlying5 H8_ ?_)
 intro b218_ cp219_ w220_ S222_ hc223_ H221_
 have S224_ := Same.trans (Same.trans S6_ (Same.drew _)) S222_
 have H225_ := Holds.resl H221_ 0 rfl (byteCells_bytesV _ : byteCells p.end_ = bytesV (ints p.end_)) rfl
 have H226_ := Holds.resl H225_ 0 rfl (rfl : bytesV (ints p.end_) = bytesV (ints p.end_)) ((ints_length _).symm : p.end_.size = (List.length (ints p.end_)))
 refine ⟨⟨Holds.rd H226_ 1 rfl, (Holds.ro_at H226_ 2 rfl)⟩, ?_⟩
 refine A_ready (i := 2) (rs := [5]) (by kernel_rfl) ?_
 refine AllR.cons ?_ ?_
 ·skip
  have H228_ := ((Holds.bring H226_ 2 rfl) :)
  refine A_op (ls' := #[true, true, true, true, true, false, true, true, true, false, false, false]) rfl (by kernel_rfl) (T_call (al := [(vI .i64 p.kind)]) (pre := []) rfl rfl cb68 (ckOrder R p.kind (by first | assumption | omega)) H228_ ?_)
  rintro v227_ p232_ w229_ ⟨rfl, rfl⟩ S231_ H230_
  have S233_ := Same.trans S224_ S231_
  refine ⟨⟨Holds.rd H230_ 2 rfl, (Holds.ro_at H230_ 0 rfl)⟩, ?_⟩
  refine A_ready (i := 5) (rs := []) (by kernel_rfl) ?_
  refine AllR.cons ?_ AllR.nil
  refine A_op (ls' := #[true, true, true, true, true, true, true, true, true, false, false, false]) rfl (by kernel_rfl) (T_s2b rfl Try.underlying9 Try.underlying122 Try.underlying5 H230_ ?_)
  intro b234_ cp235_ w236_ S238_ hc239_ H237_
  have S240_ := Same.trans S233_ S238_
  have H241_ := Holds.resl H237_ 0 rfl (byteCells_bytesV _ : byteCells p.key = bytesV (ints p.key)) rfl
  have H242_ := Holds.resl H241_ 0 rfl (rfl : bytesV (ints p.key) = bytesV (ints p.key)) ((ints_length _).symm : p.key.size = (List.length (ints p.key)))
  refine ⟨⟨Holds.rd H242_ 3 rfl, (Holds.ro_at H242_ 1 rfl)⟩, ?_⟩
  have hq243_ := And.intro (Holds.rd H242_ 3 rfl) ((Holds.ro_at H242_ 1 rfl))
  refine A_tk 9 (v := (vA #[(vI .i32 p.kind), (vS (some ⟨b234_, 0, none⟩) p.key.size cp235_), (vS (some ⟨b218_, 0, none⟩) p.end_.size cp219_)])) rfl (by kernel_rfl) (fun w hS => by kernel_rfl) hq243_ ?_
  refine A_ready (i := 10) (rs := []) (by kernel_rfl) ?_
  refine AllR.cons ?_ AllR.nil
  refine A_op (ls' := #[true, true, true, true, true, true, true, true, true, true, true, false]) rfl (by kernel_rfl) (T_box (v := (vA #[(vI .i32 p.kind), (vS (some ⟨b234_, 0, none⟩) p.key.size cp235_), (vS (some ⟨b218_, 0, none⟩) p.end_.size cp219_)])) rfl H242_ ?_)
  intro b244_ w245_ S247_ H246_
  have S248_ := Same.trans S240_ S247_
  refine ⟨⟨Holds.rd H246_ 4 rfl, (Holds.ro_at H246_ 2 rfl)⟩, ?_⟩
  have hq249_ := And.intro (Holds.rd H246_ 4 rfl) ((Holds.ro_at H246_ 2 rfl))
  refine A_tk 11 (v := (vQ b244_)) rfl (by kernel_rfl) (fun w hS => x_assign rfl) hq249_ ?_
  refine A_done (by kernel_rfl) ?_
  refine (X_then (hK7_ _ _ ?_))
  clear hK7_
  refine C_ret ?_
  refine R_any (v := (vQ b244_)) (run_results1 rfl rfl) ?_
  have H250_ := ((Holds.bring (Holds.bring H246_ 1 rfl) 2 rfl) :)
  obtain ⟨R251_, hs252_, ⟨R253_, ha254_, hs255_⟩, H256_⟩ := Holds.gift H250_
  have hr257_ : RS R251_ 1 (vS (some ⟨b234_, 0, none⟩) p.key.size cp235_) (List.length (ints p.key)) (bytesV (ints p.key)) := (sl_RS ha254_ (Sub.rfl' _)).mono hs255_
  have H258_ := ((Holds.bring (Holds.bring H256_ 2 rfl) 1 rfl) :)
  obtain ⟨R259_, hs260_, ⟨R261_, ha262_, hs263_⟩, H264_⟩ := Holds.gift H258_
  have hz_R_R259_ := Sub.trans' hs252_ hs260_
  have hr265_ : RS R259_ 1 (vS (some ⟨b218_, 0, none⟩) p.end_.size cp219_) (List.length (ints p.end_)) (bytesV (ints p.end_)) := (sl_RS ha262_ (Sub.rfl' _)).mono hs263_
  obtain ⟨R266_, hs267_, ⟨R268_, ha269_, hs270_⟩, H271_⟩ := Holds.gift H264_
  have hz_R_R266_ := Sub.trans' hz_R_R259_ hs267_
  have hz_R251__R266_ := Sub.trans' hs260_ hs267_
  have hr272_ : RC R266_ b244_ 0 [(vI .i32 p.kind), (vS (some ⟨b234_, 0, none⟩) p.key.size cp235_), (vS (some ⟨b218_, 0, none⟩) p.end_.size cp219_)] := (cl_RC ha269_ (Sub.rfl' _)).mono hs270_
  have H273_ : Holds w245_ (ro R266_ :: F) := (Holds.pkF H271_ [0] 1 :)
  exact ⟨R266_, _, _, rfl, hz_R_R266_, ⟨b244_, rfl, rfl, (⟨_, _, (RS.mono hr257_ hz_R251__R266_), (RS.mono hr265_ hs267_), hr272_⟩)⟩, S248_, H273_⟩
 refine AllR.cons ?_ AllR.nil
 refine A_op (ls' := #[true, true, false, true, true, true, true, true, true, false, false, false]) rfl (by kernel_rfl) (T_s2b rfl Try.underlying9 Try.underlying122 Try.underlying5 H226_ ?_)
 intro b274_ cp275_ w276_ S278_ hc279_ H277_
 have S280_ := Same.trans S224_ S278_
 have H281_ := Holds.resl H277_ 0 rfl (byteCells_bytesV _ : byteCells p.key = bytesV (ints p.key)) rfl
 have H282_ := Holds.resl H281_ 0 rfl (rfl : bytesV (ints p.key) = bytesV (ints p.key)) ((ints_length _).symm : p.key.size = (List.length (ints p.key)))
 refine ⟨⟨Holds.rd H282_ 2 rfl, (Holds.ro_at H282_ 3 rfl)⟩, ?_⟩
 refine A_ready (i := 2) (rs := []) (by kernel_rfl) ?_
 refine AllR.cons ?_ AllR.nil
 have H284_ := ((Holds.bring H282_ 3 rfl) :)
 refine A_op (ls' := #[true, true, true, true, true, true, true, true, true, false, false, false]) rfl (by kernel_rfl) (T_call (al := [(vI .i64 p.kind)]) (pre := []) rfl rfl cb68 (ckOrder R p.kind (by first | assumption | omega)) H284_ ?_)
 rintro v283_ p288_ w285_ ⟨rfl, rfl⟩ S287_ H286_
 have S289_ := Same.trans S280_ S287_
 refine ⟨⟨Holds.rd H286_ 3 rfl, (Holds.ro_at H286_ 0 rfl)⟩, ?_⟩
 have hq290_ := And.intro (Holds.rd H286_ 3 rfl) ((Holds.ro_at H286_ 0 rfl))
 refine A_tk 9 (v := (vA #[(vI .i32 p.kind), (vS (some ⟨b274_, 0, none⟩) p.key.size cp275_), (vS (some ⟨b218_, 0, none⟩) p.end_.size cp219_)])) rfl (by kernel_rfl) (fun w hS => by kernel_rfl) hq290_ ?_
 refine A_ready (i := 10) (rs := []) (by kernel_rfl) ?_
 refine AllR.cons ?_ AllR.nil
 refine A_op (ls' := #[true, true, true, true, true, true, true, true, true, true, true, false]) rfl (by kernel_rfl) (T_box (v := (vA #[(vI .i32 p.kind), (vS (some ⟨b274_, 0, none⟩) p.key.size cp275_), (vS (some ⟨b218_, 0, none⟩) p.end_.size cp219_)])) rfl H286_ ?_)
 intro b291_ w292_ S294_ H293_
 have S295_ := Same.trans S289_ S294_
 refine ⟨⟨Holds.rd H293_ 4 rfl, (Holds.ro_at H293_ 1 rfl)⟩, ?_⟩
 have hq296_ := And.intro (Holds.rd H293_ 4 rfl) ((Holds.ro_at H293_ 1 rfl))
 refine A_tk 11 (v := (vQ b291_)) rfl (by kernel_rfl) (fun w hS => x_assign rfl) hq296_ ?_
 refine A_done (by kernel_rfl) ?_
 refine (X_then (hK7_ _ _ ?_))
 clear hK7_
 refine C_ret ?_
 refine R_any (v := (vQ b291_)) (run_results1 rfl rfl) ?_
 have H297_ := ((Holds.bring (Holds.bring H293_ 2 rfl) 2 rfl) :)
 obtain ⟨R298_, hs299_, ⟨R300_, ha301_, hs302_⟩, H303_⟩ := Holds.gift H297_
 have hr304_ : RS R298_ 1 (vS (some ⟨b274_, 0, none⟩) p.key.size cp275_) (List.length (ints p.key)) (bytesV (ints p.key)) := (sl_RS ha301_ (Sub.rfl' _)).mono hs302_
 have H305_ := ((Holds.bring (Holds.bring H303_ 2 rfl) 1 rfl) :)
 obtain ⟨R306_, hs307_, ⟨R308_, ha309_, hs310_⟩, H311_⟩ := Holds.gift H305_
 have hz_R_R306_ := Sub.trans' hs299_ hs307_
 have hr312_ : RS R306_ 1 (vS (some ⟨b218_, 0, none⟩) p.end_.size cp219_) (List.length (ints p.end_)) (bytesV (ints p.end_)) := (sl_RS ha309_ (Sub.rfl' _)).mono hs310_
 obtain ⟨R313_, hs314_, ⟨R315_, ha316_, hs317_⟩, H318_⟩ := Holds.gift H311_
 have hz_R_R313_ := Sub.trans' hz_R_R306_ hs314_
 have hz_R298__R313_ := Sub.trans' hs307_ hs314_
 have hr319_ : RC R313_ b291_ 0 [(vI .i32 p.kind), (vS (some ⟨b274_, 0, none⟩) p.key.size cp275_), (vS (some ⟨b218_, 0, none⟩) p.end_.size cp219_)] := (cl_RC ha316_ (Sub.rfl' _)).mono hs317_
 have H320_ : Holds w292_ (ro R313_ :: F) := (Holds.pkF H318_ [0] 1 :)
 exact ⟨R313_, _, _, rfl, hz_R_R313_, ⟨b291_, rfl, rfl, (⟨_, _, (RS.mono hr304_ hz_R298__R313_), (RS.mono hr312_ hs314_), hr319_⟩)⟩, S295_, H320_⟩
end Go.Proofs.Ytlnihndjepjagaa
