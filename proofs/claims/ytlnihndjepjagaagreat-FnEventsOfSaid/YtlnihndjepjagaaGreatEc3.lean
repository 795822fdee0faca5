/- Words, and proved steps, on which the proof leans. -/
import Derived.Test.YtlnihndjepjagaaGreatEc2
set_option linter.unusedVariables false
set_option linter.unusedSimpArgs false
namespace Go.Proofs.YtlnihndjepjagaaGreat
open Go Go.RowKit Gw Tryz
open Go.Value renaming int → vI, bool → vB, slice → vS, pointer → vP, agg → vA, tuple → vT

set_option maxHeartbeats 16000000 in
theorem itFix (R : HP) (K : Type) (O : KO K) (tb sb : Nat) (cnt : Int) (sc : List Value) (z0 : ND K) (zl0 zr0 : Tr K) (C : List (Fr K)) (L : List (ND K)) (hI : FxI O R L C (.nd z0 zl0 zr0)) :
    Tri Tryz.prog 169 #[(vQ tb), (vQ z0.a)] R [cl tb 185 [(vQ (ra z0.a C)), (vI .i64 cnt), (vQ sb)], tr sb (pa sb C) (Tr.nd z0 zl0 zr0), cx sb z0.a C, clf sb 182 sc] (fun v__ post__ => ∃ (W : Tr K), v__ = (vT #[]) ∧ post__ = [cl tb 185 [(vQ (rt sb W)), (vI .i64 cnt), (vQ sb)], tr sb sb W, clf sb 182 sc] ∧ (TOk O R W ∧ LocT O W ∧ ino W = L ∧ blackT W)) := by
 refine Tri.into (n := 201) (al := [(vQ tb), (vQ z0.a)]) func169 rfl ntmps169 rfl rfl fun w F H => ?_
 refine C_cut (fun a__ w1__ => ∃ W : Tr K, ∃ h : Env, a__ = mkA 201 (upd h 0 (vQ tb)) [] ∧ Holds w1__ (ro R :: cl tb 185 [(vQ (rt sb W)), (vI .i64 cnt), (vQ sb)] :: tr sb sb W :: clf sb 182 sc :: F) ∧ Same w w1__ ∧ (FxI O R L [] W) ∧ (∃ n a b, W = Tr.nd n a b)) ?_ ?_
 ·refine C_block ?_
  refine C_loop (γ := (ND K) × (Tr K) × (Tr K) × (List (Fr K))) (fun x__ a__ w1__ => match x__ with | ⟨z, zl, zr, C1⟩ => ∃ h : Env, a__ = mkA 201 (upd (upd h 0 (vQ tb)) 1 (vQ z.a)) [] ∧ Holds w1__ (ro R :: cl tb 185 [(vQ (ra z.a C1)), (vI .i64 cnt), (vQ sb)] :: tr sb (pa sb C1) (Tr.nd z zl zr) :: cx sb z.a C1 :: clf sb 182 sc :: F) ∧ Same w w1__ ∧ (FxI O R L C1 (.nd z zl zr))) (fun x__ => match x__ with | ⟨z, zl, zr, C1⟩ => C1.length) (⟨z0, zl0, zr0, C⟩) ⟨_, congrArg (fun e => mkA 201 e []) (ch (ch rfl rfl) rfl), H, (Same.refl w), (hI)⟩ ?_
  rintro ⟨z, zl, zr, C1⟩ _ w4_ ⟨h, rfl, H5_, S6_, hI1⟩
  refine C_seq (fun _ hK7_ => ?_)
  refine C_seq (fun _ hK8_ => ?_)
  rcases C1 with _ | ⟨⟨_ | _, f9_p, f9_s⟩, _ | ⟨⟨_ | _, f9_g, _ | ⟨f9_u, f9_ul, f9_ur⟩⟩, f9_C⟩⟩
  ·skip
   have H10_ := H5_
   have H11_ := ((Holds.bring H10_ 2 rfl) :)
   have H12_ := Holds.tr_nd H11_
   refine A_start (S := fun w => (Rd z.a [z.b, z.e, z.v, z.mx, (vQ (rt sb zl)), (vQ (rt sb zr)), (vQ sb), (vI .i64 z.c)] w ∧ Blk w z.a) ∧ RtRd w (rt sb zl) (rmx zl) ∧ RtRd w (rt sb zr) (rmx zr) ∧ Rd tb [(vQ z.a), (vI .i64 cnt), (vQ sb)] w ∧ Sub R (hp w)) (N := 10) foll rfl rfl ?_
   have H13_ := Holds.drew_ H12_
   have hq14_ := And.intro ((And.intro (Holds.rdf H13_ 0 rfl) (Holds.blk H13_ 0 rfl))) (And.intro (Holds.tr_rd H13_ 1 rfl 6 rfl) (And.intro (Holds.tr_rd H13_ 2 rfl 6 rfl) (And.intro (Holds.rd H13_ 4 rfl) ((Holds.ro_at H13_ 3 rfl)))))
   refine A_tk 0 (v := (vQ z.a)) rfl (by kernel_rfl) (fun w hS => x_move rfl) hq14_ ?_
   refine A_tk 1 (v := (vQ z.a)) rfl (by kernel_rfl) (fun w hS => by kernel_rfl) hq14_ ?_
   refine A_tk 2 (v := (vP (some ⟨z.a, 6, none⟩))) rfl (by kernel_rfl) (fun w hS => by kernel_rfl) hq14_ ?_
   refine A_tk 3 (v := (vQ sb)) rfl (by kernel_rfl) (fun w hS => x_load1 rfl underlying173 rfl (hS.1.1 6 (vQ sb) rfl)) hq14_ ?_
   refine A_tk 4 (v := (vQ tb)) rfl (by kernel_rfl) (fun w hS => x_move rfl) hq14_ ?_
   refine A_tk 5 (v := (vQ tb)) rfl (by kernel_rfl) (fun w hS => by kernel_rfl) hq14_ ?_
   refine A_tk 6 (v := (vP (some ⟨tb, 2, none⟩))) rfl (by kernel_rfl) (fun w hS => by kernel_rfl) hq14_ ?_
   refine A_tk 7 (v := (vQ sb)) rfl (by kernel_rfl) (fun w hS => x_load1 rfl underlying173 rfl (hS.2.2.2.1 2 (vQ sb) rfl)) hq14_ ?_
   refine A_ready (i := 8) (rs := []) (by kernel_rfl) ?_
   refine AllR.cons ?_ AllR.nil
   refine A_op (ls' := #[true, true, true, true, true, true, true, true, true, false]) rfl (by kernel_rfl) (T_callW (al := [(vQ sb), (vQ sb)]) rfl rfl cb166 (Calls.into (n := 12) func166 rfl ntmps166 rfl rfl ?_))
   refine cR fun _ hK15_ => ?_
   refine sv (v := (vI .i64 0)) (x_assign rfl) ?_
   refine wn (hK15_ _ _ ?_)
   refine C_seq (fun _ hK16_ => ?_)
   refine cR fun _ hK17_ => ?_
   refine sm (vQ sb) ?_
   refine sm (vQ sb) ?_
   refine sv (v := (vB true)) (x_eqP rfl rfl underlying173 z182) ?_
   refine wn (hK17_ _ _ ?_)
   refine C_condT rfl ?_
   refine cR fun _ hK18_ => ?_
   refine sv (v := (vI .i64 0)) (x_assign rfl) ?_
   refine wn (hK18_ _ _ ?_)
   refine C_ret (X_thenR ?_)
   refine R_any (v := (vI .i64 0)) (run_results1 rfl rfl) ⟨_, rfl, ?_⟩
   refine ⟨⟨(And.intro (Holds.rdf H13_ 0 rfl) (Holds.blk H13_ 0 rfl)), Holds.tr_rd H13_ 1 rfl 6 rfl, Holds.tr_rd H13_ 2 rfl 6 rfl, Holds.rd H13_ 4 rfl, (Holds.ro_at H13_ 3 rfl)⟩, ?_⟩
   refine A_tk 9 (v := (vB false)) rfl (by kernel_rfl) (fun w hS => x_bin rfl rfl rfl) hq14_ ?_
   refine A_done (by kernel_rfl) ?_
   refine (X_then (hK8_ _ _ ?_))
   refine C_condF rfl ?_
   refine C_exit (X_thenX (X_thenX (X_blkHit ?_)))
   refine (X_then ?_)
   have H19_ := Holds.nd_tr (n := z) (a := zl) (b := zr) H13_
   have H20_ := H19_
   have H21_ := ((Holds.bring (Holds.bring H20_ 3 rfl) 1 rfl) :)
   have H22_ := Holds.plug_in (C := ([] : List (Fr K))) (t := (Tr.nd z zl zr)) H21_
   have H23_ : Holds w4_.drew (tr sb sb (plug ([] : List (Fr K)) (Tr.nd z zl zr)) :: ro R :: cl tb 185 [(vQ ((ra z.a ([] : List (Fr K))))), (vI .i64 cnt), (vQ sb)] :: clf sb 182 sc :: F) := (H22_)
   rw [show ra z.a ([] : List (Fr K)) = rt sb (plug ([] : List (Fr K)) (Tr.nd z zl zr)) from (rt_plug sb ([] : List (Fr K)) z zl zr).symm] at H23_
   have H24_ := H23_
   have H25_ := Holds.pkF H24_ [1, 1, 0, 0] 0
   exact ⟨(plug ([] : List (Fr K)) (Tr.nd z zl zr)), _, congrArg (fun e => mkA 201 e []) (ch rfl rfl), H25_, (Same.trans S6_ (Same.drew _)), (FxI.plug hI1), (plug_nd _ _ _ _)⟩
  ·skip
   have H26_ := H5_
   have H27_ := ((Holds.bring H26_ 2 rfl) :)
   have H28_ := Holds.tr_nd H27_
   have H29_ := ((Holds.bring H28_ 5 rfl) :)
   have H30_ := Holds.cx_cons H29_
   have htop_ : f9_p.c = 0 := hI1.top.1 rfl
   refine A_start (S := fun w => (Rd f9_p.a [f9_p.b, f9_p.e, f9_p.v, f9_p.mx, (vQ (rt sb f9_s)), (vQ z.a), (vQ sb), (vI .i64 f9_p.c)] w ∧ Blk w f9_p.a) ∧ RtRd w (rt sb f9_s) (rmx f9_s) ∧ (Rd z.a [z.b, z.e, z.v, z.mx, (vQ (rt sb zl)), (vQ (rt sb zr)), (vQ f9_p.a), (vI .i64 z.c)] w ∧ Blk w z.a) ∧ RtRd w (rt sb zl) (rmx zl) ∧ RtRd w (rt sb zr) (rmx zr) ∧ Rd tb [(vQ f9_p.a), (vI .i64 cnt), (vQ sb)] w ∧ Sub R (hp w)) (N := 10) foll rfl rfl ?_
   have H31_ := Holds.drew_ H30_
   have hq32_ := And.intro ((And.intro (Holds.rdf H31_ 0 rfl) (Holds.blk H31_ 0 rfl))) (And.intro (Holds.tr_rd H31_ 1 rfl 8 rfl) (And.intro ((And.intro (Holds.rdf H31_ 3 rfl) (Holds.blk H31_ 3 rfl))) (And.intro (Holds.tr_rd H31_ 4 rfl 8 rfl) (And.intro (Holds.tr_rd H31_ 5 rfl 8 rfl) (And.intro (Holds.rd H31_ 7 rfl) ((Holds.ro_at H31_ 6 rfl)))))))
   refine A_tk 0 (v := (vQ z.a)) rfl (by kernel_rfl) (fun w hS => x_move rfl) hq32_ ?_
   refine A_tk 1 (v := (vQ z.a)) rfl (by kernel_rfl) (fun w hS => by kernel_rfl) hq32_ ?_
   refine A_tk 2 (v := (vP (some ⟨z.a, 6, none⟩))) rfl (by kernel_rfl) (fun w hS => by kernel_rfl) hq32_ ?_
   refine A_tk 3 (v := (vQ f9_p.a)) rfl (by kernel_rfl) (fun w hS => x_load1 rfl underlying173 rfl (hS.2.2.1.1 6 (vQ f9_p.a) rfl)) hq32_ ?_
   refine A_tk 4 (v := (vQ tb)) rfl (by kernel_rfl) (fun w hS => x_move rfl) hq32_ ?_
   refine A_tk 5 (v := (vQ tb)) rfl (by kernel_rfl) (fun w hS => by kernel_rfl) hq32_ ?_
   refine A_tk 6 (v := (vP (some ⟨tb, 2, none⟩))) rfl (by kernel_rfl) (fun w hS => by kernel_rfl) hq32_ ?_
   refine A_tk 7 (v := (vQ sb)) rfl (by kernel_rfl) (fun w hS => x_load1 rfl underlying173 rfl (hS.2.2.2.2.2.1 2 (vQ sb) rfl)) hq32_ ?_
   refine A_ready (i := 8) (rs := []) (by kernel_rfl) ?_
   refine AllR.cons ?_ AllR.nil
   refine A_op (ls' := #[true, true, true, true, true, true, true, true, true, false]) rfl (by kernel_rfl) (T_callW (al := [(vQ f9_p.a), (vQ sb)]) rfl rfl cb166 (Calls.into (n := 12) func166 rfl ntmps166 rfl rfl ?_))
   refine cR fun _ hK33_ => ?_
   refine sv (v := (vI .i64 0)) (x_assign rfl) ?_
   refine wn (hK33_ _ _ ?_)
   refine C_seq (fun _ hK34_ => ?_)
   refine cR fun _ hK35_ => ?_
   refine sm (vQ f9_p.a) ?_
   refine sm (vQ sb) ?_
   have hpc36_ : f9_p.a ≠ sb := Holds.ne_f H31_ 0 rfl 8 rfl (by decide)
   refine sv (v := (vB false)) (x_cast (x_eqPN rfl rfl underlying173 z182 (by decide) (Holds.blk H31_ 0 rfl) (Holds.blk H31_ 8 rfl)) (congrArg vB (decide_eq_false hpc36_))) ?_
   refine wn (hK35_ _ _ ?_)
   refine C_condF rfl ?_
   refine C_skip (X_then (hK34_ _ _ ?_))
   refine cR fun _ hK37_ => ?_
   refine sm (vQ f9_p.a) ?_
   refine sv (v := (vQ f9_p.a)) (by kernel_rfl) ?_
   refine sv (v := (vP (some ⟨f9_p.a, 7, none⟩))) (by kernel_rfl) ?_
   refine sv (v := (vI .i64 f9_p.c)) (x_load1 rfl underlying180 rfl ((Holds.rdf H31_ 0 rfl) 7 (vI .i64 f9_p.c) rfl)) ?_
   refine sv (v := (vI .i64 f9_p.c)) (x_assign rfl) ?_
   refine wn (hK37_ _ _ ?_)
   refine C_ret ?_
   refine R_any (v := (vI .i64 f9_p.c)) (run_results1 rfl rfl) ⟨_, rfl, ?_⟩
   refine ⟨⟨(And.intro (Holds.rdf H31_ 0 rfl) (Holds.blk H31_ 0 rfl)), Holds.tr_rd H31_ 1 rfl 8 rfl, (And.intro (Holds.rdf H31_ 3 rfl) (Holds.blk H31_ 3 rfl)), Holds.tr_rd H31_ 4 rfl 8 rfl, Holds.tr_rd H31_ 5 rfl 8 rfl, Holds.rd H31_ 7 rfl, (Holds.ro_at H31_ 6 rfl)⟩, ?_⟩
   refine A_tk 9 (v := (vB (decide (f9_p.c = 1)))) rfl (by kernel_rfl) (fun w hS => x_bin rfl rfl rfl) hq32_ ?_
   refine A_done (by kernel_rfl) ?_
   refine (X_then (hK8_ _ _ ?_))
   refine C_cond (b := decide (f9_p.c = 1)) rfl (fun c38_t => ?_) (fun c38_f => ?_)
   ·have c38_tp : f9_p.c = 1 := of_decide_eq_true c38_t
    omega
   ·have c38_fp : ¬ (f9_p.c = 1) := of_decide_eq_false c38_f
    refine C_exit (X_thenX (X_thenX (X_blkHit ?_)))
    refine (X_then ?_)
    have H39_ := ((Holds.bring (Holds.bring (Holds.bring H31_ 5 rfl) 5 rfl) 5 rfl) :)
    have H40_ := Holds.nd_tr (n := z) (a := zl) (b := zr) H39_
    have H41_ := ((Holds.bring (Holds.bring (Holds.bring H40_ 3 rfl) 3 rfl) 3 rfl) :)
    have H42_ := Holds.cons_cx (sb := sb) (f := (⟨false, f9_p, f9_s⟩ : Fr K)) (C := ([] : List (Fr K))) (x := z.a) H41_
    have H43_ := H42_
    have H44_ := ((Holds.bring H43_ 1 rfl) :)
    have H45_ := Holds.plug_in (C := ((⟨false, f9_p, f9_s⟩ : Fr K) :: ([] : List (Fr K)))) (t := (Tr.nd z zl zr)) H44_
    have H46_ : Holds w4_.drew (tr sb sb (plug ((⟨false, f9_p, f9_s⟩ : Fr K) :: ([] : List (Fr K))) (Tr.nd z zl zr)) :: ro R :: cl tb 185 [(vP (some ⟨(ra z.a ((⟨false, f9_p, f9_s⟩ : Fr K) :: ([] : List (Fr K)))), 0, none⟩)), (vI .i64 cnt), (vQ sb)] :: clf sb 182 sc :: F) := (H45_)
    rw [show ra z.a ((⟨false, f9_p, f9_s⟩ : Fr K) :: ([] : List (Fr K))) = rt sb (plug ((⟨false, f9_p, f9_s⟩ : Fr K) :: ([] : List (Fr K))) (Tr.nd z zl zr)) from (rt_plug sb ((⟨false, f9_p, f9_s⟩ : Fr K) :: ([] : List (Fr K))) z zl zr).symm] at H46_
    have H47_ := H46_
    have H48_ := Holds.pkF H47_ [1, 1, 0, 0] 0
    exact ⟨(plug ((⟨false, f9_p, f9_s⟩ : Fr K) :: ([] : List (Fr K))) (Tr.nd z zl zr)), _, congrArg (fun e => mkA 201 e []) (ch rfl rfl), H48_, (Same.trans S6_ (Same.drew _)), (FxI.plug hI1), (plug_nd _ _ _ _)⟩
  ·skip
   have H49_ := H5_
   have H50_ := ((Holds.bring H49_ 2 rfl) :)
   have H51_ := Holds.tr_nd H50_
   have H52_ := ((Holds.bring H51_ 5 rfl) :)
   have H53_ := Holds.cx_cons H52_
   have H54_ := ((Holds.bring H53_ 2 rfl) :)
   have H55_ := Holds.cx_cons H54_
   refine A_start (S := fun w => (Rd f9_g.a [f9_g.b, f9_g.e, f9_g.v, f9_g.mx, (vQ sb), (vQ f9_p.a), (vQ (pa sb f9_C)), (vI .i64 f9_g.c)] w ∧ Blk w f9_g.a) ∧ RtRd w (rt sb (Tr.lf : Tr K)) (rmx (Tr.lf : Tr K)) ∧ (Rd f9_p.a [f9_p.b, f9_p.e, f9_p.v, f9_p.mx, (vQ (rt sb f9_s)), (vQ z.a), (vQ f9_g.a), (vI .i64 f9_p.c)] w ∧ Blk w f9_p.a) ∧ RtRd w (rt sb f9_s) (rmx f9_s) ∧ (Rd z.a [z.b, z.e, z.v, z.mx, (vQ (rt sb zl)), (vQ (rt sb zr)), (vQ f9_p.a), (vI .i64 z.c)] w ∧ Blk w z.a) ∧ RtRd w (rt sb zl) (rmx zl) ∧ RtRd w (rt sb zr) (rmx zr) ∧ Rd tb [(vQ (ra f9_g.a f9_C)), (vI .i64 cnt), (vQ sb)] w ∧ Sub R (hp w)) (N := 10) foll rfl rfl ?_
   have H56_ := Holds.drew_ H55_
   have hq57_ := And.intro ((And.intro (Holds.rdf H56_ 0 rfl) (Holds.blk H56_ 0 rfl))) (And.intro (Holds.tr_rd H56_ 1 rfl 10 rfl) (And.intro ((And.intro (Holds.rdf H56_ 3 rfl) (Holds.blk H56_ 3 rfl))) (And.intro (Holds.tr_rd H56_ 4 rfl 10 rfl) (And.intro ((And.intro (Holds.rdf H56_ 5 rfl) (Holds.blk H56_ 5 rfl))) (And.intro (Holds.tr_rd H56_ 6 rfl 10 rfl) (And.intro (Holds.tr_rd H56_ 7 rfl 10 rfl) (And.intro (Holds.rd H56_ 9 rfl) ((Holds.ro_at H56_ 8 rfl)))))))))
   refine A_tk 0 (v := (vQ z.a)) rfl (by kernel_rfl) (fun w hS => x_move rfl) hq57_ ?_
   refine A_tk 1 (v := (vQ z.a)) rfl (by kernel_rfl) (fun w hS => by kernel_rfl) hq57_ ?_
   refine A_tk 2 (v := (vP (some ⟨z.a, 6, none⟩))) rfl (by kernel_rfl) (fun w hS => by kernel_rfl) hq57_ ?_
   refine A_tk 3 (v := (vQ f9_p.a)) rfl (by kernel_rfl) (fun w hS => x_load1 rfl underlying173 rfl (hS.2.2.2.2.1.1 6 (vQ f9_p.a) rfl)) hq57_ ?_
   refine A_tk 4 (v := (vQ tb)) rfl (by kernel_rfl) (fun w hS => x_move rfl) hq57_ ?_
   refine A_tk 5 (v := (vQ tb)) rfl (by kernel_rfl) (fun w hS => by kernel_rfl) hq57_ ?_
   refine A_tk 6 (v := (vP (some ⟨tb, 2, none⟩))) rfl (by kernel_rfl) (fun w hS => by kernel_rfl) hq57_ ?_
   refine A_tk 7 (v := (vQ sb)) rfl (by kernel_rfl) (fun w hS => x_load1 rfl underlying173 rfl (hS.2.2.2.2.2.2.2.1 2 (vQ sb) rfl)) hq57_ ?_
   refine A_ready (i := 8) (rs := []) (by kernel_rfl) ?_
   refine AllR.cons ?_ AllR.nil
   refine A_op (ls' := #[true, true, true, true, true, true, true, true, true, false]) rfl (by kernel_rfl) (T_callW (al := [(vQ f9_p.a), (vQ sb)]) rfl rfl cb166 (Calls.into (n := 12) func166 rfl ntmps166 rfl rfl ?_))
   refine cR fun _ hK58_ => ?_
   refine sv (v := (vI .i64 0)) (x_assign rfl) ?_
   refine wn (hK58_ _ _ ?_)
   refine C_seq (fun _ hK59_ => ?_)
   refine cR fun _ hK60_ => ?_
   refine sm (vQ f9_p.a) ?_
   refine sm (vQ sb) ?_
   have hpc61_ : f9_p.a ≠ sb := Holds.ne_f H56_ 3 rfl 10 rfl (by decide)
   refine sv (v := (vB false)) (x_cast (x_eqPN rfl rfl underlying173 z182 (by decide) (Holds.blk H56_ 3 rfl) (Holds.blk H56_ 10 rfl)) (congrArg vB (decide_eq_false hpc61_))) ?_
   refine wn (hK60_ _ _ ?_)
   refine C_condF rfl ?_
   refine C_skip (X_then (hK59_ _ _ ?_))
   refine cR fun _ hK62_ => ?_
   refine sm (vQ f9_p.a) ?_
   refine sv (v := (vQ f9_p.a)) (by kernel_rfl) ?_
   refine sv (v := (vP (some ⟨f9_p.a, 7, none⟩))) (by kernel_rfl) ?_
   refine sv (v := (vI .i64 f9_p.c)) (x_load1 rfl underlying180 rfl ((Holds.rdf H56_ 3 rfl) 7 (vI .i64 f9_p.c) rfl)) ?_
   refine sv (v := (vI .i64 f9_p.c)) (x_assign rfl) ?_
   refine wn (hK62_ _ _ ?_)
   refine C_ret ?_
   refine R_any (v := (vI .i64 f9_p.c)) (run_results1 rfl rfl) ⟨_, rfl, ?_⟩
   refine ⟨⟨(And.intro (Holds.rdf H56_ 0 rfl) (Holds.blk H56_ 0 rfl)), Holds.tr_rd H56_ 1 rfl 10 rfl, (And.intro (Holds.rdf H56_ 3 rfl) (Holds.blk H56_ 3 rfl)), Holds.tr_rd H56_ 4 rfl 10 rfl, (And.intro (Holds.rdf H56_ 5 rfl) (Holds.blk H56_ 5 rfl)), Holds.tr_rd H56_ 6 rfl 10 rfl, Holds.tr_rd H56_ 7 rfl 10 rfl, Holds.rd H56_ 9 rfl, (Holds.ro_at H56_ 8 rfl)⟩, ?_⟩
   refine A_tk 9 (v := (vB (decide (f9_p.c = 1)))) rfl (by kernel_rfl) (fun w hS => x_bin rfl rfl rfl) hq57_ ?_
   refine A_done (by kernel_rfl) ?_
   refine (X_then (hK8_ _ _ ?_))
   refine C_cond (b := decide (f9_p.c = 1)) rfl (fun c63_t => ?_) (fun c63_f => ?_)
   ·have c63_tp : f9_p.c = 1 := of_decide_eq_true c63_t
    refine C_skip (X_then (hK7_ _ _ ?_))
    refine C_block ?_
    refine C_seq (fun _ hK64_ => ?_)
    refine A_start (S := fun w => (Rd f9_g.a [f9_g.b, f9_g.e, f9_g.v, f9_g.mx, (vQ sb), (vQ f9_p.a), (vQ (pa sb f9_C)), (vI .i64 f9_g.c)] w ∧ Blk w f9_g.a) ∧ RtRd w (rt sb (Tr.lf : Tr K)) (rmx (Tr.lf : Tr K)) ∧ (Rd f9_p.a [f9_p.b, f9_p.e, f9_p.v, f9_p.mx, (vQ (rt sb f9_s)), (vQ z.a), (vQ f9_g.a), (vI .i64 f9_p.c)] w ∧ Blk w f9_p.a) ∧ RtRd w (rt sb f9_s) (rmx f9_s) ∧ (Rd z.a [z.b, z.e, z.v, z.mx, (vQ (rt sb zl)), (vQ (rt sb zr)), (vQ f9_p.a), (vI .i64 z.c)] w ∧ Blk w z.a) ∧ RtRd w (rt sb zl) (rmx zl) ∧ RtRd w (rt sb zr) (rmx zr) ∧ Sub R (hp w)) (N := 15) foll rfl rfl ?_
    have H65_ := Holds.drew_ H56_
    have hq66_ := And.intro ((And.intro (Holds.rdf H65_ 0 rfl) (Holds.blk H65_ 0 rfl))) (And.intro (Holds.tr_rd H65_ 1 rfl 10 rfl) (And.intro ((And.intro (Holds.rdf H65_ 3 rfl) (Holds.blk H65_ 3 rfl))) (And.intro (Holds.tr_rd H65_ 4 rfl 10 rfl) (And.intro ((And.intro (Holds.rdf H65_ 5 rfl) (Holds.blk H65_ 5 rfl))) (And.intro (Holds.tr_rd H65_ 6 rfl 10 rfl) (And.intro (Holds.tr_rd H65_ 7 rfl 10 rfl) ((Holds.ro_at H65_ 8 rfl))))))))
    refine A_tk 0 (v := (vQ z.a)) rfl (by kernel_rfl) (fun w hS => x_move rfl) hq66_ ?_
    refine A_tk 1 (v := (vQ z.a)) rfl (by kernel_rfl) (fun w hS => by kernel_rfl) hq66_ ?_
    refine A_tk 2 (v := (vP (some ⟨z.a, 6, none⟩))) rfl (by kernel_rfl) (fun w hS => by kernel_rfl) hq66_ ?_
    refine A_tk 3 (v := (vQ f9_p.a)) rfl (by kernel_rfl) (fun w hS => x_load1 rfl underlying173 rfl (hS.2.2.2.2.1.1 6 (vQ f9_p.a) rfl)) hq66_ ?_
    refine A_tk 4 (v := (vQ z.a)) rfl (by kernel_rfl) (fun w hS => x_move rfl) hq66_ ?_
    refine A_tk 5 (v := (vQ z.a)) rfl (by kernel_rfl) (fun w hS => by kernel_rfl) hq66_ ?_
    refine A_tk 6 (v := (vP (some ⟨z.a, 6, none⟩))) rfl (by kernel_rfl) (fun w hS => by kernel_rfl) hq66_ ?_
    refine A_tk 7 (v := (vQ f9_p.a)) rfl (by kernel_rfl) (fun w hS => x_load1 rfl underlying173 rfl (hS.2.2.2.2.1.1 6 (vQ f9_p.a) rfl)) hq66_ ?_
    refine A_tk 8 (v := (vQ f9_p.a)) rfl (by kernel_rfl) (fun w hS => by kernel_rfl) hq66_ ?_
    refine A_tk 9 (v := (vP (some ⟨f9_p.a, 6, none⟩))) rfl (by kernel_rfl) (fun w hS => by kernel_rfl) hq66_ ?_
    refine A_tk 10 (v := (vQ f9_g.a)) rfl (by kernel_rfl) (fun w hS => x_load1 rfl underlying173 rfl (hS.2.2.1.1 6 (vQ f9_g.a) rfl)) hq66_ ?_
    refine A_tk 11 (v := (vQ f9_g.a)) rfl (by kernel_rfl) (fun w hS => by kernel_rfl) hq66_ ?_
    refine A_tk 12 (v := (vP (some ⟨f9_g.a, 4, none⟩))) rfl (by kernel_rfl) (fun w hS => by kernel_rfl) hq66_ ?_
    refine A_tk 13 (v := (vQ sb)) rfl (by kernel_rfl) (fun w hS => x_load1 rfl underlying173 rfl (hS.1.1 4 (vQ sb) rfl)) hq66_ ?_
    refine A_ready (i := 14) (rs := []) (by kernel_rfl) ?_
    refine AllR.cons ?_ AllR.nil
    refine A_op (ls' := #[true, true, true, true, true, true, true, true, true, true, true, true, true, true, true]) rfl (by kernel_rfl) (T_val (v := (vB false)) (x_cast (x_eqPN rfl rfl underlying173 z182 (by decide) (Holds.blk H65_ 3 rfl) (Holds.blk H65_ 10 rfl)) (congrArg vB (decide_eq_false hpc61_))) ?_)
    refine ⟨⟨(And.intro (Holds.rdf H65_ 0 rfl) (Holds.blk H65_ 0 rfl)), Holds.tr_rd H65_ 1 rfl 10 rfl, (And.intro (Holds.rdf H65_ 3 rfl) (Holds.blk H65_ 3 rfl)), Holds.tr_rd H65_ 4 rfl 10 rfl, (And.intro (Holds.rdf H65_ 5 rfl) (Holds.blk H65_ 5 rfl)), Holds.tr_rd H65_ 6 rfl 10 rfl, Holds.tr_rd H65_ 7 rfl 10 rfl, (Holds.ro_at H65_ 8 rfl)⟩, ?_⟩
    refine A_done (by kernel_rfl) ?_
    refine (X_then (hK64_ _ _ ?_))
    refine C_condF rfl ?_
    refine cR fun _ hK67_ => ?_
    refine sm (vQ z.a) ?_
    refine sv (v := (vQ z.a)) (by kernel_rfl) ?_
    refine sv (v := (vP (some ⟨z.a, 6, none⟩))) (by kernel_rfl) ?_
    refine sv (v := (vQ f9_p.a)) (x_load1 rfl underlying173 rfl ((Holds.rdf H65_ 5 rfl) 6 (vQ f9_p.a) rfl)) ?_
    refine sv (v := (vQ f9_p.a)) (by kernel_rfl) ?_
    refine sv (v := (vP (some ⟨f9_p.a, 6, none⟩))) (by kernel_rfl) ?_
    refine sv (v := (vQ f9_g.a)) (x_load1 rfl underlying173 rfl ((Holds.rdf H65_ 3 rfl) 6 (vQ f9_g.a) rfl)) ?_
    refine sv (v := (vQ f9_g.a)) (by kernel_rfl) ?_
    refine sv (v := (vP (some ⟨f9_g.a, 4, none⟩))) (by kernel_rfl) ?_
    refine sv (v := (vQ sb)) (x_load1 rfl underlying173 rfl ((Holds.rdf H65_ 0 rfl) 4 (vQ sb) rfl)) ?_
    refine sv (v := (vQ sb)) (x_assign rfl) ?_
    refine wn (hK67_ _ _ ?_)
    refine cR fun _ hK68_ => ?_
    refine sm (vQ sb) ?_
    refine sm (vQ tb) ?_
    refine sv (v := (vQ tb)) (by kernel_rfl) ?_
    refine sv (v := (vP (some ⟨tb, 2, none⟩))) (by kernel_rfl) ?_
    refine sv (v := (vQ sb)) (x_load1 rfl underlying173 rfl ((Holds.rd H65_ 9 rfl) 2 (vQ sb) rfl)) ?_
    refine S_list (T_callW (al := [(vQ sb), (vQ sb)]) rfl rfl cb166 (Calls.into (n := 12) func166 rfl ntmps166 rfl rfl ?_))
    refine cR fun _ hK69_ => ?_
    refine sv (v := (vI .i64 0)) (x_assign rfl) ?_
    refine wn (hK69_ _ _ ?_)
    refine C_seq (fun _ hK70_ => ?_)
    refine cR fun _ hK71_ => ?_
    refine sm (vQ sb) ?_
    refine sm (vQ sb) ?_
    refine sv (v := (vB true)) (x_eqP rfl rfl underlying173 z182) ?_
    refine wn (hK71_ _ _ ?_)
    refine C_condT rfl ?_
    refine cR fun _ hK72_ => ?_
    refine sv (v := (vI .i64 0)) (x_assign rfl) ?_
    refine wn (hK72_ _ _ ?_)
    refine C_ret (X_thenR ?_)
    refine R_any (v := (vI .i64 0)) (run_results1 rfl rfl) ⟨_, rfl, ?_⟩
    refine sv (v := (vB false)) (x_bin rfl rfl rfl) ?_
    refine wn (hK68_ _ _ ?_)
    refine C_condF rfl ?_
    refine C_seq (fun _ hK73_ => ?_)
    refine cR fun _ hK74_ => ?_
    refine sm (vQ z.a) ?_
    refine sm (vQ z.a) ?_
    refine sv (v := (vQ z.a)) (by kernel_rfl) ?_
    refine sv (v := (vP (some ⟨z.a, 6, none⟩))) (by kernel_rfl) ?_
    refine sv (v := (vQ f9_p.a)) (x_load1 rfl underlying173 rfl ((Holds.rdf H65_ 5 rfl) 6 (vQ f9_p.a) rfl)) ?_
    refine sv (v := (vQ f9_p.a)) (by kernel_rfl) ?_
    refine sv (v := (vP (some ⟨f9_p.a, 4, none⟩))) (by kernel_rfl) ?_
    refine sv (v := (vQ (rt sb f9_s))) (x_load1 rfl underlying173 rfl ((Holds.rdf H65_ 3 rfl) 4 (vQ (rt sb f9_s)) rfl)) ?_
    have hpc76_ : z.a ≠ sb := Holds.ne_f H65_ 5 rfl 10 rfl (by decide)
    have hpc75_ : z.a ≠ (rt sb f9_s) := Holds.ne_tr H65_ 5 rfl 4 rfl (by decide) hpc76_
    refine sv (v := (vB false)) (x_cast (x_eqPN rfl rfl underlying173 z182 (by decide) (Holds.blk H65_ 5 rfl) (Holds.tr_rd H65_ 4 rfl 10 rfl).blk) (congrArg vB (decide_eq_false hpc75_))) ?_
    refine wn (hK74_ _ _ ?_)
    refine C_condF rfl ?_
    refine C_skip (X_then (hK73_ _ _ ?_))
    refine cR fun _ hK77_ => ?_
    refine sm (vQ z.a) ?_
    refine sv (v := (vQ z.a)) (by kernel_rfl) ?_
    refine sv (v := (vP (some ⟨z.a, 6, none⟩))) (by kernel_rfl) ?_
    refine sv (v := (vQ f9_p.a)) (x_load1 rfl underlying173 rfl ((Holds.rdf H65_ 5 rfl) 6 (vQ f9_p.a) rfl)) ?_
    refine sv (v := (vQ f9_p.a)) (by kernel_rfl) ?_
    refine sv (v := (vP (some ⟨f9_p.a, 7, none⟩))) (by kernel_rfl) ?_
    refine S_list0 (T_store1f (v := (vI .i64 0)) rfl rfl z180 rfl H65_ 3 rfl (Nat.le_of_ble_eq_true (by rfl)) ?_)
    intro w78_ S80_ H79_
    have S81_ := Same.trans (Same.trans (Same.trans S6_ (Same.drew _)) (Same.drew _)) S80_
    refine wn (hK77_ _ _ ?_)
    refine cR fun _ hK82_ => ?_
    refine sm (vQ z.a) ?_
    refine sv (v := (vQ z.a)) (by kernel_rfl) ?_
    refine sv (v := (vP (some ⟨z.a, 6, none⟩))) (by kernel_rfl) ?_
    refine sv (v := (vQ f9_p.a)) (x_load1 rfl underlying173 rfl ((Holds.rdf H79_ 5 rfl) 6 (vQ f9_p.a) rfl)) ?_
    refine sv (v := (vQ f9_p.a)) (by kernel_rfl) ?_
    refine sv (v := (vP (some ⟨f9_p.a, 6, none⟩))) (by kernel_rfl) ?_
    refine sv (v := (vQ f9_g.a)) (x_load1 rfl underlying173 rfl ((Holds.rdf H79_ 3 rfl) 6 (vQ f9_g.a) rfl)) ?_
    refine sv (v := (vQ f9_g.a)) (by kernel_rfl) ?_
    refine sv (v := (vP (some ⟨f9_g.a, 7, none⟩))) (by kernel_rfl) ?_
    refine S_list0 (T_store1f (v := (vI .i64 1)) rfl rfl z180 rfl H79_ 0 rfl (Nat.le_of_ble_eq_true (by rfl)) ?_)
    intro w83_ S85_ H84_
    have S86_ := Same.trans S81_ S85_
    refine wn (hK82_ _ _ ?_)
    refine C_reg ?_
    refine sm (vQ tb) ?_
    refine sm (vQ z.a) ?_
    refine sv (v := (vQ z.a)) (by kernel_rfl) ?_
    refine sv (v := (vP (some ⟨z.a, 6, none⟩))) (by kernel_rfl) ?_
    refine sv (v := (vQ f9_p.a)) (x_load1 rfl underlying173 rfl ((Holds.rdf H84_ 5 rfl) 6 (vQ f9_p.a) rfl)) ?_
    refine sv (v := (vQ f9_p.a)) (by kernel_rfl) ?_
    refine sv (v := (vP (some ⟨f9_p.a, 6, none⟩))) (by kernel_rfl) ?_
    refine sv (v := (vQ f9_g.a)) (x_load1 rfl underlying173 rfl ((Holds.rdf H84_ 3 rfl) 6 (vQ f9_g.a) rfl)) ?_
    have H87_ := ((Holds.bring (Holds.bring (Holds.bring H84_ 7 rfl) 7 rfl) 7 rfl) :)
    have H88_ := Holds.nd_tr (n := z) (a := zl) (b := zr) H87_
    have H89_ := ((Holds.bring (Holds.bring H88_ 5 rfl) 5 rfl) :)
    have H90_ := Holds.nd_tr (n := (f9_p.setc 0)) (a := f9_s) (b := (Tr.nd z zl zr)) H89_
    have H91_ := ((Holds.bring (Holds.bring H90_ 2 rfl) 2 rfl) :)
    have H92_ := Holds.nd_tr (n := (f9_g.setc 1)) (a := (Tr.lf : Tr K)) (b := (Tr.nd (f9_p.setc 0) f9_s (Tr.nd z zl zr))) H91_
    have H93_ := H92_
    have hI3 : FxI O R L f9_C (rOr true (f9_g.setc 1) (f9_p.setc 0) (Tr.lf : Tr K) f9_s (Tr.nd z zl zr)) := FxI.col 1 (show FxI O R L f9_C (Tr.nd f9_g (Tr.lf : Tr K) (Tr.nd (f9_p.setc 0) f9_s (Tr.nd z zl zr))) from FxI.up (FxI.col 0 (show FxI O R L ((⟨false, f9_g, (Tr.lf : Tr K)⟩ : Fr K) :: f9_C) (Tr.nd f9_p f9_s (Tr.nd z zl zr)) from FxI.up hI1)))
    have H95_ := ((Holds.bring (Holds.bring (Holds.bring (Holds.bring (Holds.bring H93_ 4 rfl) 2 rfl) 2 rfl) 4 rfl) 4 rfl) :)
    refine S_list (T_call (al := [(vQ tb), (vQ ((f9_g.setc 1).a))]) (pre := [cl tb 185 [(vQ (ra (f9_g.setc 1).a f9_C)), (vI .i64 cnt), (vQ sb)], tr sb (pa sb f9_C) (Tr.nd (f9_g.setc 1) (Tr.lf : Tr K) (Tr.nd (f9_p.setc 0) f9_s (Tr.nd z zl zr))), cx sb ((f9_g.setc 1).a) f9_C, clf sb 182 sc]) rfl (lcons rfl (lcons ((by first | rfl | omega | (simp; done) | (simp; omega)) : (vQ f9_g.a) = (vQ ((f9_g.setc 1).a))) rfl)) cb175 (itRotL R K O tb sb cnt sc (f9_g.setc 1) (f9_p.setc 0) (Tr.lf : Tr K) f9_s (Tr.nd z zl zr) f9_C (hI3.ck) (hI3.tk)) H95_ ?_)
    rintro v94_ p99_ w96_ ⟨rfl, rfl⟩ S98_ H97_
    have S100_ := Same.trans S86_ S98_
    have hI4 := FxI.rot hI3
    have hI5 : FxI O R L ((⟨false, ((f9_p.setc 0).setmx (rV2 O true (f9_g.setc 1) (f9_p.setc 0) (Tr.lf : Tr K) f9_s (Tr.nd z zl zr))), (rTx O true (f9_g.setc 1) (Tr.lf : Tr K) f9_s)⟩ : Fr K) :: (rC3 O true (f9_g.setc 1) (f9_p.setc 0) (Tr.lf : Tr K) f9_s (Tr.nd z zl zr) f9_C)) (Tr.nd z zl zr) := FxI.down (f := (⟨false, ((f9_p.setc 0).setmx (rV2 O true (f9_g.setc 1) (f9_p.setc 0) (Tr.lf : Tr K) f9_s (Tr.nd z zl zr))), (rTx O true (f9_g.setc 1) (Tr.lf : Tr K) f9_s)⟩ : Fr K)) hI4 (fun _ => rfl)
    have H101_ := H97_; rw [← pa_rC3 (O := O) sb true (f9_g.setc 1) (f9_p.setc 0) (Tr.lf : Tr K) f9_s (Tr.nd z zl zr) f9_C, ← ra_rC3 (O := O) true (f9_g.setc 1) (f9_p.setc 0) (Tr.lf : Tr K) f9_s (Tr.nd z zl zr) f9_C] at H101_
    have H102_ := H101_
    have H103_ := H102_
    have H104_ := ((Holds.bring H103_ 2 rfl) :)
    have H105_ := Holds.tr_nd H104_
    have H106_ := ((Holds.bring (Holds.bring (Holds.bring H105_ 5 rfl) 2 rfl) 2 rfl) :)
    have H107_ := Holds.cons_cx (sb := sb) (f := (⟨false, ((f9_p.setc 0).setmx (rV2 O true (f9_g.setc 1) (f9_p.setc 0) (Tr.lf : Tr K) f9_s (Tr.nd z zl zr))), (rTx O true (f9_g.setc 1) (Tr.lf : Tr K) f9_s)⟩ : Fr K)) (C := (rC3 O true (f9_g.setc 1) (f9_p.setc 0) (Tr.lf : Tr K) f9_s (Tr.nd z zl zr) f9_C)) (x := z.a) H106_
    refine wpList_nil (X_blkN (X_then ?_))
    have H108_ := H107_
    have H109_ := Holds.pkF H108_ [2, 2, 1, 0, 0] 0
    exact ⟨⟨z, zl, zr, ((⟨false, ((f9_p.setc 0).setmx (rV2 O true (f9_g.setc 1) (f9_p.setc 0) (Tr.lf : Tr K) f9_s (Tr.nd z zl zr))), (rTx O true (f9_g.setc 1) (Tr.lf : Tr K) f9_s)⟩ : Fr K) :: (rC3 O true (f9_g.setc 1) (f9_p.setc 0) (Tr.lf : Tr K) f9_s (Tr.nd z zl zr) f9_C))⟩, ⟨_, congrArg (fun e => mkA 201 e []) (ch (ch rfl rfl) rfl), H109_, S100_, (hI5)⟩, (by first | (simp [rC3_len]; done) | (simp [rC3_len]; omega))⟩
   ·have c63_fp : ¬ (f9_p.c = 1) := of_decide_eq_false c63_f
    refine C_exit (X_thenX (X_thenX (X_blkHit ?_)))
    refine (X_then ?_)
    have H110_ := ((Holds.bring (Holds.bring (Holds.bring H56_ 7 rfl) 7 rfl) 7 rfl) :)
    have H111_ := Holds.nd_tr (n := z) (a := zl) (b := zr) H110_
    have H112_ := ((Holds.bring (Holds.bring (Holds.bring H111_ 3 rfl) 3 rfl) 3 rfl) :)
    have H113_ := Holds.cons_cx (sb := sb) (f := (⟨false, f9_g, (Tr.lf : Tr K)⟩ : Fr K)) (C := f9_C) (x := f9_p.a) H112_
    have H114_ := ((Holds.bring (Holds.bring H113_ 3 rfl) 3 rfl) :)
    have H115_ := Holds.cons_cx (sb := sb) (f := (⟨false, f9_p, f9_s⟩ : Fr K)) (C := ((⟨false, f9_g, (Tr.lf : Tr K)⟩ : Fr K) :: f9_C)) (x := z.a) H114_
    have H116_ := H115_
    have H117_ := ((Holds.bring H116_ 1 rfl) :)
    have H118_ := Holds.plug_in (C := ((⟨false, f9_p, f9_s⟩ : Fr K) :: ((⟨false, f9_g, (Tr.lf : Tr K)⟩ : Fr K) :: f9_C))) (t := (Tr.nd z zl zr)) H117_
    have H119_ : Holds w4_.drew (tr sb sb (plug ((⟨false, f9_p, f9_s⟩ : Fr K) :: ((⟨false, f9_g, (Tr.lf : Tr K)⟩ : Fr K) :: f9_C)) (Tr.nd z zl zr)) :: ro R :: cl tb 185 [(vP (some ⟨(ra z.a ((⟨false, f9_p, f9_s⟩ : Fr K) :: ((⟨false, f9_g, (Tr.lf : Tr K)⟩ : Fr K) :: f9_C))), 0, none⟩)), (vI .i64 cnt), (vQ sb)] :: clf sb 182 sc :: F) := (H118_)
    rw [show ra z.a ((⟨false, f9_p, f9_s⟩ : Fr K) :: ((⟨false, f9_g, (Tr.lf : Tr K)⟩ : Fr K) :: f9_C)) = rt sb (plug ((⟨false, f9_p, f9_s⟩ : Fr K) :: ((⟨false, f9_g, (Tr.lf : Tr K)⟩ : Fr K) :: f9_C)) (Tr.nd z zl zr)) from (rt_plug sb ((⟨false, f9_p, f9_s⟩ : Fr K) :: ((⟨false, f9_g, (Tr.lf : Tr K)⟩ : Fr K) :: f9_C)) z zl zr).symm] at H119_
    have H120_ := H119_
    have H121_ := Holds.pkF H120_ [1, 1, 0, 0] 0
    exact ⟨(plug ((⟨false, f9_p, f9_s⟩ : Fr K) :: ((⟨false, f9_g, (Tr.lf : Tr K)⟩ : Fr K) :: f9_C)) (Tr.nd z zl zr)), _, congrArg (fun e => mkA 201 e []) (ch rfl rfl), H121_, (Same.trans S6_ (Same.drew _)), (FxI.plug hI1), (plug_nd _ _ _ _)⟩
  ·skip
   have H122_ := H5_
   have H123_ := ((Holds.bring H122_ 2 rfl) :)
   have H124_ := Holds.tr_nd H123_
   have H125_ := ((Holds.bring H124_ 5 rfl) :)
   have H126_ := Holds.cx_cons H125_
   have H127_ := ((Holds.bring H126_ 2 rfl) :)
   have H128_ := Holds.cx_cons H127_
   have H129_ := ((Holds.bring H128_ 1 rfl) :)
   have H130_ := Holds.tr_nd H129_
   refine A_start (S := fun w => (Rd f9_u.a [f9_u.b, f9_u.e, f9_u.v, f9_u.mx, (vQ (rt sb f9_ul)), (vQ (rt sb f9_ur)), (vQ f9_g.a), (vI .i64 f9_u.c)] w ∧ Blk w f9_u.a) ∧ RtRd w (rt sb f9_ul) (rmx f9_ul) ∧ RtRd w (rt sb f9_ur) (rmx f9_ur) ∧ (Rd f9_g.a [f9_g.b, f9_g.e, f9_g.v, f9_g.mx, (vQ f9_u.a), (vQ f9_p.a), (vQ (pa sb f9_C)), (vI .i64 f9_g.c)] w ∧ Blk w f9_g.a) ∧ (Rd f9_p.a [f9_p.b, f9_p.e, f9_p.v, f9_p.mx, (vQ (rt sb f9_s)), (vQ z.a), (vQ f9_g.a), (vI .i64 f9_p.c)] w ∧ Blk w f9_p.a) ∧ RtRd w (rt sb f9_s) (rmx f9_s) ∧ (Rd z.a [z.b, z.e, z.v, z.mx, (vQ (rt sb zl)), (vQ (rt sb zr)), (vQ f9_p.a), (vI .i64 z.c)] w ∧ Blk w z.a) ∧ RtRd w (rt sb zl) (rmx zl) ∧ RtRd w (rt sb zr) (rmx zr) ∧ Rd tb [(vQ (ra f9_g.a f9_C)), (vI .i64 cnt), (vQ sb)] w ∧ Sub R (hp w)) (N := 10) foll rfl rfl ?_
   have H131_ := Holds.drew_ H130_
   have hq132_ := And.intro ((And.intro (Holds.rdf H131_ 0 rfl) (Holds.blk H131_ 0 rfl))) (And.intro (Holds.tr_rd H131_ 1 rfl 12 rfl) (And.intro (Holds.tr_rd H131_ 2 rfl 12 rfl) (And.intro ((And.intro (Holds.rdf H131_ 3 rfl) (Holds.blk H131_ 3 rfl))) (And.intro ((And.intro (Holds.rdf H131_ 5 rfl) (Holds.blk H131_ 5 rfl))) (And.intro (Holds.tr_rd H131_ 6 rfl 12 rfl) (And.intro ((And.intro (Holds.rdf H131_ 7 rfl) (Holds.blk H131_ 7 rfl))) (And.intro (Holds.tr_rd H131_ 8 rfl 12 rfl) (And.intro (Holds.tr_rd H131_ 9 rfl 12 rfl) (And.intro (Holds.rd H131_ 11 rfl) ((Holds.ro_at H131_ 10 rfl)))))))))))
   refine A_tk 0 (v := (vQ z.a)) rfl (by kernel_rfl) (fun w hS => x_move rfl) hq132_ ?_
   refine A_tk 1 (v := (vQ z.a)) rfl (by kernel_rfl) (fun w hS => by kernel_rfl) hq132_ ?_
   refine A_tk 2 (v := (vP (some ⟨z.a, 6, none⟩))) rfl (by kernel_rfl) (fun w hS => by kernel_rfl) hq132_ ?_
   refine A_tk 3 (v := (vQ f9_p.a)) rfl (by kernel_rfl) (fun w hS => x_load1 rfl underlying173 rfl (hS.2.2.2.2.2.2.1.1 6 (vQ f9_p.a) rfl)) hq132_ ?_
   refine A_tk 4 (v := (vQ tb)) rfl (by kernel_rfl) (fun w hS => x_move rfl) hq132_ ?_
   refine A_tk 5 (v := (vQ tb)) rfl (by kernel_rfl) (fun w hS => by kernel_rfl) hq132_ ?_
   refine A_tk 6 (v := (vP (some ⟨tb, 2, none⟩))) rfl (by kernel_rfl) (fun w hS => by kernel_rfl) hq132_ ?_
   refine A_tk 7 (v := (vQ sb)) rfl (by kernel_rfl) (fun w hS => x_load1 rfl underlying173 rfl (hS.2.2.2.2.2.2.2.2.2.1 2 (vQ sb) rfl)) hq132_ ?_
   refine A_ready (i := 8) (rs := []) (by kernel_rfl) ?_
   refine AllR.cons ?_ AllR.nil
   refine A_op (ls' := #[true, true, true, true, true, true, true, true, true, false]) rfl (by kernel_rfl) (T_callW (al := [(vQ f9_p.a), (vQ sb)]) rfl rfl cb166 (Calls.into (n := 12) func166 rfl ntmps166 rfl rfl ?_))
   refine cR fun _ hK133_ => ?_
   refine sv (v := (vI .i64 0)) (x_assign rfl) ?_
   refine wn (hK133_ _ _ ?_)
   refine C_seq (fun _ hK134_ => ?_)
   refine cR fun _ hK135_ => ?_
   refine sm (vQ f9_p.a) ?_
   refine sm (vQ sb) ?_
   have hpc136_ : f9_p.a ≠ sb := Holds.ne_f H131_ 5 rfl 12 rfl (by decide)
   refine sv (v := (vB false)) (x_cast (x_eqPN rfl rfl underlying173 z182 (by decide) (Holds.blk H131_ 5 rfl) (Holds.blk H131_ 12 rfl)) (congrArg vB (decide_eq_false hpc136_))) ?_
   refine wn (hK135_ _ _ ?_)
   refine C_condF rfl ?_
   refine C_skip (X_then (hK134_ _ _ ?_))
   refine cR fun _ hK137_ => ?_
   refine sm (vQ f9_p.a) ?_
   refine sv (v := (vQ f9_p.a)) (by kernel_rfl) ?_
   refine sv (v := (vP (some ⟨f9_p.a, 7, none⟩))) (by kernel_rfl) ?_
   refine sv (v := (vI .i64 f9_p.c)) (x_load1 rfl underlying180 rfl ((Holds.rdf H131_ 5 rfl) 7 (vI .i64 f9_p.c) rfl)) ?_
   refine sv (v := (vI .i64 f9_p.c)) (x_assign rfl) ?_
   refine wn (hK137_ _ _ ?_)
   refine C_ret ?_
   refine R_any (v := (vI .i64 f9_p.c)) (run_results1 rfl rfl) ⟨_, rfl, ?_⟩
   refine ⟨⟨(And.intro (Holds.rdf H131_ 0 rfl) (Holds.blk H131_ 0 rfl)), Holds.tr_rd H131_ 1 rfl 12 rfl, Holds.tr_rd H131_ 2 rfl 12 rfl, (And.intro (Holds.rdf H131_ 3 rfl) (Holds.blk H131_ 3 rfl)), (And.intro (Holds.rdf H131_ 5 rfl) (Holds.blk H131_ 5 rfl)), Holds.tr_rd H131_ 6 rfl 12 rfl, (And.intro (Holds.rdf H131_ 7 rfl) (Holds.blk H131_ 7 rfl)), Holds.tr_rd H131_ 8 rfl 12 rfl, Holds.tr_rd H131_ 9 rfl 12 rfl, Holds.rd H131_ 11 rfl, (Holds.ro_at H131_ 10 rfl)⟩, ?_⟩
   refine A_tk 9 (v := (vB (decide (f9_p.c = 1)))) rfl (by kernel_rfl) (fun w hS => x_bin rfl rfl rfl) hq132_ ?_
   refine A_done (by kernel_rfl) ?_
   refine (X_then (hK8_ _ _ ?_))
   refine C_cond (b := decide (f9_p.c = 1)) rfl (fun c138_t => ?_) (fun c138_f => ?_)
   ·have c138_tp : f9_p.c = 1 := of_decide_eq_true c138_t
    refine C_skip (X_then (hK7_ _ _ ?_))
    refine C_block ?_
    refine C_seq (fun _ hK139_ => ?_)
    refine A_start (S := fun w => (Rd f9_u.a [f9_u.b, f9_u.e, f9_u.v, f9_u.mx, (vQ (rt sb f9_ul)), (vQ (rt sb f9_ur)), (vQ f9_g.a), (vI .i64 f9_u.c)] w ∧ Blk w f9_u.a) ∧ RtRd w (rt sb f9_ul) (rmx f9_ul) ∧ RtRd w (rt sb f9_ur) (rmx f9_ur) ∧ (Rd f9_g.a [f9_g.b, f9_g.e, f9_g.v, f9_g.mx, (vQ f9_u.a), (vQ f9_p.a), (vQ (pa sb f9_C)), (vI .i64 f9_g.c)] w ∧ Blk w f9_g.a) ∧ (Rd f9_p.a [f9_p.b, f9_p.e, f9_p.v, f9_p.mx, (vQ (rt sb f9_s)), (vQ z.a), (vQ f9_g.a), (vI .i64 f9_p.c)] w ∧ Blk w f9_p.a) ∧ RtRd w (rt sb f9_s) (rmx f9_s) ∧ (Rd z.a [z.b, z.e, z.v, z.mx, (vQ (rt sb zl)), (vQ (rt sb zr)), (vQ f9_p.a), (vI .i64 z.c)] w ∧ Blk w z.a) ∧ RtRd w (rt sb zl) (rmx zl) ∧ RtRd w (rt sb zr) (rmx zr) ∧ Sub R (hp w)) (N := 15) foll rfl rfl ?_
    have H140_ := Holds.drew_ H131_
    have hq141_ := And.intro ((And.intro (Holds.rdf H140_ 0 rfl) (Holds.blk H140_ 0 rfl))) (And.intro (Holds.tr_rd H140_ 1 rfl 12 rfl) (And.intro (Holds.tr_rd H140_ 2 rfl 12 rfl) (And.intro ((And.intro (Holds.rdf H140_ 3 rfl) (Holds.blk H140_ 3 rfl))) (And.intro ((And.intro (Holds.rdf H140_ 5 rfl) (Holds.blk H140_ 5 rfl))) (And.intro (Holds.tr_rd H140_ 6 rfl 12 rfl) (And.intro ((And.intro (Holds.rdf H140_ 7 rfl) (Holds.blk H140_ 7 rfl))) (And.intro (Holds.tr_rd H140_ 8 rfl 12 rfl) (And.intro (Holds.tr_rd H140_ 9 rfl 12 rfl) ((Holds.ro_at H140_ 10 rfl))))))))))
    refine A_tk 0 (v := (vQ z.a)) rfl (by kernel_rfl) (fun w hS => x_move rfl) hq141_ ?_
    refine A_tk 1 (v := (vQ z.a)) rfl (by kernel_rfl) (fun w hS => by kernel_rfl) hq141_ ?_
    refine A_tk 2 (v := (vP (some ⟨z.a, 6, none⟩))) rfl (by kernel_rfl) (fun w hS => by kernel_rfl) hq141_ ?_
    refine A_tk 3 (v := (vQ f9_p.a)) rfl (by kernel_rfl) (fun w hS => x_load1 rfl underlying173 rfl (hS.2.2.2.2.2.2.1.1 6 (vQ f9_p.a) rfl)) hq141_ ?_
    refine A_tk 4 (v := (vQ z.a)) rfl (by kernel_rfl) (fun w hS => x_move rfl) hq141_ ?_
    refine A_tk 5 (v := (vQ z.a)) rfl (by kernel_rfl) (fun w hS => by kernel_rfl) hq141_ ?_
    refine A_tk 6 (v := (vP (some ⟨z.a, 6, none⟩))) rfl (by kernel_rfl) (fun w hS => by kernel_rfl) hq141_ ?_
    refine A_tk 7 (v := (vQ f9_p.a)) rfl (by kernel_rfl) (fun w hS => x_load1 rfl underlying173 rfl (hS.2.2.2.2.2.2.1.1 6 (vQ f9_p.a) rfl)) hq141_ ?_
    refine A_tk 8 (v := (vQ f9_p.a)) rfl (by kernel_rfl) (fun w hS => by kernel_rfl) hq141_ ?_
    refine A_tk 9 (v := (vP (some ⟨f9_p.a, 6, none⟩))) rfl (by kernel_rfl) (fun w hS => by kernel_rfl) hq141_ ?_
    refine A_tk 10 (v := (vQ f9_g.a)) rfl (by kernel_rfl) (fun w hS => x_load1 rfl underlying173 rfl (hS.2.2.2.2.1.1 6 (vQ f9_g.a) rfl)) hq141_ ?_
    refine A_tk 11 (v := (vQ f9_g.a)) rfl (by kernel_rfl) (fun w hS => by kernel_rfl) hq141_ ?_
    refine A_tk 12 (v := (vP (some ⟨f9_g.a, 4, none⟩))) rfl (by kernel_rfl) (fun w hS => by kernel_rfl) hq141_ ?_
    refine A_tk 13 (v := (vQ f9_u.a)) rfl (by kernel_rfl) (fun w hS => x_load1 rfl underlying173 rfl (hS.2.2.2.1.1 4 (vQ f9_u.a) rfl)) hq141_ ?_
    have hpc142_ : f9_p.a ≠ f9_u.a := Holds.ne_f H140_ 5 rfl 0 rfl (by decide)
    refine A_tk 14 (v := (vB false)) rfl (by kernel_rfl) (fun w hS => x_cast (x_eqPN rfl rfl underlying173 z182 (by decide) hS.2.2.2.2.1.2 hS.1.2) (congrArg vB (decide_eq_false hpc142_))) hq141_ ?_
    refine A_done (by kernel_rfl) ?_
    refine (X_then (hK139_ _ _ ?_))
    refine C_condF rfl ?_
    refine cR fun _ hK143_ => ?_
    refine sm (vQ z.a) ?_
    refine sv (v := (vQ z.a)) (by kernel_rfl) ?_
    refine sv (v := (vP (some ⟨z.a, 6, none⟩))) (by kernel_rfl) ?_
    refine sv (v := (vQ f9_p.a)) (x_load1 rfl underlying173 rfl ((Holds.rdf H140_ 7 rfl) 6 (vQ f9_p.a) rfl)) ?_
    refine sv (v := (vQ f9_p.a)) (by kernel_rfl) ?_
    refine sv (v := (vP (some ⟨f9_p.a, 6, none⟩))) (by kernel_rfl) ?_
    refine sv (v := (vQ f9_g.a)) (x_load1 rfl underlying173 rfl ((Holds.rdf H140_ 5 rfl) 6 (vQ f9_g.a) rfl)) ?_
    refine sv (v := (vQ f9_g.a)) (by kernel_rfl) ?_
    refine sv (v := (vP (some ⟨f9_g.a, 4, none⟩))) (by kernel_rfl) ?_
    refine sv (v := (vQ f9_u.a)) (x_load1 rfl underlying173 rfl ((Holds.rdf H140_ 3 rfl) 4 (vQ f9_u.a) rfl)) ?_
    refine sv (v := (vQ f9_u.a)) (x_assign rfl) ?_
    refine wn (hK143_ _ _ ?_)
    refine cR fun _ hK144_ => ?_
    refine sm (vQ f9_u.a) ?_
    refine sm (vQ tb) ?_
    refine sv (v := (vQ tb)) (by kernel_rfl) ?_
    refine sv (v := (vP (some ⟨tb, 2, none⟩))) (by kernel_rfl) ?_
    refine sv (v := (vQ sb)) (x_load1 rfl underlying173 rfl ((Holds.rd H140_ 11 rfl) 2 (vQ sb) rfl)) ?_
    refine S_list (T_callW (al := [(vQ f9_u.a), (vQ sb)]) rfl rfl cb166 (Calls.into (n := 12) func166 rfl ntmps166 rfl rfl ?_))
    refine cR fun _ hK145_ => ?_
    refine sv (v := (vI .i64 0)) (x_assign rfl) ?_
    refine wn (hK145_ _ _ ?_)
    refine C_seq (fun _ hK146_ => ?_)
    refine cR fun _ hK147_ => ?_
    refine sm (vQ f9_u.a) ?_
    refine sm (vQ sb) ?_
    have hpc148_ : f9_u.a ≠ sb := Holds.ne_f H140_ 0 rfl 12 rfl (by decide)
    refine sv (v := (vB false)) (x_cast (x_eqPN rfl rfl underlying173 z182 (by decide) (Holds.blk H140_ 0 rfl) (Holds.blk H140_ 12 rfl)) (congrArg vB (decide_eq_false hpc148_))) ?_
    refine wn (hK147_ _ _ ?_)
    refine C_condF rfl ?_
    refine C_skip (X_then (hK146_ _ _ ?_))
    refine cR fun _ hK149_ => ?_
    refine sm (vQ f9_u.a) ?_
    refine sv (v := (vQ f9_u.a)) (by kernel_rfl) ?_
    refine sv (v := (vP (some ⟨f9_u.a, 7, none⟩))) (by kernel_rfl) ?_
    refine sv (v := (vI .i64 f9_u.c)) (x_load1 rfl underlying180 rfl ((Holds.rdf H140_ 0 rfl) 7 (vI .i64 f9_u.c) rfl)) ?_
    refine sv (v := (vI .i64 f9_u.c)) (x_assign rfl) ?_
    refine wn (hK149_ _ _ ?_)
    refine C_ret ?_
    refine R_any (v := (vI .i64 f9_u.c)) (run_results1 rfl rfl) ⟨_, rfl, ?_⟩
    refine sv (v := (vB (decide (f9_u.c = 1)))) (x_bin rfl rfl rfl) ?_
    refine wn (hK144_ _ _ ?_)
    refine C_cond (b := decide (f9_u.c = 1)) rfl (fun c150_t => ?_) (fun c150_f => ?_)
    ·have c150_tp : f9_u.c = 1 := of_decide_eq_true c150_t
     refine cR fun _ hK151_ => ?_
     refine sm (vQ f9_u.a) ?_
     refine sv (v := (vQ f9_u.a)) (by kernel_rfl) ?_
     refine sv (v := (vP (some ⟨f9_u.a, 7, none⟩))) (by kernel_rfl) ?_
     refine S_list0 (T_store1f (v := (vI .i64 0)) rfl rfl z180 rfl H140_ 0 rfl (Nat.le_of_ble_eq_true (by rfl)) ?_)
     intro w152_ S154_ H153_
     have S155_ := Same.trans (Same.trans (Same.trans S6_ (Same.drew _)) (Same.drew _)) S154_
     refine wn (hK151_ _ _ ?_)
     refine cR fun _ hK156_ => ?_
     refine sm (vQ z.a) ?_
     refine sv (v := (vQ z.a)) (by kernel_rfl) ?_
     refine sv (v := (vP (some ⟨z.a, 6, none⟩))) (by kernel_rfl) ?_
     refine sv (v := (vQ f9_p.a)) (x_load1 rfl underlying173 rfl ((Holds.rdf H153_ 7 rfl) 6 (vQ f9_p.a) rfl)) ?_
     refine sv (v := (vQ f9_p.a)) (by kernel_rfl) ?_
     refine sv (v := (vP (some ⟨f9_p.a, 7, none⟩))) (by kernel_rfl) ?_
     refine S_list0 (T_store1f (v := (vI .i64 0)) rfl rfl z180 rfl H153_ 5 rfl (Nat.le_of_ble_eq_true (by rfl)) ?_)
     intro w157_ S159_ H158_
     have S160_ := Same.trans S155_ S159_
     refine wn (hK156_ _ _ ?_)
     refine cR fun _ hK161_ => ?_
     refine sm (vQ z.a) ?_
     refine sv (v := (vQ z.a)) (by kernel_rfl) ?_
     refine sv (v := (vP (some ⟨z.a, 6, none⟩))) (by kernel_rfl) ?_
     refine sv (v := (vQ f9_p.a)) (x_load1 rfl underlying173 rfl ((Holds.rdf H158_ 7 rfl) 6 (vQ f9_p.a) rfl)) ?_
     refine sv (v := (vQ f9_p.a)) (by kernel_rfl) ?_
     refine sv (v := (vP (some ⟨f9_p.a, 6, none⟩))) (by kernel_rfl) ?_
     refine sv (v := (vQ f9_g.a)) (x_load1 rfl underlying173 rfl ((Holds.rdf H158_ 5 rfl) 6 (vQ f9_g.a) rfl)) ?_
     refine sv (v := (vQ f9_g.a)) (by kernel_rfl) ?_
     refine sv (v := (vP (some ⟨f9_g.a, 7, none⟩))) (by kernel_rfl) ?_
     refine S_list0 (T_store1f (v := (vI .i64 1)) rfl rfl z180 rfl H158_ 3 rfl (Nat.le_of_ble_eq_true (by rfl)) ?_)
     intro w162_ S164_ H163_
     have S165_ := Same.trans S160_ S164_
     refine wn (hK161_ _ _ ?_)
     refine C_reg ?_
     refine sm (vQ z.a) ?_
     refine sv (v := (vQ z.a)) (by kernel_rfl) ?_
     refine sv (v := (vP (some ⟨z.a, 6, none⟩))) (by kernel_rfl) ?_
     refine sv (v := (vQ f9_p.a)) (x_load1 rfl underlying173 rfl ((Holds.rdf H163_ 7 rfl) 6 (vQ f9_p.a) rfl)) ?_
     refine sv (v := (vQ f9_p.a)) (by kernel_rfl) ?_
     refine sv (v := (vP (some ⟨f9_p.a, 6, none⟩))) (by kernel_rfl) ?_
     refine sv (v := (vQ f9_g.a)) (x_load1 rfl underlying173 rfl ((Holds.rdf H163_ 5 rfl) 6 (vQ f9_g.a) rfl)) ?_
     refine sv (v := (vQ f9_g.a)) (x_assign rfl) ?_
     refine wpList_nil (X_blkN (X_then ?_))
     have H166_ := ((Holds.bring (Holds.bring (Holds.bring H163_ 9 rfl) 9 rfl) 9 rfl) :)
     have H167_ := Holds.nd_tr (n := z) (a := zl) (b := zr) H166_
     have H168_ := ((Holds.bring (Holds.bring H167_ 7 rfl) 7 rfl) :)
     have H169_ := Holds.nd_tr (n := (f9_p.setc 0)) (a := f9_s) (b := (Tr.nd z zl zr)) H168_
     have H170_ := ((Holds.bring (Holds.bring (Holds.bring H169_ 3 rfl) 3 rfl) 3 rfl) :)
     have H171_ := Holds.nd_tr (n := (f9_u.setc 0)) (a := f9_ul) (b := f9_ur) H170_
     have H172_ := ((Holds.bring (Holds.bring (Holds.bring H171_ 1 rfl) 1 rfl) 2 rfl) :)
     have H173_ := Holds.nd_tr (n := (f9_g.setc 1)) (a := (Tr.nd (f9_u.setc 0) f9_ul f9_ur)) (b := (Tr.nd (f9_p.setc 0) f9_s (Tr.nd z zl zr))) H172_
     have hI5 : FxI O R L f9_C (Tr.nd (f9_g.setc 1) (Tr.nd (f9_u.setc 0) f9_ul f9_ur) (Tr.nd (f9_p.setc 0) f9_s (Tr.nd z zl zr))) := FxI.col 1 (show FxI O R L f9_C (Tr.nd f9_g (Tr.nd (f9_u.setc 0) f9_ul f9_ur) (Tr.nd (f9_p.setc 0) f9_s (Tr.nd z zl zr))) from FxI.up (FxI.colo 0 (FxI.col 0 (show FxI O R L ((⟨false, f9_g, (Tr.nd f9_u f9_ul f9_ur)⟩ : Fr K) :: f9_C) (Tr.nd f9_p f9_s (Tr.nd z zl zr)) from FxI.up hI1))))
     have H174_ := H173_
     have H175_ := Holds.pkF H174_ [2, 2, 0, 0, 0] 0
     exact ⟨⟨(f9_g.setc 1), (Tr.nd (f9_u.setc 0) f9_ul f9_ur), (Tr.nd (f9_p.setc 0) f9_s (Tr.nd z zl zr)), f9_C⟩, ⟨_, congrArg (fun e => mkA 201 e []) (ch (ch rfl rfl) ((by first | rfl | omega | (simp; done) | (simp; omega)) : (vQ f9_g.a) = (vQ ((f9_g.setc 1).a)))), H175_, S165_, (hI5)⟩, (by first | (simp [rC3_len]; done) | (simp [rC3_len]; omega))⟩
    ·have c150_fp : ¬ (f9_u.c = 1) := of_decide_eq_false c150_f
     refine C_seq (fun _ hK176_ => ?_)
     refine cR fun _ hK177_ => ?_
     refine sm (vQ z.a) ?_
     refine sm (vQ z.a) ?_
     refine sv (v := (vQ z.a)) (by kernel_rfl) ?_
     refine sv (v := (vP (some ⟨z.a, 6, none⟩))) (by kernel_rfl) ?_
     refine sv (v := (vQ f9_p.a)) (x_load1 rfl underlying173 rfl ((Holds.rdf H140_ 7 rfl) 6 (vQ f9_p.a) rfl)) ?_
     refine sv (v := (vQ f9_p.a)) (by kernel_rfl) ?_
     refine sv (v := (vP (some ⟨f9_p.a, 4, none⟩))) (by kernel_rfl) ?_
     refine sv (v := (vQ (rt sb f9_s))) (x_load1 rfl underlying173 rfl ((Holds.rdf H140_ 5 rfl) 4 (vQ (rt sb f9_s)) rfl)) ?_
     have hpc179_ : z.a ≠ sb := Holds.ne_f H140_ 7 rfl 12 rfl (by decide)
     have hpc178_ : z.a ≠ (rt sb f9_s) := Holds.ne_tr H140_ 7 rfl 6 rfl (by decide) hpc179_
     refine sv (v := (vB false)) (x_cast (x_eqPN rfl rfl underlying173 z182 (by decide) (Holds.blk H140_ 7 rfl) (Holds.tr_rd H140_ 6 rfl 12 rfl).blk) (congrArg vB (decide_eq_false hpc178_))) ?_
     refine wn (hK177_ _ _ ?_)
     refine C_condF rfl ?_
     refine C_skip (X_then (hK176_ _ _ ?_))
     refine cR fun _ hK180_ => ?_
     refine sm (vQ z.a) ?_
     refine sv (v := (vQ z.a)) (by kernel_rfl) ?_
     refine sv (v := (vP (some ⟨z.a, 6, none⟩))) (by kernel_rfl) ?_
     refine sv (v := (vQ f9_p.a)) (x_load1 rfl underlying173 rfl ((Holds.rdf H140_ 7 rfl) 6 (vQ f9_p.a) rfl)) ?_
     refine sv (v := (vQ f9_p.a)) (by kernel_rfl) ?_
     refine sv (v := (vP (some ⟨f9_p.a, 7, none⟩))) (by kernel_rfl) ?_
     refine S_list0 (T_store1f (v := (vI .i64 0)) rfl rfl z180 rfl H140_ 5 rfl (Nat.le_of_ble_eq_true (by rfl)) ?_)
     intro w181_ S183_ H182_
     have S184_ := Same.trans (Same.trans (Same.trans S6_ (Same.drew _)) (Same.drew _)) S183_
     refine wn (hK180_ _ _ ?_)
     refine cR fun _ hK185_ => ?_
     refine sm (vQ z.a) ?_
     refine sv (v := (vQ z.a)) (by kernel_rfl) ?_
     refine sv (v := (vP (some ⟨z.a, 6, none⟩))) (by kernel_rfl) ?_
     refine sv (v := (vQ f9_p.a)) (x_load1 rfl underlying173 rfl ((Holds.rdf H182_ 7 rfl) 6 (vQ f9_p.a) rfl)) ?_
     refine sv (v := (vQ f9_p.a)) (by kernel_rfl) ?_
     refine sv (v := (vP (some ⟨f9_p.a, 6, none⟩))) (by kernel_rfl) ?_
     refine sv (v := (vQ f9_g.a)) (x_load1 rfl underlying173 rfl ((Holds.rdf H182_ 5 rfl) 6 (vQ f9_g.a) rfl)) ?_
     refine sv (v := (vQ f9_g.a)) (by kernel_rfl) ?_
     refine sv (v := (vP (some ⟨f9_g.a, 7, none⟩))) (by kernel_rfl) ?_
     refine S_list0 (T_store1f (v := (vI .i64 1)) rfl rfl z180 rfl H182_ 3 rfl (Nat.le_of_ble_eq_true (by rfl)) ?_)
     intro w186_ S188_ H187_
     have S189_ := Same.trans S184_ S188_
     refine wn (hK185_ _ _ ?_)
     refine C_reg ?_
     refine sm (vQ tb) ?_
     refine sm (vQ z.a) ?_
     refine sv (v := (vQ z.a)) (by kernel_rfl) ?_
     refine sv (v := (vP (some ⟨z.a, 6, none⟩))) (by kernel_rfl) ?_
     refine sv (v := (vQ f9_p.a)) (x_load1 rfl underlying173 rfl ((Holds.rdf H187_ 7 rfl) 6 (vQ f9_p.a) rfl)) ?_
     refine sv (v := (vQ f9_p.a)) (by kernel_rfl) ?_
     refine sv (v := (vP (some ⟨f9_p.a, 6, none⟩))) (by kernel_rfl) ?_
     refine sv (v := (vQ f9_g.a)) (x_load1 rfl underlying173 rfl ((Holds.rdf H187_ 5 rfl) 6 (vQ f9_g.a) rfl)) ?_
     have H190_ := ((Holds.bring (Holds.bring (Holds.bring H187_ 9 rfl) 9 rfl) 9 rfl) :)
     have H191_ := Holds.nd_tr (n := z) (a := zl) (b := zr) H190_
     have H192_ := ((Holds.bring (Holds.bring H191_ 7 rfl) 7 rfl) :)
     have H193_ := Holds.nd_tr (n := (f9_p.setc 0)) (a := f9_s) (b := (Tr.nd z zl zr)) H192_
     have H194_ := ((Holds.bring (Holds.bring (Holds.bring H193_ 3 rfl) 3 rfl) 3 rfl) :)
     have H195_ := Holds.nd_tr (n := f9_u) (a := f9_ul) (b := f9_ur) H194_
     have H196_ := ((Holds.bring (Holds.bring (Holds.bring H195_ 1 rfl) 1 rfl) 2 rfl) :)
     have H197_ := Holds.nd_tr (n := (f9_g.setc 1)) (a := (Tr.nd f9_u f9_ul f9_ur)) (b := (Tr.nd (f9_p.setc 0) f9_s (Tr.nd z zl zr))) H196_
     have H198_ := H197_
     have hI3 : FxI O R L f9_C (rOr true (f9_g.setc 1) (f9_p.setc 0) (Tr.nd f9_u f9_ul f9_ur) f9_s (Tr.nd z zl zr)) := FxI.col 1 (show FxI O R L f9_C (Tr.nd f9_g (Tr.nd f9_u f9_ul f9_ur) (Tr.nd (f9_p.setc 0) f9_s (Tr.nd z zl zr))) from FxI.up (FxI.col 0 (show FxI O R L ((⟨false, f9_g, (Tr.nd f9_u f9_ul f9_ur)⟩ : Fr K) :: f9_C) (Tr.nd f9_p f9_s (Tr.nd z zl zr)) from FxI.up hI1)))
     have H200_ := ((Holds.bring (Holds.bring (Holds.bring (Holds.bring (Holds.bring H198_ 4 rfl) 2 rfl) 2 rfl) 4 rfl) 4 rfl) :)
     refine S_list (T_call (al := [(vQ tb), (vQ ((f9_g.setc 1).a))]) (pre := [cl tb 185 [(vQ (ra (f9_g.setc 1).a f9_C)), (vI .i64 cnt), (vQ sb)], tr sb (pa sb f9_C) (Tr.nd (f9_g.setc 1) (Tr.nd f9_u f9_ul f9_ur) (Tr.nd (f9_p.setc 0) f9_s (Tr.nd z zl zr))), cx sb ((f9_g.setc 1).a) f9_C, clf sb 182 sc]) rfl (lcons rfl (lcons ((by first | rfl | omega | (simp; done) | (simp; omega)) : (vQ f9_g.a) = (vQ ((f9_g.setc 1).a))) rfl)) cb175 (itRotL R K O tb sb cnt sc (f9_g.setc 1) (f9_p.setc 0) (Tr.nd f9_u f9_ul f9_ur) f9_s (Tr.nd z zl zr) f9_C (hI3.ck) (hI3.tk)) H200_ ?_)
     rintro v199_ p204_ w201_ ⟨rfl, rfl⟩ S203_ H202_
     have S205_ := Same.trans S189_ S203_
     have hI4 := FxI.rot hI3
     have hI5 : FxI O R L ((⟨false, ((f9_p.setc 0).setmx (rV2 O true (f9_g.setc 1) (f9_p.setc 0) (Tr.nd f9_u f9_ul f9_ur) f9_s (Tr.nd z zl zr))), (rTx O true (f9_g.setc 1) (Tr.nd f9_u f9_ul f9_ur) f9_s)⟩ : Fr K) :: (rC3 O true (f9_g.setc 1) (f9_p.setc 0) (Tr.nd f9_u f9_ul f9_ur) f9_s (Tr.nd z zl zr) f9_C)) (Tr.nd z zl zr) := FxI.down (f := (⟨false, ((f9_p.setc 0).setmx (rV2 O true (f9_g.setc 1) (f9_p.setc 0) (Tr.nd f9_u f9_ul f9_ur) f9_s (Tr.nd z zl zr))), (rTx O true (f9_g.setc 1) (Tr.nd f9_u f9_ul f9_ur) f9_s)⟩ : Fr K)) hI4 (fun _ => rfl)
     have H206_ := H202_; rw [← pa_rC3 (O := O) sb true (f9_g.setc 1) (f9_p.setc 0) (Tr.nd f9_u f9_ul f9_ur) f9_s (Tr.nd z zl zr) f9_C, ← ra_rC3 (O := O) true (f9_g.setc 1) (f9_p.setc 0) (Tr.nd f9_u f9_ul f9_ur) f9_s (Tr.nd z zl zr) f9_C] at H206_
     have H207_ := H206_
     have H208_ := H207_
     have H209_ := ((Holds.bring H208_ 2 rfl) :)
     have H210_ := Holds.tr_nd H209_
     have H211_ := ((Holds.bring (Holds.bring (Holds.bring H210_ 5 rfl) 2 rfl) 2 rfl) :)
     have H212_ := Holds.cons_cx (sb := sb) (f := (⟨false, ((f9_p.setc 0).setmx (rV2 O true (f9_g.setc 1) (f9_p.setc 0) (Tr.nd f9_u f9_ul f9_ur) f9_s (Tr.nd z zl zr))), (rTx O true (f9_g.setc 1) (Tr.nd f9_u f9_ul f9_ur) f9_s)⟩ : Fr K)) (C := (rC3 O true (f9_g.setc 1) (f9_p.setc 0) (Tr.nd f9_u f9_ul f9_ur) f9_s (Tr.nd z zl zr) f9_C)) (x := z.a) H211_
     refine wpList_nil (X_blkN (X_then ?_))
     have H213_ := H212_
     have H214_ := Holds.pkF H213_ [2, 2, 1, 0, 0] 0
     exact ⟨⟨z, zl, zr, ((⟨false, ((f9_p.setc 0).setmx (rV2 O true (f9_g.setc 1) (f9_p.setc 0) (Tr.nd f9_u f9_ul f9_ur) f9_s (Tr.nd z zl zr))), (rTx O true (f9_g.setc 1) (Tr.nd f9_u f9_ul f9_ur) f9_s)⟩ : Fr K) :: (rC3 O true (f9_g.setc 1) (f9_p.setc 0) (Tr.nd f9_u f9_ul f9_ur) f9_s (Tr.nd z zl zr) f9_C))⟩, ⟨_, congrArg (fun e => mkA 201 e []) (ch (ch rfl rfl) rfl), H214_, S205_, (hI5)⟩, (by first | (simp [rC3_len]; done) | (simp [rC3_len]; omega))⟩
   ·have c138_fp : ¬ (f9_p.c = 1) := of_decide_eq_false c138_f
    refine C_exit (X_thenX (X_thenX (X_blkHit ?_)))
    refine (X_then ?_)
    have H215_ := ((Holds.bring (Holds.bring (Holds.bring H131_ 9 rfl) 9 rfl) 9 rfl) :)
    have H216_ := Holds.nd_tr (n := z) (a := zl) (b := zr) H215_
    have H217_ := ((Holds.bring (Holds.bring (Holds.bring H216_ 3 rfl) 3 rfl) 3 rfl) :)
    have H218_ := Holds.nd_tr (n := f9_u) (a := f9_ul) (b := f9_ur) H217_
    have H219_ := ((Holds.bring (Holds.bring (Holds.bring H218_ 3 rfl) 1 rfl) 3 rfl) :)
    have H220_ := Holds.cons_cx (sb := sb) (f := (⟨false, f9_g, (Tr.nd f9_u f9_ul f9_ur)⟩ : Fr K)) (C := f9_C) (x := f9_p.a) H219_
    have H221_ := ((Holds.bring (Holds.bring H220_ 3 rfl) 3 rfl) :)
    have H222_ := Holds.cons_cx (sb := sb) (f := (⟨false, f9_p, f9_s⟩ : Fr K)) (C := ((⟨false, f9_g, (Tr.nd f9_u f9_ul f9_ur)⟩ : Fr K) :: f9_C)) (x := z.a) H221_
    have H223_ := H222_
    have H224_ := ((Holds.bring H223_ 1 rfl) :)
    have H225_ := Holds.plug_in (C := ((⟨false, f9_p, f9_s⟩ : Fr K) :: ((⟨false, f9_g, (Tr.nd f9_u f9_ul f9_ur)⟩ : Fr K) :: f9_C))) (t := (Tr.nd z zl zr)) H224_
    have H226_ : Holds w4_.drew (tr sb sb (plug ((⟨false, f9_p, f9_s⟩ : Fr K) :: ((⟨false, f9_g, (Tr.nd f9_u f9_ul f9_ur)⟩ : Fr K) :: f9_C)) (Tr.nd z zl zr)) :: ro R :: cl tb 185 [(vP (some ⟨(ra z.a ((⟨false, f9_p, f9_s⟩ : Fr K) :: ((⟨false, f9_g, (Tr.nd f9_u f9_ul f9_ur)⟩ : Fr K) :: f9_C))), 0, none⟩)), (vI .i64 cnt), (vQ sb)] :: clf sb 182 sc :: F) := (H225_)
    rw [show ra z.a ((⟨false, f9_p, f9_s⟩ : Fr K) :: ((⟨false, f9_g, (Tr.nd f9_u f9_ul f9_ur)⟩ : Fr K) :: f9_C)) = rt sb (plug ((⟨false, f9_p, f9_s⟩ : Fr K) :: ((⟨false, f9_g, (Tr.nd f9_u f9_ul f9_ur)⟩ : Fr K) :: f9_C)) (Tr.nd z zl zr)) from (rt_plug sb ((⟨false, f9_p, f9_s⟩ : Fr K) :: ((⟨false, f9_g, (Tr.nd f9_u f9_ul f9_ur)⟩ : Fr K) :: f9_C)) z zl zr).symm] at H226_
    have H227_ := H226_
    have H228_ := Holds.pkF H227_ [1, 1, 0, 0] 0
    exact ⟨(plug ((⟨false, f9_p, f9_s⟩ : Fr K) :: ((⟨false, f9_g, (Tr.nd f9_u f9_ul f9_ur)⟩ : Fr K) :: f9_C)) (Tr.nd z zl zr)), _, congrArg (fun e => mkA 201 e []) (ch rfl rfl), H228_, (Same.trans S6_ (Same.drew _)), (FxI.plug hI1), (plug_nd _ _ _ _)⟩
  ·skip
   have H229_ := H5_
   have H230_ := ((Holds.bring H229_ 2 rfl) :)
   have H231_ := Holds.tr_nd H230_
   have H232_ := ((Holds.bring H231_ 5 rfl) :)
   have H233_ := Holds.cx_cons H232_
   have H234_ := ((Holds.bring H233_ 2 rfl) :)
   have H235_ := Holds.cx_cons H234_
   refine A_start (S := fun w => (Rd f9_g.a [f9_g.b, f9_g.e, f9_g.v, f9_g.mx, (vQ f9_p.a), (vQ sb), (vQ (pa sb f9_C)), (vI .i64 f9_g.c)] w ∧ Blk w f9_g.a) ∧ RtRd w (rt sb (Tr.lf : Tr K)) (rmx (Tr.lf : Tr K)) ∧ (Rd f9_p.a [f9_p.b, f9_p.e, f9_p.v, f9_p.mx, (vQ (rt sb f9_s)), (vQ z.a), (vQ f9_g.a), (vI .i64 f9_p.c)] w ∧ Blk w f9_p.a) ∧ RtRd w (rt sb f9_s) (rmx f9_s) ∧ (Rd z.a [z.b, z.e, z.v, z.mx, (vQ (rt sb zl)), (vQ (rt sb zr)), (vQ f9_p.a), (vI .i64 z.c)] w ∧ Blk w z.a) ∧ RtRd w (rt sb zl) (rmx zl) ∧ RtRd w (rt sb zr) (rmx zr) ∧ Rd tb [(vQ (ra f9_g.a f9_C)), (vI .i64 cnt), (vQ sb)] w ∧ Sub R (hp w)) (N := 10) foll rfl rfl ?_
   have H236_ := Holds.drew_ H235_
   have hq237_ := And.intro ((And.intro (Holds.rdf H236_ 0 rfl) (Holds.blk H236_ 0 rfl))) (And.intro (Holds.tr_rd H236_ 1 rfl 10 rfl) (And.intro ((And.intro (Holds.rdf H236_ 3 rfl) (Holds.blk H236_ 3 rfl))) (And.intro (Holds.tr_rd H236_ 4 rfl 10 rfl) (And.intro ((And.intro (Holds.rdf H236_ 5 rfl) (Holds.blk H236_ 5 rfl))) (And.intro (Holds.tr_rd H236_ 6 rfl 10 rfl) (And.intro (Holds.tr_rd H236_ 7 rfl 10 rfl) (And.intro (Holds.rd H236_ 9 rfl) ((Holds.ro_at H236_ 8 rfl)))))))))
   refine A_tk 0 (v := (vQ z.a)) rfl (by kernel_rfl) (fun w hS => x_move rfl) hq237_ ?_
   refine A_tk 1 (v := (vQ z.a)) rfl (by kernel_rfl) (fun w hS => by kernel_rfl) hq237_ ?_
   refine A_tk 2 (v := (vP (some ⟨z.a, 6, none⟩))) rfl (by kernel_rfl) (fun w hS => by kernel_rfl) hq237_ ?_
   refine A_tk 3 (v := (vQ f9_p.a)) rfl (by kernel_rfl) (fun w hS => x_load1 rfl underlying173 rfl (hS.2.2.2.2.1.1 6 (vQ f9_p.a) rfl)) hq237_ ?_
   refine A_tk 4 (v := (vQ tb)) rfl (by kernel_rfl) (fun w hS => x_move rfl) hq237_ ?_
   refine A_tk 5 (v := (vQ tb)) rfl (by kernel_rfl) (fun w hS => by kernel_rfl) hq237_ ?_
   refine A_tk 6 (v := (vP (some ⟨tb, 2, none⟩))) rfl (by kernel_rfl) (fun w hS => by kernel_rfl) hq237_ ?_
   refine A_tk 7 (v := (vQ sb)) rfl (by kernel_rfl) (fun w hS => x_load1 rfl underlying173 rfl (hS.2.2.2.2.2.2.2.1 2 (vQ sb) rfl)) hq237_ ?_
   refine A_ready (i := 8) (rs := []) (by kernel_rfl) ?_
   refine AllR.cons ?_ AllR.nil
   refine A_op (ls' := #[true, true, true, true, true, true, true, true, true, false]) rfl (by kernel_rfl) (T_callW (al := [(vQ f9_p.a), (vQ sb)]) rfl rfl cb166 (Calls.into (n := 12) func166 rfl ntmps166 rfl rfl ?_))
   refine cR fun _ hK238_ => ?_
   refine sv (v := (vI .i64 0)) (x_assign rfl) ?_
   refine wn (hK238_ _ _ ?_)
   refine C_seq (fun _ hK239_ => ?_)
   refine cR fun _ hK240_ => ?_
   refine sm (vQ f9_p.a) ?_
   refine sm (vQ sb) ?_
   have hpc241_ : f9_p.a ≠ sb := Holds.ne_f H236_ 3 rfl 10 rfl (by decide)
   refine sv (v := (vB false)) (x_cast (x_eqPN rfl rfl underlying173 z182 (by decide) (Holds.blk H236_ 3 rfl) (Holds.blk H236_ 10 rfl)) (congrArg vB (decide_eq_false hpc241_))) ?_
   refine wn (hK240_ _ _ ?_)
   refine C_condF rfl ?_
   refine C_skip (X_then (hK239_ _ _ ?_))
   refine cR fun _ hK242_ => ?_
   refine sm (vQ f9_p.a) ?_
   refine sv (v := (vQ f9_p.a)) (by kernel_rfl) ?_
   refine sv (v := (vP (some ⟨f9_p.a, 7, none⟩))) (by kernel_rfl) ?_
   refine sv (v := (vI .i64 f9_p.c)) (x_load1 rfl underlying180 rfl ((Holds.rdf H236_ 3 rfl) 7 (vI .i64 f9_p.c) rfl)) ?_
   refine sv (v := (vI .i64 f9_p.c)) (x_assign rfl) ?_
   refine wn (hK242_ _ _ ?_)
   refine C_ret ?_
   refine R_any (v := (vI .i64 f9_p.c)) (run_results1 rfl rfl) ⟨_, rfl, ?_⟩
   refine ⟨⟨(And.intro (Holds.rdf H236_ 0 rfl) (Holds.blk H236_ 0 rfl)), Holds.tr_rd H236_ 1 rfl 10 rfl, (And.intro (Holds.rdf H236_ 3 rfl) (Holds.blk H236_ 3 rfl)), Holds.tr_rd H236_ 4 rfl 10 rfl, (And.intro (Holds.rdf H236_ 5 rfl) (Holds.blk H236_ 5 rfl)), Holds.tr_rd H236_ 6 rfl 10 rfl, Holds.tr_rd H236_ 7 rfl 10 rfl, Holds.rd H236_ 9 rfl, (Holds.ro_at H236_ 8 rfl)⟩, ?_⟩
   refine A_tk 9 (v := (vB (decide (f9_p.c = 1)))) rfl (by kernel_rfl) (fun w hS => x_bin rfl rfl rfl) hq237_ ?_
   refine A_done (by kernel_rfl) ?_
   refine (X_then (hK8_ _ _ ?_))
   refine C_cond (b := decide (f9_p.c = 1)) rfl (fun c243_t => ?_) (fun c243_f => ?_)
   ·have c243_tp : f9_p.c = 1 := of_decide_eq_true c243_t
    refine C_skip (X_then (hK7_ _ _ ?_))
    refine C_block ?_
    refine C_seq (fun _ hK244_ => ?_)
    refine A_start (S := fun w => (Rd f9_g.a [f9_g.b, f9_g.e, f9_g.v, f9_g.mx, (vQ f9_p.a), (vQ sb), (vQ (pa sb f9_C)), (vI .i64 f9_g.c)] w ∧ Blk w f9_g.a) ∧ RtRd w (rt sb (Tr.lf : Tr K)) (rmx (Tr.lf : Tr K)) ∧ (Rd f9_p.a [f9_p.b, f9_p.e, f9_p.v, f9_p.mx, (vQ (rt sb f9_s)), (vQ z.a), (vQ f9_g.a), (vI .i64 f9_p.c)] w ∧ Blk w f9_p.a) ∧ RtRd w (rt sb f9_s) (rmx f9_s) ∧ (Rd z.a [z.b, z.e, z.v, z.mx, (vQ (rt sb zl)), (vQ (rt sb zr)), (vQ f9_p.a), (vI .i64 z.c)] w ∧ Blk w z.a) ∧ RtRd w (rt sb zl) (rmx zl) ∧ RtRd w (rt sb zr) (rmx zr) ∧ Sub R (hp w)) (N := 15) foll rfl rfl ?_
    have H245_ := Holds.drew_ H236_
    have hq246_ := And.intro ((And.intro (Holds.rdf H245_ 0 rfl) (Holds.blk H245_ 0 rfl))) (And.intro (Holds.tr_rd H245_ 1 rfl 10 rfl) (And.intro ((And.intro (Holds.rdf H245_ 3 rfl) (Holds.blk H245_ 3 rfl))) (And.intro (Holds.tr_rd H245_ 4 rfl 10 rfl) (And.intro ((And.intro (Holds.rdf H245_ 5 rfl) (Holds.blk H245_ 5 rfl))) (And.intro (Holds.tr_rd H245_ 6 rfl 10 rfl) (And.intro (Holds.tr_rd H245_ 7 rfl 10 rfl) ((Holds.ro_at H245_ 8 rfl))))))))
    refine A_tk 0 (v := (vQ z.a)) rfl (by kernel_rfl) (fun w hS => x_move rfl) hq246_ ?_
    refine A_tk 1 (v := (vQ z.a)) rfl (by kernel_rfl) (fun w hS => by kernel_rfl) hq246_ ?_
    refine A_tk 2 (v := (vP (some ⟨z.a, 6, none⟩))) rfl (by kernel_rfl) (fun w hS => by kernel_rfl) hq246_ ?_
    refine A_tk 3 (v := (vQ f9_p.a)) rfl (by kernel_rfl) (fun w hS => x_load1 rfl underlying173 rfl (hS.2.2.2.2.1.1 6 (vQ f9_p.a) rfl)) hq246_ ?_
    refine A_tk 4 (v := (vQ z.a)) rfl (by kernel_rfl) (fun w hS => x_move rfl) hq246_ ?_
    refine A_tk 5 (v := (vQ z.a)) rfl (by kernel_rfl) (fun w hS => by kernel_rfl) hq246_ ?_
    refine A_tk 6 (v := (vP (some ⟨z.a, 6, none⟩))) rfl (by kernel_rfl) (fun w hS => by kernel_rfl) hq246_ ?_
    refine A_tk 7 (v := (vQ f9_p.a)) rfl (by kernel_rfl) (fun w hS => x_load1 rfl underlying173 rfl (hS.2.2.2.2.1.1 6 (vQ f9_p.a) rfl)) hq246_ ?_
    refine A_tk 8 (v := (vQ f9_p.a)) rfl (by kernel_rfl) (fun w hS => by kernel_rfl) hq246_ ?_
    refine A_tk 9 (v := (vP (some ⟨f9_p.a, 6, none⟩))) rfl (by kernel_rfl) (fun w hS => by kernel_rfl) hq246_ ?_
    refine A_tk 10 (v := (vQ f9_g.a)) rfl (by kernel_rfl) (fun w hS => x_load1 rfl underlying173 rfl (hS.2.2.1.1 6 (vQ f9_g.a) rfl)) hq246_ ?_
    refine A_tk 11 (v := (vQ f9_g.a)) rfl (by kernel_rfl) (fun w hS => by kernel_rfl) hq246_ ?_
    refine A_tk 12 (v := (vP (some ⟨f9_g.a, 4, none⟩))) rfl (by kernel_rfl) (fun w hS => by kernel_rfl) hq246_ ?_
    refine A_tk 13 (v := (vQ f9_p.a)) rfl (by kernel_rfl) (fun w hS => x_load1 rfl underlying173 rfl (hS.1.1 4 (vQ f9_p.a) rfl)) hq246_ ?_
    refine A_tk 14 (v := (vB true)) rfl (by kernel_rfl) (fun w hS => x_eqP rfl rfl underlying173 z182) hq246_ ?_
    refine A_done (by kernel_rfl) ?_
    refine (X_then (hK244_ _ _ ?_))
    refine C_condT rfl ?_
    refine cR fun _ hK247_ => ?_
    refine sm (vQ z.a) ?_
    refine sv (v := (vQ z.a)) (by kernel_rfl) ?_
    refine sv (v := (vP (some ⟨z.a, 6, none⟩))) (by kernel_rfl) ?_
    refine sv (v := (vQ f9_p.a)) (x_load1 rfl underlying173 rfl ((Holds.rdf H245_ 5 rfl) 6 (vQ f9_p.a) rfl)) ?_
    refine sv (v := (vQ f9_p.a)) (by kernel_rfl) ?_
    refine sv (v := (vP (some ⟨f9_p.a, 6, none⟩))) (by kernel_rfl) ?_
    refine sv (v := (vQ f9_g.a)) (x_load1 rfl underlying173 rfl ((Holds.rdf H245_ 3 rfl) 6 (vQ f9_g.a) rfl)) ?_
    refine sv (v := (vQ f9_g.a)) (by kernel_rfl) ?_
    refine sv (v := (vP (some ⟨f9_g.a, 5, none⟩))) (by kernel_rfl) ?_
    refine sv (v := (vQ sb)) (x_load1 rfl underlying173 rfl ((Holds.rdf H245_ 0 rfl) 5 (vQ sb) rfl)) ?_
    refine sv (v := (vQ sb)) (x_assign rfl) ?_
    refine wn (hK247_ _ _ ?_)
    refine cR fun _ hK248_ => ?_
    refine sm (vQ sb) ?_
    refine sm (vQ tb) ?_
    refine sv (v := (vQ tb)) (by kernel_rfl) ?_
    refine sv (v := (vP (some ⟨tb, 2, none⟩))) (by kernel_rfl) ?_
    refine sv (v := (vQ sb)) (x_load1 rfl underlying173 rfl ((Holds.rd H245_ 9 rfl) 2 (vQ sb) rfl)) ?_
    refine S_list (T_callW (al := [(vQ sb), (vQ sb)]) rfl rfl cb166 (Calls.into (n := 12) func166 rfl ntmps166 rfl rfl ?_))
    refine cR fun _ hK249_ => ?_
    refine sv (v := (vI .i64 0)) (x_assign rfl) ?_
    refine wn (hK249_ _ _ ?_)
    refine C_seq (fun _ hK250_ => ?_)
    refine cR fun _ hK251_ => ?_
    refine sm (vQ sb) ?_
    refine sm (vQ sb) ?_
    refine sv (v := (vB true)) (x_eqP rfl rfl underlying173 z182) ?_
    refine wn (hK251_ _ _ ?_)
    refine C_condT rfl ?_
    refine cR fun _ hK252_ => ?_
    refine sv (v := (vI .i64 0)) (x_assign rfl) ?_
    refine wn (hK252_ _ _ ?_)
    refine C_ret (X_thenR ?_)
    refine R_any (v := (vI .i64 0)) (run_results1 rfl rfl) ⟨_, rfl, ?_⟩
    refine sv (v := (vB false)) (x_bin rfl rfl rfl) ?_
    refine wn (hK248_ _ _ ?_)
    refine C_condF rfl ?_
    refine C_seq (fun _ hK253_ => ?_)
    refine cR fun _ hK254_ => ?_
    refine sm (vQ z.a) ?_
    refine sm (vQ z.a) ?_
    refine sv (v := (vQ z.a)) (by kernel_rfl) ?_
    refine sv (v := (vP (some ⟨z.a, 6, none⟩))) (by kernel_rfl) ?_
    refine sv (v := (vQ f9_p.a)) (x_load1 rfl underlying173 rfl ((Holds.rdf H245_ 5 rfl) 6 (vQ f9_p.a) rfl)) ?_
    refine sv (v := (vQ f9_p.a)) (by kernel_rfl) ?_
    refine sv (v := (vP (some ⟨f9_p.a, 5, none⟩))) (by kernel_rfl) ?_
    refine sv (v := (vQ z.a)) (x_load1 rfl underlying173 rfl ((Holds.rdf H245_ 3 rfl) 5 (vQ z.a) rfl)) ?_
    refine sv (v := (vB true)) (x_eqP rfl rfl underlying173 z182) ?_
    refine wn (hK254_ _ _ ?_)
    refine C_condT rfl ?_
    refine cR fun _ hK255_ => ?_
    refine sm (vQ z.a) ?_
    refine sv (v := (vQ z.a)) (by kernel_rfl) ?_
    refine sv (v := (vP (some ⟨z.a, 6, none⟩))) (by kernel_rfl) ?_
    refine sv (v := (vQ f9_p.a)) (x_load1 rfl underlying173 rfl ((Holds.rdf H245_ 5 rfl) 6 (vQ f9_p.a) rfl)) ?_
    refine sv (v := (vQ f9_p.a)) (x_assign rfl) ?_
    refine wn (hK255_ _ _ ?_)
    refine C_reg ?_
    refine sm (vQ tb) ?_
    refine sm (vQ f9_p.a) ?_
    have H256_ := ((Holds.bring (Holds.bring (Holds.bring H245_ 7 rfl) 7 rfl) 7 rfl) :)
    have H257_ := Holds.nd_tr (n := z) (a := zl) (b := zr) H256_
    have H258_ := ((Holds.bring (Holds.bring H257_ 5 rfl) 5 rfl) :)
    have H259_ := Holds.nd_tr (n := f9_p) (a := f9_s) (b := (Tr.nd z zl zr)) H258_
    have H260_ := ((Holds.bring (Holds.bring (Holds.bring H259_ 3 rfl) 3 rfl) 3 rfl) :)
    have H261_ := Holds.cons_cx (sb := sb) (f := (⟨true, f9_g, (Tr.lf : Tr K)⟩ : Fr K)) (C := f9_C) (x := f9_p.a) H260_
    have H262_ := H261_
    have H264_ := ((Holds.bring (Holds.bring (Holds.bring (Holds.bring (Holds.bring H262_ 4 rfl) 1 rfl) 2 rfl) 4 rfl) 4 rfl) :)
    refine S_list (T_call (al := [(vQ tb), (vQ f9_p.a)]) (pre := [cl tb 185 [(vP (some ⟨(ra f9_p.a ((⟨true, f9_g, (Tr.lf : Tr K)⟩ : Fr K) :: f9_C)), 0, none⟩)), (vI .i64 cnt), (vQ sb)], tr sb (pa sb ((⟨true, f9_g, (Tr.lf : Tr K)⟩ : Fr K) :: f9_C)) (Tr.nd f9_p f9_s (Tr.nd z zl zr)), cx sb f9_p.a ((⟨true, f9_g, (Tr.lf : Tr K)⟩ : Fr K) :: f9_C), clf sb 182 sc]) rfl rfl cb175 (itRotL R K O tb sb cnt sc f9_p z f9_s zl zr ((⟨true, f9_g, (Tr.lf : Tr K)⟩ : Fr K) :: f9_C) ((FxI.up hI1).ck) ((FxI.up hI1).tk)) H264_ ?_)
    rintro v263_ p268_ w265_ ⟨rfl, rfl⟩ S267_ H266_
    have S269_ := Same.trans (Same.trans (Same.trans S6_ (Same.drew _)) (Same.drew _)) S267_
    have hI2 := FxI.rot (d := true) (x := f9_p) (y := z) (A := f9_s) (B := zl) (D := zr) (FxI.up hI1)
    have hra_ := fun q => ra_rC3 (O := O) true f9_p z f9_s zl zr ((⟨true, f9_g, (Tr.lf : Tr K)⟩ : Fr K) :: f9_C) q
    obtain ⟨m270_, C271_, hC272_⟩ := rC3_cons O true f9_p z f9_s zl zr (⟨true, f9_g, (Tr.lf : Tr K)⟩ : Fr K) f9_C
    have H273_ := H266_; rw [← hra_] at H273_; rw [hC272_] at H273_ hI2
    have H274_ := H273_
    have hlen_ : C271_.length = f9_C.length := by have := congrArg List.length hC272_; rw [rC3_len] at this; simpa using this.symm
    have H275_ := H274_
    have H276_ := ((Holds.bring H275_ 3 rfl) :)
    have H277_ := Holds.cx_cons H276_
    have H278_ := ((Holds.bring H277_ 5 rfl) :)
    have H279_ := Holds.tr_nd H278_
    have H280_ := ((Holds.bring H279_ 1 rfl) :)
    have H281_ := Holds.tr_nd H280_
    refine wn (hK253_ _ _ ?_)
    refine cR fun _ hK282_ => ?_
    refine sm (vQ f9_p.a) ?_
    refine sv (v := (vQ f9_p.a)) (by kernel_rfl) ?_
    refine sv (v := (vP (some ⟨f9_p.a, 6, none⟩))) (by kernel_rfl) ?_
    refine sv (v := (vQ z.a)) (x_load1 rfl underlying173 rfl ((Holds.rdf H281_ 0 rfl) 6 (vQ z.a) rfl)) ?_
    refine sv (v := (vQ z.a)) (by kernel_rfl) ?_
    refine sv (v := (vP (some ⟨z.a, 7, none⟩))) (by kernel_rfl) ?_
    refine S_list0 (T_store1f (v := (vI .i64 0)) rfl rfl z180 rfl H281_ 3 rfl (Nat.le_of_ble_eq_true (by rfl)) ?_)
    intro w283_ S285_ H284_
    have S286_ := Same.trans S269_ S285_
    refine wn (hK282_ _ _ ?_)
    refine cR fun _ hK287_ => ?_
    refine sm (vQ f9_p.a) ?_
    refine sv (v := (vQ f9_p.a)) (by kernel_rfl) ?_
    refine sv (v := (vP (some ⟨f9_p.a, 6, none⟩))) (by kernel_rfl) ?_
    refine sv (v := (vQ z.a)) (x_load1 rfl underlying173 rfl ((Holds.rdf H284_ 0 rfl) 6 (vQ z.a) rfl)) ?_
    refine sv (v := (vQ z.a)) (by kernel_rfl) ?_
    refine sv (v := (vP (some ⟨z.a, 6, none⟩))) (by kernel_rfl) ?_
    refine sv (v := (vQ f9_g.a)) (x_load1 rfl underlying173 rfl ((Holds.rdf H284_ 3 rfl) 6 (vQ f9_g.a) rfl)) ?_
    refine sv (v := (vQ f9_g.a)) (by kernel_rfl) ?_
    refine sv (v := (vP (some ⟨f9_g.a, 7, none⟩))) (by kernel_rfl) ?_
    refine S_list0 (T_store1f (v := (vI .i64 1)) rfl rfl z180 rfl H284_ 5 rfl (Nat.le_of_ble_eq_true (by rfl)) ?_)
    intro w288_ S290_ H289_
    have S291_ := Same.trans S286_ S290_
    refine wn (hK287_ _ _ ?_)
    refine C_reg ?_
    refine sm (vQ tb) ?_
    refine sm (vQ f9_p.a) ?_
    refine sv (v := (vQ f9_p.a)) (by kernel_rfl) ?_
    refine sv (v := (vP (some ⟨f9_p.a, 6, none⟩))) (by kernel_rfl) ?_
    refine sv (v := (vQ z.a)) (x_load1 rfl underlying173 rfl ((Holds.rdf H289_ 0 rfl) 6 (vQ z.a) rfl)) ?_
    refine sv (v := (vQ z.a)) (by kernel_rfl) ?_
    refine sv (v := (vP (some ⟨z.a, 6, none⟩))) (by kernel_rfl) ?_
    refine sv (v := (vQ f9_g.a)) (x_load1 rfl underlying173 rfl ((Holds.rdf H289_ 3 rfl) 6 (vQ f9_g.a) rfl)) ?_
    have H292_ := Holds.nd_tr (n := (f9_p.setmx (rV1 O true f9_p f9_s zl))) (a := f9_s) (b := zl) H289_
    have H293_ := ((Holds.bring (Holds.bring (Holds.bring H292_ 2 rfl) 1 rfl) 2 rfl) :)
    have H294_ := Holds.nd_tr (n := ((z.setmx (rV2 O true f9_p z f9_s zl zr)).setc 0)) (a := (Tr.nd (f9_p.setmx (rV1 O true f9_p f9_s zl)) f9_s zl)) (b := zr) H293_
    have H295_ := ((Holds.bring (Holds.bring (Holds.bring H294_ 2 rfl) 1 rfl) 2 rfl) :)
    have H296_ := Holds.nd_tr (n := ((f9_g.setmx m270_).setc 1)) (a := (Tr.nd ((z.setmx (rV2 O true f9_p z f9_s zl zr)).setc 0) (Tr.nd (f9_p.setmx (rV1 O true f9_p f9_s zl)) f9_s zl) zr)) (b := (Tr.lf : Tr K)) H295_
    have H297_ := H296_
    have hI3 : FxI O R L C271_ (rOr false ((f9_g.setmx m270_).setc 1) ((z.setmx (rV2 O true f9_p z f9_s zl zr)).setc 0) (Tr.lf : Tr K) zr (Tr.nd (f9_p.setmx (rV1 O true f9_p f9_s zl)) f9_s zl)) := FxI.col 1 (show FxI O R L C271_ (Tr.nd (f9_g.setmx m270_) (Tr.nd ((z.setmx (rV2 O true f9_p z f9_s zl zr)).setc 0) (Tr.nd (f9_p.setmx (rV1 O true f9_p f9_s zl)) f9_s zl) zr) (Tr.lf : Tr K)) from FxI.up (FxI.col 0 (show FxI O R L ((⟨true, f9_g, (Tr.lf : Tr K)⟩ : Fr K).setmx m270_ :: C271_) (Tr.nd (z.setmx (rV2 O true f9_p z f9_s zl zr)) (Tr.nd (f9_p.setmx (rV1 O true f9_p f9_s zl)) f9_s zl) zr) from hI2)))
    have H299_ := ((Holds.bring (Holds.bring (Holds.bring (Holds.bring (Holds.bring H297_ 4 rfl) 2 rfl) 2 rfl) 4 rfl) 4 rfl) :)
    refine S_list (T_call (al := [(vQ tb), (vQ (((f9_g.setmx m270_).setc 1).a))]) (pre := [cl tb 185 [(vQ ((ra ((f9_g.setmx m270_).setc 1).a C271_))), (vI .i64 cnt), (vQ sb)], tr sb (pa sb C271_) (Tr.nd ((f9_g.setmx m270_).setc 1) (Tr.nd ((z.setmx (rV2 O true f9_p z f9_s zl zr)).setc 0) (Tr.nd (f9_p.setmx (rV1 O true f9_p f9_s zl)) f9_s zl) zr) (Tr.lf : Tr K)), cx sb (((f9_g.setmx m270_).setc 1).a) C271_, clf sb 182 sc]) rfl (lcons rfl (lcons ((by first | rfl | omega | (simp; done) | (simp; omega)) : (vQ f9_g.a) = (vQ (((f9_g.setmx m270_).setc 1).a))) rfl)) cb176 (itRotR R K O tb sb cnt sc ((f9_g.setmx m270_).setc 1) ((z.setmx (rV2 O true f9_p z f9_s zl zr)).setc 0) (Tr.lf : Tr K) zr (Tr.nd (f9_p.setmx (rV1 O true f9_p f9_s zl)) f9_s zl) C271_ (hI3.ck) (hI3.tk)) H299_ ?_)
    rintro v298_ p303_ w300_ ⟨rfl, rfl⟩ S302_ H301_
    have S304_ := Same.trans S291_ S302_
    have hI4 := FxI.rot hI3
    have hI5 : FxI O R L ((⟨true, (((z.setmx (rV2 O true f9_p z f9_s zl zr)).setc 0).setmx (rV2 O false ((f9_g.setmx m270_).setc 1) ((z.setmx (rV2 O true f9_p z f9_s zl zr)).setc 0) (Tr.lf : Tr K) zr (Tr.nd (f9_p.setmx (rV1 O true f9_p f9_s zl)) f9_s zl))), (rTx O false ((f9_g.setmx m270_).setc 1) (Tr.lf : Tr K) zr)⟩ : Fr K) :: (rC3 O false ((f9_g.setmx m270_).setc 1) ((z.setmx (rV2 O true f9_p z f9_s zl zr)).setc 0) (Tr.lf : Tr K) zr (Tr.nd (f9_p.setmx (rV1 O true f9_p f9_s zl)) f9_s zl) C271_)) (Tr.nd (f9_p.setmx (rV1 O true f9_p f9_s zl)) f9_s zl) := FxI.down (f := (⟨true, (((z.setmx (rV2 O true f9_p z f9_s zl zr)).setc 0).setmx (rV2 O false ((f9_g.setmx m270_).setc 1) ((z.setmx (rV2 O true f9_p z f9_s zl zr)).setc 0) (Tr.lf : Tr K) zr (Tr.nd (f9_p.setmx (rV1 O true f9_p f9_s zl)) f9_s zl))), (rTx O false ((f9_g.setmx m270_).setc 1) (Tr.lf : Tr K) zr)⟩ : Fr K)) hI4 (fun _ => rfl)
    have H305_ := H301_; rw [← pa_rC3 (O := O) sb false ((f9_g.setmx m270_).setc 1) ((z.setmx (rV2 O true f9_p z f9_s zl zr)).setc 0) (Tr.lf : Tr K) zr (Tr.nd (f9_p.setmx (rV1 O true f9_p f9_s zl)) f9_s zl) C271_, ← ra_rC3 (O := O) false ((f9_g.setmx m270_).setc 1) ((z.setmx (rV2 O true f9_p z f9_s zl zr)).setc 0) (Tr.lf : Tr K) zr (Tr.nd (f9_p.setmx (rV1 O true f9_p f9_s zl)) f9_s zl) C271_] at H305_
    have H306_ := H305_
    have H307_ := H306_
    have H308_ := ((Holds.bring H307_ 2 rfl) :)
    have H309_ := Holds.tr_nd H308_
    have H310_ := ((Holds.bring (Holds.bring (Holds.bring H309_ 5 rfl) 3 rfl) 2 rfl) :)
    have H311_ := Holds.cons_cx (sb := sb) (f := (⟨true, (((z.setmx (rV2 O true f9_p z f9_s zl zr)).setc 0).setmx (rV2 O false ((f9_g.setmx m270_).setc 1) ((z.setmx (rV2 O true f9_p z f9_s zl zr)).setc 0) (Tr.lf : Tr K) zr (Tr.nd (f9_p.setmx (rV1 O true f9_p f9_s zl)) f9_s zl))), (rTx O false ((f9_g.setmx m270_).setc 1) (Tr.lf : Tr K) zr)⟩ : Fr K)) (C := (rC3 O false ((f9_g.setmx m270_).setc 1) ((z.setmx (rV2 O true f9_p z f9_s zl zr)).setc 0) (Tr.lf : Tr K) zr (Tr.nd (f9_p.setmx (rV1 O true f9_p f9_s zl)) f9_s zl) C271_)) (x := f9_p.a) H310_
    refine wpList_nil (X_blkN (X_then ?_))
    have H312_ := H311_
    have H313_ := Holds.pkF H312_ [2, 2, 1, 0, 0] 0
    exact ⟨⟨(f9_p.setmx (rV1 O true f9_p f9_s zl)), f9_s, zl, ((⟨true, (((z.setmx (rV2 O true f9_p z f9_s zl zr)).setc 0).setmx (rV2 O false ((f9_g.setmx m270_).setc 1) ((z.setmx (rV2 O true f9_p z f9_s zl zr)).setc 0) (Tr.lf : Tr K) zr (Tr.nd (f9_p.setmx (rV1 O true f9_p f9_s zl)) f9_s zl))), (rTx O false ((f9_g.setmx m270_).setc 1) (Tr.lf : Tr K) zr)⟩ : Fr K) :: (rC3 O false ((f9_g.setmx m270_).setc 1) ((z.setmx (rV2 O true f9_p z f9_s zl zr)).setc 0) (Tr.lf : Tr K) zr (Tr.nd (f9_p.setmx (rV1 O true f9_p f9_s zl)) f9_s zl) C271_))⟩, ⟨_, congrArg (fun e => mkA 201 e []) (ch (ch rfl rfl) ((by first | rfl | omega | (simp; done) | (simp; omega)) : (vQ f9_p.a) = (vQ ((f9_p.setmx (rV1 O true f9_p f9_s zl)).a)))), H313_, S304_, (hI5)⟩, (by first | (simp [rC3_len]; done) | (simp [rC3_len]; omega))⟩
   ·have c243_fp : ¬ (f9_p.c = 1) := of_decide_eq_false c243_f
    refine C_exit (X_thenX (X_thenX (X_blkHit ?_)))
    refine (X_then ?_)
    have H314_ := ((Holds.bring (Holds.bring (Holds.bring H236_ 7 rfl) 7 rfl) 7 rfl) :)
    have H315_ := Holds.nd_tr (n := z) (a := zl) (b := zr) H314_
    have H316_ := ((Holds.bring (Holds.bring (Holds.bring H315_ 3 rfl) 3 rfl) 3 rfl) :)
    have H317_ := Holds.cons_cx (sb := sb) (f := (⟨true, f9_g, (Tr.lf : Tr K)⟩ : Fr K)) (C := f9_C) (x := f9_p.a) H316_
    have H318_ := ((Holds.bring (Holds.bring H317_ 3 rfl) 3 rfl) :)
    have H319_ := Holds.cons_cx (sb := sb) (f := (⟨false, f9_p, f9_s⟩ : Fr K)) (C := ((⟨true, f9_g, (Tr.lf : Tr K)⟩ : Fr K) :: f9_C)) (x := z.a) H318_
    have H320_ := H319_
    have H321_ := ((Holds.bring H320_ 1 rfl) :)
    have H322_ := Holds.plug_in (C := ((⟨false, f9_p, f9_s⟩ : Fr K) :: ((⟨true, f9_g, (Tr.lf : Tr K)⟩ : Fr K) :: f9_C))) (t := (Tr.nd z zl zr)) H321_
    have H323_ : Holds w4_.drew (tr sb sb (plug ((⟨false, f9_p, f9_s⟩ : Fr K) :: ((⟨true, f9_g, (Tr.lf : Tr K)⟩ : Fr K) :: f9_C)) (Tr.nd z zl zr)) :: ro R :: cl tb 185 [(vP (some ⟨(ra z.a ((⟨false, f9_p, f9_s⟩ : Fr K) :: ((⟨true, f9_g, (Tr.lf : Tr K)⟩ : Fr K) :: f9_C))), 0, none⟩)), (vI .i64 cnt), (vQ sb)] :: clf sb 182 sc :: F) := (H322_)
    rw [show ra z.a ((⟨false, f9_p, f9_s⟩ : Fr K) :: ((⟨true, f9_g, (Tr.lf : Tr K)⟩ : Fr K) :: f9_C)) = rt sb (plug ((⟨false, f9_p, f9_s⟩ : Fr K) :: ((⟨true, f9_g, (Tr.lf : Tr K)⟩ : Fr K) :: f9_C)) (Tr.nd z zl zr)) from (rt_plug sb ((⟨false, f9_p, f9_s⟩ : Fr K) :: ((⟨true, f9_g, (Tr.lf : Tr K)⟩ : Fr K) :: f9_C)) z zl zr).symm] at H323_
    have H324_ := H323_
    have H325_ := Holds.pkF H324_ [1, 1, 0, 0] 0
    exact ⟨(plug ((⟨false, f9_p, f9_s⟩ : Fr K) :: ((⟨true, f9_g, (Tr.lf : Tr K)⟩ : Fr K) :: f9_C)) (Tr.nd z zl zr)), _, congrArg (fun e => mkA 201 e []) (ch rfl rfl), H325_, (Same.trans S6_ (Same.drew _)), (FxI.plug hI1), (plug_nd _ _ _ _)⟩
  ·skip
   have H326_ := H5_
   have H327_ := ((Holds.bring H326_ 2 rfl) :)
   have H328_ := Holds.tr_nd H327_
   have H329_ := ((Holds.bring H328_ 5 rfl) :)
   have H330_ := Holds.cx_cons H329_
   have H331_ := ((Holds.bring H330_ 2 rfl) :)
   have H332_ := Holds.cx_cons H331_
   have H333_ := ((Holds.bring H332_ 1 rfl) :)
   have H334_ := Holds.tr_nd H333_
   refine A_start (S := fun w => (Rd f9_u.a [f9_u.b, f9_u.e, f9_u.v, f9_u.mx, (vQ (rt sb f9_ul)), (vQ (rt sb f9_ur)), (vQ f9_g.a), (vI .i64 f9_u.c)] w ∧ Blk w f9_u.a) ∧ RtRd w (rt sb f9_ul) (rmx f9_ul) ∧ RtRd w (rt sb f9_ur) (rmx f9_ur) ∧ (Rd f9_g.a [f9_g.b, f9_g.e, f9_g.v, f9_g.mx, (vQ f9_p.a), (vQ f9_u.a), (vQ (pa sb f9_C)), (vI .i64 f9_g.c)] w ∧ Blk w f9_g.a) ∧ (Rd f9_p.a [f9_p.b, f9_p.e, f9_p.v, f9_p.mx, (vQ (rt sb f9_s)), (vQ z.a), (vQ f9_g.a), (vI .i64 f9_p.c)] w ∧ Blk w f9_p.a) ∧ RtRd w (rt sb f9_s) (rmx f9_s) ∧ (Rd z.a [z.b, z.e, z.v, z.mx, (vQ (rt sb zl)), (vQ (rt sb zr)), (vQ f9_p.a), (vI .i64 z.c)] w ∧ Blk w z.a) ∧ RtRd w (rt sb zl) (rmx zl) ∧ RtRd w (rt sb zr) (rmx zr) ∧ Rd tb [(vQ (ra f9_g.a f9_C)), (vI .i64 cnt), (vQ sb)] w ∧ Sub R (hp w)) (N := 10) foll rfl rfl ?_
   have H335_ := Holds.drew_ H334_
   have hq336_ := And.intro ((And.intro (Holds.rdf H335_ 0 rfl) (Holds.blk H335_ 0 rfl))) (And.intro (Holds.tr_rd H335_ 1 rfl 12 rfl) (And.intro (Holds.tr_rd H335_ 2 rfl 12 rfl) (And.intro ((And.intro (Holds.rdf H335_ 3 rfl) (Holds.blk H335_ 3 rfl))) (And.intro ((And.intro (Holds.rdf H335_ 5 rfl) (Holds.blk H335_ 5 rfl))) (And.intro (Holds.tr_rd H335_ 6 rfl 12 rfl) (And.intro ((And.intro (Holds.rdf H335_ 7 rfl) (Holds.blk H335_ 7 rfl))) (And.intro (Holds.tr_rd H335_ 8 rfl 12 rfl) (And.intro (Holds.tr_rd H335_ 9 rfl 12 rfl) (And.intro (Holds.rd H335_ 11 rfl) ((Holds.ro_at H335_ 10 rfl)))))))))))
   refine A_tk 0 (v := (vQ z.a)) rfl (by kernel_rfl) (fun w hS => x_move rfl) hq336_ ?_
   refine A_tk 1 (v := (vQ z.a)) rfl (by kernel_rfl) (fun w hS => by kernel_rfl) hq336_ ?_
   refine A_tk 2 (v := (vP (some ⟨z.a, 6, none⟩))) rfl (by kernel_rfl) (fun w hS => by kernel_rfl) hq336_ ?_
   refine A_tk 3 (v := (vQ f9_p.a)) rfl (by kernel_rfl) (fun w hS => x_load1 rfl underlying173 rfl (hS.2.2.2.2.2.2.1.1 6 (vQ f9_p.a) rfl)) hq336_ ?_
   refine A_tk 4 (v := (vQ tb)) rfl (by kernel_rfl) (fun w hS => x_move rfl) hq336_ ?_
   refine A_tk 5 (v := (vQ tb)) rfl (by kernel_rfl) (fun w hS => by kernel_rfl) hq336_ ?_
   refine A_tk 6 (v := (vP (some ⟨tb, 2, none⟩))) rfl (by kernel_rfl) (fun w hS => by kernel_rfl) hq336_ ?_
   refine A_tk 7 (v := (vQ sb)) rfl (by kernel_rfl) (fun w hS => x_load1 rfl underlying173 rfl (hS.2.2.2.2.2.2.2.2.2.1 2 (vQ sb) rfl)) hq336_ ?_
   refine A_ready (i := 8) (rs := []) (by kernel_rfl) ?_
   refine AllR.cons ?_ AllR.nil
   refine A_op (ls' := #[true, true, true, true, true, true, true, true, true, false]) rfl (by kernel_rfl) (T_callW (al := [(vQ f9_p.a), (vQ sb)]) rfl rfl cb166 (Calls.into (n := 12) func166 rfl ntmps166 rfl rfl ?_))
   refine cR fun _ hK337_ => ?_
   refine sv (v := (vI .i64 0)) (x_assign rfl) ?_
   refine wn (hK337_ _ _ ?_)
   refine C_seq (fun _ hK338_ => ?_)
   refine cR fun _ hK339_ => ?_
   refine sm (vQ f9_p.a) ?_
   refine sm (vQ sb) ?_
   have hpc340_ : f9_p.a ≠ sb := Holds.ne_f H335_ 5 rfl 12 rfl (by decide)
   refine sv (v := (vB false)) (x_cast (x_eqPN rfl rfl underlying173 z182 (by decide) (Holds.blk H335_ 5 rfl) (Holds.blk H335_ 12 rfl)) (congrArg vB (decide_eq_false hpc340_))) ?_
   refine wn (hK339_ _ _ ?_)
   refine C_condF rfl ?_
   refine C_skip (X_then (hK338_ _ _ ?_))
   refine cR fun _ hK341_ => ?_
   refine sm (vQ f9_p.a) ?_
   refine sv (v := (vQ f9_p.a)) (by kernel_rfl) ?_
   refine sv (v := (vP (some ⟨f9_p.a, 7, none⟩))) (by kernel_rfl) ?_
   refine sv (v := (vI .i64 f9_p.c)) (x_load1 rfl underlying180 rfl ((Holds.rdf H335_ 5 rfl) 7 (vI .i64 f9_p.c) rfl)) ?_
   refine sv (v := (vI .i64 f9_p.c)) (x_assign rfl) ?_
   refine wn (hK341_ _ _ ?_)
   refine C_ret ?_
   refine R_any (v := (vI .i64 f9_p.c)) (run_results1 rfl rfl) ⟨_, rfl, ?_⟩
   refine ⟨⟨(And.intro (Holds.rdf H335_ 0 rfl) (Holds.blk H335_ 0 rfl)), Holds.tr_rd H335_ 1 rfl 12 rfl, Holds.tr_rd H335_ 2 rfl 12 rfl, (And.intro (Holds.rdf H335_ 3 rfl) (Holds.blk H335_ 3 rfl)), (And.intro (Holds.rdf H335_ 5 rfl) (Holds.blk H335_ 5 rfl)), Holds.tr_rd H335_ 6 rfl 12 rfl, (And.intro (Holds.rdf H335_ 7 rfl) (Holds.blk H335_ 7 rfl)), Holds.tr_rd H335_ 8 rfl 12 rfl, Holds.tr_rd H335_ 9 rfl 12 rfl, Holds.rd H335_ 11 rfl, (Holds.ro_at H335_ 10 rfl)⟩, ?_⟩
   refine A_tk 9 (v := (vB (decide (f9_p.c = 1)))) rfl (by kernel_rfl) (fun w hS => x_bin rfl rfl rfl) hq336_ ?_
   refine A_done (by kernel_rfl) ?_
   refine (X_then (hK8_ _ _ ?_))
   refine C_cond (b := decide (f9_p.c = 1)) rfl (fun c342_t => ?_) (fun c342_f => ?_)
   ·have c342_tp : f9_p.c = 1 := of_decide_eq_true c342_t
    refine C_skip (X_then (hK7_ _ _ ?_))
    refine C_block ?_
    refine C_seq (fun _ hK343_ => ?_)
    refine A_start (S := fun w => (Rd f9_u.a [f9_u.b, f9_u.e, f9_u.v, f9_u.mx, (vQ (rt sb f9_ul)), (vQ (rt sb f9_ur)), (vQ f9_g.a), (vI .i64 f9_u.c)] w ∧ Blk w f9_u.a) ∧ RtRd w (rt sb f9_ul) (rmx f9_ul) ∧ RtRd w (rt sb f9_ur) (rmx f9_ur) ∧ (Rd f9_g.a [f9_g.b, f9_g.e, f9_g.v, f9_g.mx, (vQ f9_p.a), (vQ f9_u.a), (vQ (pa sb f9_C)), (vI .i64 f9_g.c)] w ∧ Blk w f9_g.a) ∧ (Rd f9_p.a [f9_p.b, f9_p.e, f9_p.v, f9_p.mx, (vQ (rt sb f9_s)), (vQ z.a), (vQ f9_g.a), (vI .i64 f9_p.c)] w ∧ Blk w f9_p.a) ∧ RtRd w (rt sb f9_s) (rmx f9_s) ∧ (Rd z.a [z.b, z.e, z.v, z.mx, (vQ (rt sb zl)), (vQ (rt sb zr)), (vQ f9_p.a), (vI .i64 z.c)] w ∧ Blk w z.a) ∧ RtRd w (rt sb zl) (rmx zl) ∧ RtRd w (rt sb zr) (rmx zr) ∧ Sub R (hp w)) (N := 15) foll rfl rfl ?_
    have H344_ := Holds.drew_ H335_
    have hq345_ := And.intro ((And.intro (Holds.rdf H344_ 0 rfl) (Holds.blk H344_ 0 rfl))) (And.intro (Holds.tr_rd H344_ 1 rfl 12 rfl) (And.intro (Holds.tr_rd H344_ 2 rfl 12 rfl) (And.intro ((And.intro (Holds.rdf H344_ 3 rfl) (Holds.blk H344_ 3 rfl))) (And.intro ((And.intro (Holds.rdf H344_ 5 rfl) (Holds.blk H344_ 5 rfl))) (And.intro (Holds.tr_rd H344_ 6 rfl 12 rfl) (And.intro ((And.intro (Holds.rdf H344_ 7 rfl) (Holds.blk H344_ 7 rfl))) (And.intro (Holds.tr_rd H344_ 8 rfl 12 rfl) (And.intro (Holds.tr_rd H344_ 9 rfl 12 rfl) ((Holds.ro_at H344_ 10 rfl))))))))))
    refine A_tk 0 (v := (vQ z.a)) rfl (by kernel_rfl) (fun w hS => x_move rfl) hq345_ ?_
    refine A_tk 1 (v := (vQ z.a)) rfl (by kernel_rfl) (fun w hS => by kernel_rfl) hq345_ ?_
    refine A_tk 2 (v := (vP (some ⟨z.a, 6, none⟩))) rfl (by kernel_rfl) (fun w hS => by kernel_rfl) hq345_ ?_
    refine A_tk 3 (v := (vQ f9_p.a)) rfl (by kernel_rfl) (fun w hS => x_load1 rfl underlying173 rfl (hS.2.2.2.2.2.2.1.1 6 (vQ f9_p.a) rfl)) hq345_ ?_
    refine A_tk 4 (v := (vQ z.a)) rfl (by kernel_rfl) (fun w hS => x_move rfl) hq345_ ?_
    refine A_tk 5 (v := (vQ z.a)) rfl (by kernel_rfl) (fun w hS => by kernel_rfl) hq345_ ?_
    refine A_tk 6 (v := (vP (some ⟨z.a, 6, none⟩))) rfl (by kernel_rfl) (fun w hS => by kernel_rfl) hq345_ ?_
    refine A_tk 7 (v := (vQ f9_p.a)) rfl (by kernel_rfl) (fun w hS => x_load1 rfl underlying173 rfl (hS.2.2.2.2.2.2.1.1 6 (vQ f9_p.a) rfl)) hq345_ ?_
    refine A_tk 8 (v := (vQ f9_p.a)) rfl (by kernel_rfl) (fun w hS => by kernel_rfl) hq345_ ?_
    refine A_tk 9 (v := (vP (some ⟨f9_p.a, 6, none⟩))) rfl (by kernel_rfl) (fun w hS => by kernel_rfl) hq345_ ?_
    refine A_tk 10 (v := (vQ f9_g.a)) rfl (by kernel_rfl) (fun w hS => x_load1 rfl underlying173 rfl (hS.2.2.2.2.1.1 6 (vQ f9_g.a) rfl)) hq345_ ?_
    refine A_tk 11 (v := (vQ f9_g.a)) rfl (by kernel_rfl) (fun w hS => by kernel_rfl) hq345_ ?_
    refine A_tk 12 (v := (vP (some ⟨f9_g.a, 4, none⟩))) rfl (by kernel_rfl) (fun w hS => by kernel_rfl) hq345_ ?_
    refine A_tk 13 (v := (vQ f9_p.a)) rfl (by kernel_rfl) (fun w hS => x_load1 rfl underlying173 rfl (hS.2.2.2.1.1 4 (vQ f9_p.a) rfl)) hq345_ ?_
    refine A_tk 14 (v := (vB true)) rfl (by kernel_rfl) (fun w hS => x_eqP rfl rfl underlying173 z182) hq345_ ?_
    refine A_done (by kernel_rfl) ?_
    refine (X_then (hK343_ _ _ ?_))
    refine C_condT rfl ?_
    refine cR fun _ hK346_ => ?_
    refine sm (vQ z.a) ?_
    refine sv (v := (vQ z.a)) (by kernel_rfl) ?_
    refine sv (v := (vP (some ⟨z.a, 6, none⟩))) (by kernel_rfl) ?_
    refine sv (v := (vQ f9_p.a)) (x_load1 rfl underlying173 rfl ((Holds.rdf H344_ 7 rfl) 6 (vQ f9_p.a) rfl)) ?_
    refine sv (v := (vQ f9_p.a)) (by kernel_rfl) ?_
    refine sv (v := (vP (some ⟨f9_p.a, 6, none⟩))) (by kernel_rfl) ?_
    refine sv (v := (vQ f9_g.a)) (x_load1 rfl underlying173 rfl ((Holds.rdf H344_ 5 rfl) 6 (vQ f9_g.a) rfl)) ?_
    refine sv (v := (vQ f9_g.a)) (by kernel_rfl) ?_
    refine sv (v := (vP (some ⟨f9_g.a, 5, none⟩))) (by kernel_rfl) ?_
    refine sv (v := (vQ f9_u.a)) (x_load1 rfl underlying173 rfl ((Holds.rdf H344_ 3 rfl) 5 (vQ f9_u.a) rfl)) ?_
    refine sv (v := (vQ f9_u.a)) (x_assign rfl) ?_
    refine wn (hK346_ _ _ ?_)
    refine cR fun _ hK347_ => ?_
    refine sm (vQ f9_u.a) ?_
    refine sm (vQ tb) ?_
    refine sv (v := (vQ tb)) (by kernel_rfl) ?_
    refine sv (v := (vP (some ⟨tb, 2, none⟩))) (by kernel_rfl) ?_
    refine sv (v := (vQ sb)) (x_load1 rfl underlying173 rfl ((Holds.rd H344_ 11 rfl) 2 (vQ sb) rfl)) ?_
    refine S_list (T_callW (al := [(vQ f9_u.a), (vQ sb)]) rfl rfl cb166 (Calls.into (n := 12) func166 rfl ntmps166 rfl rfl ?_))
    refine cR fun _ hK348_ => ?_
    refine sv (v := (vI .i64 0)) (x_assign rfl) ?_
    refine wn (hK348_ _ _ ?_)
    refine C_seq (fun _ hK349_ => ?_)
    refine cR fun _ hK350_ => ?_
    refine sm (vQ f9_u.a) ?_
    refine sm (vQ sb) ?_
    have hpc351_ : f9_u.a ≠ sb := Holds.ne_f H344_ 0 rfl 12 rfl (by decide)
    refine sv (v := (vB false)) (x_cast (x_eqPN rfl rfl underlying173 z182 (by decide) (Holds.blk H344_ 0 rfl) (Holds.blk H344_ 12 rfl)) (congrArg vB (decide_eq_false hpc351_))) ?_
    refine wn (hK350_ _ _ ?_)
    refine C_condF rfl ?_
    refine C_skip (X_then (hK349_ _ _ ?_))
    refine cR fun _ hK352_ => ?_
    refine sm (vQ f9_u.a) ?_
    refine sv (v := (vQ f9_u.a)) (by kernel_rfl) ?_
    refine sv (v := (vP (some ⟨f9_u.a, 7, none⟩))) (by kernel_rfl) ?_
    refine sv (v := (vI .i64 f9_u.c)) (x_load1 rfl underlying180 rfl ((Holds.rdf H344_ 0 rfl) 7 (vI .i64 f9_u.c) rfl)) ?_
    refine sv (v := (vI .i64 f9_u.c)) (x_assign rfl) ?_
    refine wn (hK352_ _ _ ?_)
    refine C_ret ?_
    refine R_any (v := (vI .i64 f9_u.c)) (run_results1 rfl rfl) ⟨_, rfl, ?_⟩
    refine sv (v := (vB (decide (f9_u.c = 1)))) (x_bin rfl rfl rfl) ?_
    refine wn (hK347_ _ _ ?_)
    refine C_cond (b := decide (f9_u.c = 1)) rfl (fun c353_t => ?_) (fun c353_f => ?_)
    ·have c353_tp : f9_u.c = 1 := of_decide_eq_true c353_t
     refine cR fun _ hK354_ => ?_
     refine sm (vQ f9_u.a) ?_
     refine sv (v := (vQ f9_u.a)) (by kernel_rfl) ?_
     refine sv (v := (vP (some ⟨f9_u.a, 7, none⟩))) (by kernel_rfl) ?_
     refine S_list0 (T_store1f (v := (vI .i64 0)) rfl rfl z180 rfl H344_ 0 rfl (Nat.le_of_ble_eq_true (by rfl)) ?_)
     intro w355_ S357_ H356_
     have S358_ := Same.trans (Same.trans (Same.trans S6_ (Same.drew _)) (Same.drew _)) S357_
     refine wn (hK354_ _ _ ?_)
     refine cR fun _ hK359_ => ?_
     refine sm (vQ z.a) ?_
     refine sv (v := (vQ z.a)) (by kernel_rfl) ?_
     refine sv (v := (vP (some ⟨z.a, 6, none⟩))) (by kernel_rfl) ?_
     refine sv (v := (vQ f9_p.a)) (x_load1 rfl underlying173 rfl ((Holds.rdf H356_ 7 rfl) 6 (vQ f9_p.a) rfl)) ?_
     refine sv (v := (vQ f9_p.a)) (by kernel_rfl) ?_
     refine sv (v := (vP (some ⟨f9_p.a, 7, none⟩))) (by kernel_rfl) ?_
     refine S_list0 (T_store1f (v := (vI .i64 0)) rfl rfl z180 rfl H356_ 5 rfl (Nat.le_of_ble_eq_true (by rfl)) ?_)
     intro w360_ S362_ H361_
     have S363_ := Same.trans S358_ S362_
     refine wn (hK359_ _ _ ?_)
     refine cR fun _ hK364_ => ?_
     refine sm (vQ z.a) ?_
     refine sv (v := (vQ z.a)) (by kernel_rfl) ?_
     refine sv (v := (vP (some ⟨z.a, 6, none⟩))) (by kernel_rfl) ?_
     refine sv (v := (vQ f9_p.a)) (x_load1 rfl underlying173 rfl ((Holds.rdf H361_ 7 rfl) 6 (vQ f9_p.a) rfl)) ?_
     refine sv (v := (vQ f9_p.a)) (by kernel_rfl) ?_
     refine sv (v := (vP (some ⟨f9_p.a, 6, none⟩))) (by kernel_rfl) ?_
     refine sv (v := (vQ f9_g.a)) (x_load1 rfl underlying173 rfl ((Holds.rdf H361_ 5 rfl) 6 (vQ f9_g.a) rfl)) ?_
     refine sv (v := (vQ f9_g.a)) (by kernel_rfl) ?_
     refine sv (v := (vP (some ⟨f9_g.a, 7, none⟩))) (by kernel_rfl) ?_
     refine S_list0 (T_store1f (v := (vI .i64 1)) rfl rfl z180 rfl H361_ 3 rfl (Nat.le_of_ble_eq_true (by rfl)) ?_)
     intro w365_ S367_ H366_
     have S368_ := Same.trans S363_ S367_
     refine wn (hK364_ _ _ ?_)
     refine C_reg ?_
     refine sm (vQ z.a) ?_
     refine sv (v := (vQ z.a)) (by kernel_rfl) ?_
     refine sv (v := (vP (some ⟨z.a, 6, none⟩))) (by kernel_rfl) ?_
     refine sv (v := (vQ f9_p.a)) (x_load1 rfl underlying173 rfl ((Holds.rdf H366_ 7 rfl) 6 (vQ f9_p.a) rfl)) ?_
     refine sv (v := (vQ f9_p.a)) (by kernel_rfl) ?_
     refine sv (v := (vP (some ⟨f9_p.a, 6, none⟩))) (by kernel_rfl) ?_
     refine sv (v := (vQ f9_g.a)) (x_load1 rfl underlying173 rfl ((Holds.rdf H366_ 5 rfl) 6 (vQ f9_g.a) rfl)) ?_
     refine sv (v := (vQ f9_g.a)) (x_assign rfl) ?_
     refine wpList_nil (X_blkN (X_then ?_))
     have H369_ := ((Holds.bring (Holds.bring (Holds.bring H366_ 9 rfl) 9 rfl) 9 rfl) :)
     have H370_ := Holds.nd_tr (n := z) (a := zl) (b := zr) H369_
     have H371_ := ((Holds.bring (Holds.bring H370_ 7 rfl) 7 rfl) :)
     have H372_ := Holds.nd_tr (n := (f9_p.setc 0)) (a := f9_s) (b := (Tr.nd z zl zr)) H371_
     have H373_ := ((Holds.bring (Holds.bring (Holds.bring H372_ 3 rfl) 3 rfl) 3 rfl) :)
     have H374_ := Holds.nd_tr (n := (f9_u.setc 0)) (a := f9_ul) (b := f9_ur) H373_
     have H375_ := ((Holds.bring (Holds.bring H374_ 1 rfl) 2 rfl) :)
     have H376_ := Holds.nd_tr (n := (f9_g.setc 1)) (a := (Tr.nd (f9_p.setc 0) f9_s (Tr.nd z zl zr))) (b := (Tr.nd (f9_u.setc 0) f9_ul f9_ur)) H375_
     have hI5 : FxI O R L f9_C (Tr.nd (f9_g.setc 1) (Tr.nd (f9_p.setc 0) f9_s (Tr.nd z zl zr)) (Tr.nd (f9_u.setc 0) f9_ul f9_ur)) := FxI.col 1 (show FxI O R L f9_C (Tr.nd f9_g (Tr.nd (f9_p.setc 0) f9_s (Tr.nd z zl zr)) (Tr.nd (f9_u.setc 0) f9_ul f9_ur)) from FxI.up (FxI.colo 0 (FxI.col 0 (show FxI O R L ((⟨true, f9_g, (Tr.nd f9_u f9_ul f9_ur)⟩ : Fr K) :: f9_C) (Tr.nd f9_p f9_s (Tr.nd z zl zr)) from FxI.up hI1))))
     have H377_ := H376_
     have H378_ := Holds.pkF H377_ [2, 2, 0, 0, 0] 0
     exact ⟨⟨(f9_g.setc 1), (Tr.nd (f9_p.setc 0) f9_s (Tr.nd z zl zr)), (Tr.nd (f9_u.setc 0) f9_ul f9_ur), f9_C⟩, ⟨_, congrArg (fun e => mkA 201 e []) (ch (ch rfl rfl) ((by first | rfl | omega | (simp; done) | (simp; omega)) : (vQ f9_g.a) = (vQ ((f9_g.setc 1).a)))), H378_, S368_, (hI5)⟩, (by first | (simp [rC3_len]; done) | (simp [rC3_len]; omega))⟩
    ·have c353_fp : ¬ (f9_u.c = 1) := of_decide_eq_false c353_f
     refine C_seq (fun _ hK379_ => ?_)
     refine cR fun _ hK380_ => ?_
     refine sm (vQ z.a) ?_
     refine sm (vQ z.a) ?_
     refine sv (v := (vQ z.a)) (by kernel_rfl) ?_
     refine sv (v := (vP (some ⟨z.a, 6, none⟩))) (by kernel_rfl) ?_
     refine sv (v := (vQ f9_p.a)) (x_load1 rfl underlying173 rfl ((Holds.rdf H344_ 7 rfl) 6 (vQ f9_p.a) rfl)) ?_
     refine sv (v := (vQ f9_p.a)) (by kernel_rfl) ?_
     refine sv (v := (vP (some ⟨f9_p.a, 5, none⟩))) (by kernel_rfl) ?_
     refine sv (v := (vQ z.a)) (x_load1 rfl underlying173 rfl ((Holds.rdf H344_ 5 rfl) 5 (vQ z.a) rfl)) ?_
     refine sv (v := (vB true)) (x_eqP rfl rfl underlying173 z182) ?_
     refine wn (hK380_ _ _ ?_)
     refine C_condT rfl ?_
     refine cR fun _ hK381_ => ?_
     refine sm (vQ z.a) ?_
     refine sv (v := (vQ z.a)) (by kernel_rfl) ?_
     refine sv (v := (vP (some ⟨z.a, 6, none⟩))) (by kernel_rfl) ?_
     refine sv (v := (vQ f9_p.a)) (x_load1 rfl underlying173 rfl ((Holds.rdf H344_ 7 rfl) 6 (vQ f9_p.a) rfl)) ?_
     refine sv (v := (vQ f9_p.a)) (x_assign rfl) ?_
     refine wn (hK381_ _ _ ?_)
     refine C_reg ?_
     refine sm (vQ tb) ?_
     refine sm (vQ f9_p.a) ?_
     have H382_ := ((Holds.bring (Holds.bring (Holds.bring H344_ 9 rfl) 9 rfl) 9 rfl) :)
     have H383_ := Holds.nd_tr (n := z) (a := zl) (b := zr) H382_
     have H384_ := ((Holds.bring (Holds.bring (Holds.bring H383_ 3 rfl) 3 rfl) 3 rfl) :)
     have H385_ := Holds.nd_tr (n := f9_u) (a := f9_ul) (b := f9_ur) H384_
     have H386_ := ((Holds.bring (Holds.bring (Holds.bring H385_ 1 rfl) 5 rfl) 5 rfl) :)
     have H387_ := Holds.nd_tr (n := f9_p) (a := f9_s) (b := (Tr.nd z zl zr)) H386_
     have H388_ := ((Holds.bring (Holds.bring (Holds.bring H387_ 3 rfl) 2 rfl) 3 rfl) :)
     have H389_ := Holds.cons_cx (sb := sb) (f := (⟨true, f9_g, (Tr.nd f9_u f9_ul f9_ur)⟩ : Fr K)) (C := f9_C) (x := f9_p.a) H388_
     have H390_ := H389_
     have H392_ := ((Holds.bring (Holds.bring (Holds.bring (Holds.bring (Holds.bring H390_ 4 rfl) 1 rfl) 2 rfl) 4 rfl) 4 rfl) :)
     refine S_list (T_call (al := [(vQ tb), (vQ f9_p.a)]) (pre := [cl tb 185 [(vP (some ⟨(ra f9_p.a ((⟨true, f9_g, (Tr.nd f9_u f9_ul f9_ur)⟩ : Fr K) :: f9_C)), 0, none⟩)), (vI .i64 cnt), (vQ sb)], tr sb (pa sb ((⟨true, f9_g, (Tr.nd f9_u f9_ul f9_ur)⟩ : Fr K) :: f9_C)) (Tr.nd f9_p f9_s (Tr.nd z zl zr)), cx sb f9_p.a ((⟨true, f9_g, (Tr.nd f9_u f9_ul f9_ur)⟩ : Fr K) :: f9_C), clf sb 182 sc]) rfl rfl cb175 (itRotL R K O tb sb cnt sc f9_p z f9_s zl zr ((⟨true, f9_g, (Tr.nd f9_u f9_ul f9_ur)⟩ : Fr K) :: f9_C) ((FxI.up hI1).ck) ((FxI.up hI1).tk)) H392_ ?_)
     rintro v391_ p396_ w393_ ⟨rfl, rfl⟩ S395_ H394_
     have S397_ := Same.trans (Same.trans (Same.trans S6_ (Same.drew _)) (Same.drew _)) S395_
     have hI2 := FxI.rot (d := true) (x := f9_p) (y := z) (A := f9_s) (B := zl) (D := zr) (FxI.up hI1)
     have hra_ := fun q => ra_rC3 (O := O) true f9_p z f9_s zl zr ((⟨true, f9_g, (Tr.nd f9_u f9_ul f9_ur)⟩ : Fr K) :: f9_C) q
     obtain ⟨m398_, C399_, hC400_⟩ := rC3_cons O true f9_p z f9_s zl zr (⟨true, f9_g, (Tr.nd f9_u f9_ul f9_ur)⟩ : Fr K) f9_C
     have H401_ := H394_; rw [← hra_] at H401_; rw [hC400_] at H401_ hI2
     have H402_ := H401_
     have hlen_ : C399_.length = f9_C.length := by have := congrArg List.length hC400_; rw [rC3_len] at this; simpa using this.symm
     have H403_ := H402_
     have H404_ := ((Holds.bring H403_ 3 rfl) :)
     have H405_ := Holds.cx_cons H404_
     have H406_ := ((Holds.bring H405_ 5 rfl) :)
     have H407_ := Holds.tr_nd H406_
     have H408_ := ((Holds.bring H407_ 1 rfl) :)
     have H409_ := Holds.tr_nd H408_
     refine wn (hK379_ _ _ ?_)
     refine cR fun _ hK410_ => ?_
     refine sm (vQ f9_p.a) ?_
     refine sv (v := (vQ f9_p.a)) (by kernel_rfl) ?_
     refine sv (v := (vP (some ⟨f9_p.a, 6, none⟩))) (by kernel_rfl) ?_
     refine sv (v := (vQ z.a)) (x_load1 rfl underlying173 rfl ((Holds.rdf H409_ 0 rfl) 6 (vQ z.a) rfl)) ?_
     refine sv (v := (vQ z.a)) (by kernel_rfl) ?_
     refine sv (v := (vP (some ⟨z.a, 7, none⟩))) (by kernel_rfl) ?_
     refine S_list0 (T_store1f (v := (vI .i64 0)) rfl rfl z180 rfl H409_ 3 rfl (Nat.le_of_ble_eq_true (by rfl)) ?_)
     intro w411_ S413_ H412_
     have S414_ := Same.trans S397_ S413_
     refine wn (hK410_ _ _ ?_)
     refine cR fun _ hK415_ => ?_
     refine sm (vQ f9_p.a) ?_
     refine sv (v := (vQ f9_p.a)) (by kernel_rfl) ?_
     refine sv (v := (vP (some ⟨f9_p.a, 6, none⟩))) (by kernel_rfl) ?_
     refine sv (v := (vQ z.a)) (x_load1 rfl underlying173 rfl ((Holds.rdf H412_ 0 rfl) 6 (vQ z.a) rfl)) ?_
     refine sv (v := (vQ z.a)) (by kernel_rfl) ?_
     refine sv (v := (vP (some ⟨z.a, 6, none⟩))) (by kernel_rfl) ?_
     refine sv (v := (vQ f9_g.a)) (x_load1 rfl underlying173 rfl ((Holds.rdf H412_ 3 rfl) 6 (vQ f9_g.a) rfl)) ?_
     refine sv (v := (vQ f9_g.a)) (by kernel_rfl) ?_
     refine sv (v := (vP (some ⟨f9_g.a, 7, none⟩))) (by kernel_rfl) ?_
     refine S_list0 (T_store1f (v := (vI .i64 1)) rfl rfl z180 rfl H412_ 5 rfl (Nat.le_of_ble_eq_true (by rfl)) ?_)
     intro w416_ S418_ H417_
     have S419_ := Same.trans S414_ S418_
     refine wn (hK415_ _ _ ?_)
     refine C_reg ?_
     refine sm (vQ tb) ?_
     refine sm (vQ f9_p.a) ?_
     refine sv (v := (vQ f9_p.a)) (by kernel_rfl) ?_
     refine sv (v := (vP (some ⟨f9_p.a, 6, none⟩))) (by kernel_rfl) ?_
     refine sv (v := (vQ z.a)) (x_load1 rfl underlying173 rfl ((Holds.rdf H417_ 0 rfl) 6 (vQ z.a) rfl)) ?_
     refine sv (v := (vQ z.a)) (by kernel_rfl) ?_
     refine sv (v := (vP (some ⟨z.a, 6, none⟩))) (by kernel_rfl) ?_
     refine sv (v := (vQ f9_g.a)) (x_load1 rfl underlying173 rfl ((Holds.rdf H417_ 3 rfl) 6 (vQ f9_g.a) rfl)) ?_
     have H420_ := Holds.nd_tr (n := (f9_p.setmx (rV1 O true f9_p f9_s zl))) (a := f9_s) (b := zl) H417_
     have H421_ := ((Holds.bring (Holds.bring (Holds.bring H420_ 2 rfl) 1 rfl) 2 rfl) :)
     have H422_ := Holds.nd_tr (n := ((z.setmx (rV2 O true f9_p z f9_s zl zr)).setc 0)) (a := (Tr.nd (f9_p.setmx (rV1 O true f9_p f9_s zl)) f9_s zl)) (b := zr) H421_
     have H423_ := ((Holds.bring (Holds.bring (Holds.bring H422_ 2 rfl) 1 rfl) 2 rfl) :)
     have H424_ := Holds.nd_tr (n := ((f9_g.setmx m398_).setc 1)) (a := (Tr.nd ((z.setmx (rV2 O true f9_p z f9_s zl zr)).setc 0) (Tr.nd (f9_p.setmx (rV1 O true f9_p f9_s zl)) f9_s zl) zr)) (b := (Tr.nd f9_u f9_ul f9_ur)) H423_
     have H425_ := H424_
     have hI3 : FxI O R L C399_ (rOr false ((f9_g.setmx m398_).setc 1) ((z.setmx (rV2 O true f9_p z f9_s zl zr)).setc 0) (Tr.nd f9_u f9_ul f9_ur) zr (Tr.nd (f9_p.setmx (rV1 O true f9_p f9_s zl)) f9_s zl)) := FxI.col 1 (show FxI O R L C399_ (Tr.nd (f9_g.setmx m398_) (Tr.nd ((z.setmx (rV2 O true f9_p z f9_s zl zr)).setc 0) (Tr.nd (f9_p.setmx (rV1 O true f9_p f9_s zl)) f9_s zl) zr) (Tr.nd f9_u f9_ul f9_ur)) from FxI.up (FxI.col 0 (show FxI O R L ((⟨true, f9_g, (Tr.nd f9_u f9_ul f9_ur)⟩ : Fr K).setmx m398_ :: C399_) (Tr.nd (z.setmx (rV2 O true f9_p z f9_s zl zr)) (Tr.nd (f9_p.setmx (rV1 O true f9_p f9_s zl)) f9_s zl) zr) from hI2)))
     have H427_ := ((Holds.bring (Holds.bring (Holds.bring (Holds.bring (Holds.bring H425_ 4 rfl) 2 rfl) 2 rfl) 4 rfl) 4 rfl) :)
     refine S_list (T_call (al := [(vQ tb), (vQ (((f9_g.setmx m398_).setc 1).a))]) (pre := [cl tb 185 [(vQ ((ra ((f9_g.setmx m398_).setc 1).a C399_))), (vI .i64 cnt), (vQ sb)], tr sb (pa sb C399_) (Tr.nd ((f9_g.setmx m398_).setc 1) (Tr.nd ((z.setmx (rV2 O true f9_p z f9_s zl zr)).setc 0) (Tr.nd (f9_p.setmx (rV1 O true f9_p f9_s zl)) f9_s zl) zr) (Tr.nd f9_u f9_ul f9_ur)), cx sb (((f9_g.setmx m398_).setc 1).a) C399_, clf sb 182 sc]) rfl (lcons rfl (lcons ((by first | rfl | omega | (simp; done) | (simp; omega)) : (vQ f9_g.a) = (vQ (((f9_g.setmx m398_).setc 1).a))) rfl)) cb176 (itRotR R K O tb sb cnt sc ((f9_g.setmx m398_).setc 1) ((z.setmx (rV2 O true f9_p z f9_s zl zr)).setc 0) (Tr.nd f9_u f9_ul f9_ur) zr (Tr.nd (f9_p.setmx (rV1 O true f9_p f9_s zl)) f9_s zl) C399_ (hI3.ck) (hI3.tk)) H427_ ?_)
     rintro v426_ p431_ w428_ ⟨rfl, rfl⟩ S430_ H429_
     have S432_ := Same.trans S419_ S430_
     have hI4 := FxI.rot hI3
     have hI5 : FxI O R L ((⟨true, (((z.setmx (rV2 O true f9_p z f9_s zl zr)).setc 0).setmx (rV2 O false ((f9_g.setmx m398_).setc 1) ((z.setmx (rV2 O true f9_p z f9_s zl zr)).setc 0) (Tr.nd f9_u f9_ul f9_ur) zr (Tr.nd (f9_p.setmx (rV1 O true f9_p f9_s zl)) f9_s zl))), (rTx O false ((f9_g.setmx m398_).setc 1) (Tr.nd f9_u f9_ul f9_ur) zr)⟩ : Fr K) :: (rC3 O false ((f9_g.setmx m398_).setc 1) ((z.setmx (rV2 O true f9_p z f9_s zl zr)).setc 0) (Tr.nd f9_u f9_ul f9_ur) zr (Tr.nd (f9_p.setmx (rV1 O true f9_p f9_s zl)) f9_s zl) C399_)) (Tr.nd (f9_p.setmx (rV1 O true f9_p f9_s zl)) f9_s zl) := FxI.down (f := (⟨true, (((z.setmx (rV2 O true f9_p z f9_s zl zr)).setc 0).setmx (rV2 O false ((f9_g.setmx m398_).setc 1) ((z.setmx (rV2 O true f9_p z f9_s zl zr)).setc 0) (Tr.nd f9_u f9_ul f9_ur) zr (Tr.nd (f9_p.setmx (rV1 O true f9_p f9_s zl)) f9_s zl))), (rTx O false ((f9_g.setmx m398_).setc 1) (Tr.nd f9_u f9_ul f9_ur) zr)⟩ : Fr K)) hI4 (fun _ => rfl)
     have H433_ := H429_; rw [← pa_rC3 (O := O) sb false ((f9_g.setmx m398_).setc 1) ((z.setmx (rV2 O true f9_p z f9_s zl zr)).setc 0) (Tr.nd f9_u f9_ul f9_ur) zr (Tr.nd (f9_p.setmx (rV1 O true f9_p f9_s zl)) f9_s zl) C399_, ← ra_rC3 (O := O) false ((f9_g.setmx m398_).setc 1) ((z.setmx (rV2 O true f9_p z f9_s zl zr)).setc 0) (Tr.nd f9_u f9_ul f9_ur) zr (Tr.nd (f9_p.setmx (rV1 O true f9_p f9_s zl)) f9_s zl) C399_] at H433_
     have H434_ := H433_
     have H435_ := H434_
     have H436_ := ((Holds.bring H435_ 2 rfl) :)
     have H437_ := Holds.tr_nd H436_
     have H438_ := ((Holds.bring (Holds.bring (Holds.bring H437_ 5 rfl) 3 rfl) 2 rfl) :)
     have H439_ := Holds.cons_cx (sb := sb) (f := (⟨true, (((z.setmx (rV2 O true f9_p z f9_s zl zr)).setc 0).setmx (rV2 O false ((f9_g.setmx m398_).setc 1) ((z.setmx (rV2 O true f9_p z f9_s zl zr)).setc 0) (Tr.nd f9_u f9_ul f9_ur) zr (Tr.nd (f9_p.setmx (rV1 O true f9_p f9_s zl)) f9_s zl))), (rTx O false ((f9_g.setmx m398_).setc 1) (Tr.nd f9_u f9_ul f9_ur) zr)⟩ : Fr K)) (C := (rC3 O false ((f9_g.setmx m398_).setc 1) ((z.setmx (rV2 O true f9_p z f9_s zl zr)).setc 0) (Tr.nd f9_u f9_ul f9_ur) zr (Tr.nd (f9_p.setmx (rV1 O true f9_p f9_s zl)) f9_s zl) C399_)) (x := f9_p.a) H438_
     refine wpList_nil (X_blkN (X_then ?_))
     have H440_ := H439_
     have H441_ := Holds.pkF H440_ [2, 2, 1, 0, 0] 0
     exact ⟨⟨(f9_p.setmx (rV1 O true f9_p f9_s zl)), f9_s, zl, ((⟨true, (((z.setmx (rV2 O true f9_p z f9_s zl zr)).setc 0).setmx (rV2 O false ((f9_g.setmx m398_).setc 1) ((z.setmx (rV2 O true f9_p z f9_s zl zr)).setc 0) (Tr.nd f9_u f9_ul f9_ur) zr (Tr.nd (f9_p.setmx (rV1 O true f9_p f9_s zl)) f9_s zl))), (rTx O false ((f9_g.setmx m398_).setc 1) (Tr.nd f9_u f9_ul f9_ur) zr)⟩ : Fr K) :: (rC3 O false ((f9_g.setmx m398_).setc 1) ((z.setmx (rV2 O true f9_p z f9_s zl zr)).setc 0) (Tr.nd f9_u f9_ul f9_ur) zr (Tr.nd (f9_p.setmx (rV1 O true f9_p f9_s zl)) f9_s zl) C399_))⟩, ⟨_, congrArg (fun e => mkA 201 e []) (ch (ch rfl rfl) ((by first | rfl | omega | (simp; done) | (simp; omega)) : (vQ f9_p.a) = (vQ ((f9_p.setmx (rV1 O true f9_p f9_s zl)).a)))), H441_, S432_, (hI5)⟩, (by first | (simp [rC3_len]; done) | (simp [rC3_len]; omega))⟩
   ·have c342_fp : ¬ (f9_p.c = 1) := of_decide_eq_false c342_f
    refine C_exit (X_thenX (X_thenX (X_blkHit ?_)))
    refine (X_then ?_)
    have H442_ := ((Holds.bring (Holds.bring (Holds.bring H335_ 9 rfl) 9 rfl) 9 rfl) :)
    have H443_ := Holds.nd_tr (n := z) (a := zl) (b := zr) H442_
    have H444_ := ((Holds.bring (Holds.bring (Holds.bring H443_ 3 rfl) 3 rfl) 3 rfl) :)
    have H445_ := Holds.nd_tr (n := f9_u) (a := f9_ul) (b := f9_ur) H444_
    have H446_ := ((Holds.bring (Holds.bring (Holds.bring H445_ 3 rfl) 1 rfl) 3 rfl) :)
    have H447_ := Holds.cons_cx (sb := sb) (f := (⟨true, f9_g, (Tr.nd f9_u f9_ul f9_ur)⟩ : Fr K)) (C := f9_C) (x := f9_p.a) H446_
    have H448_ := ((Holds.bring (Holds.bring H447_ 3 rfl) 3 rfl) :)
    have H449_ := Holds.cons_cx (sb := sb) (f := (⟨false, f9_p, f9_s⟩ : Fr K)) (C := ((⟨true, f9_g, (Tr.nd f9_u f9_ul f9_ur)⟩ : Fr K) :: f9_C)) (x := z.a) H448_
    have H450_ := H449_
    have H451_ := ((Holds.bring H450_ 1 rfl) :)
    have H452_ := Holds.plug_in (C := ((⟨false, f9_p, f9_s⟩ : Fr K) :: ((⟨true, f9_g, (Tr.nd f9_u f9_ul f9_ur)⟩ : Fr K) :: f9_C))) (t := (Tr.nd z zl zr)) H451_
    have H453_ : Holds w4_.drew (tr sb sb (plug ((⟨false, f9_p, f9_s⟩ : Fr K) :: ((⟨true, f9_g, (Tr.nd f9_u f9_ul f9_ur)⟩ : Fr K) :: f9_C)) (Tr.nd z zl zr)) :: ro R :: cl tb 185 [(vP (some ⟨(ra z.a ((⟨false, f9_p, f9_s⟩ : Fr K) :: ((⟨true, f9_g, (Tr.nd f9_u f9_ul f9_ur)⟩ : Fr K) :: f9_C))), 0, none⟩)), (vI .i64 cnt), (vQ sb)] :: clf sb 182 sc :: F) := (H452_)
    rw [show ra z.a ((⟨false, f9_p, f9_s⟩ : Fr K) :: ((⟨true, f9_g, (Tr.nd f9_u f9_ul f9_ur)⟩ : Fr K) :: f9_C)) = rt sb (plug ((⟨false, f9_p, f9_s⟩ : Fr K) :: ((⟨true, f9_g, (Tr.nd f9_u f9_ul f9_ur)⟩ : Fr K) :: f9_C)) (Tr.nd z zl zr)) from (rt_plug sb ((⟨false, f9_p, f9_s⟩ : Fr K) :: ((⟨true, f9_g, (Tr.nd f9_u f9_ul f9_ur)⟩ : Fr K) :: f9_C)) z zl zr).symm] at H453_
    have H454_ := H453_
    have H455_ := Holds.pkF H454_ [1, 1, 0, 0] 0
    exact ⟨(plug ((⟨false, f9_p, f9_s⟩ : Fr K) :: ((⟨true, f9_g, (Tr.nd f9_u f9_ul f9_ur)⟩ : Fr K) :: f9_C)) (Tr.nd z zl zr)), _, congrArg (fun e => mkA 201 e []) (ch rfl rfl), H455_, (Same.trans S6_ (Same.drew _)), (FxI.plug hI1), (plug_nd _ _ _ _)⟩
  ·skip
   have H456_ := H5_
   have H457_ := ((Holds.bring H456_ 2 rfl) :)
   have H458_ := Holds.tr_nd H457_
   have H459_ := ((Holds.bring H458_ 5 rfl) :)
   have H460_ := Holds.cx_cons H459_
   have htop_ : f9_p.c = 0 := hI1.top.1 rfl
   refine A_start (S := fun w => (Rd f9_p.a [f9_p.b, f9_p.e, f9_p.v, f9_p.mx, (vQ z.a), (vQ (rt sb f9_s)), (vQ sb), (vI .i64 f9_p.c)] w ∧ Blk w f9_p.a) ∧ RtRd w (rt sb f9_s) (rmx f9_s) ∧ (Rd z.a [z.b, z.e, z.v, z.mx, (vQ (rt sb zl)), (vQ (rt sb zr)), (vQ f9_p.a), (vI .i64 z.c)] w ∧ Blk w z.a) ∧ RtRd w (rt sb zl) (rmx zl) ∧ RtRd w (rt sb zr) (rmx zr) ∧ Rd tb [(vQ f9_p.a), (vI .i64 cnt), (vQ sb)] w ∧ Sub R (hp w)) (N := 10) foll rfl rfl ?_
   have H461_ := Holds.drew_ H460_
   have hq462_ := And.intro ((And.intro (Holds.rdf H461_ 0 rfl) (Holds.blk H461_ 0 rfl))) (And.intro (Holds.tr_rd H461_ 1 rfl 8 rfl) (And.intro ((And.intro (Holds.rdf H461_ 3 rfl) (Holds.blk H461_ 3 rfl))) (And.intro (Holds.tr_rd H461_ 4 rfl 8 rfl) (And.intro (Holds.tr_rd H461_ 5 rfl 8 rfl) (And.intro (Holds.rd H461_ 7 rfl) ((Holds.ro_at H461_ 6 rfl)))))))
   refine A_tk 0 (v := (vQ z.a)) rfl (by kernel_rfl) (fun w hS => x_move rfl) hq462_ ?_
   refine A_tk 1 (v := (vQ z.a)) rfl (by kernel_rfl) (fun w hS => by kernel_rfl) hq462_ ?_
   refine A_tk 2 (v := (vP (some ⟨z.a, 6, none⟩))) rfl (by kernel_rfl) (fun w hS => by kernel_rfl) hq462_ ?_
   refine A_tk 3 (v := (vQ f9_p.a)) rfl (by kernel_rfl) (fun w hS => x_load1 rfl underlying173 rfl (hS.2.2.1.1 6 (vQ f9_p.a) rfl)) hq462_ ?_
   refine A_tk 4 (v := (vQ tb)) rfl (by kernel_rfl) (fun w hS => x_move rfl) hq462_ ?_
   refine A_tk 5 (v := (vQ tb)) rfl (by kernel_rfl) (fun w hS => by kernel_rfl) hq462_ ?_
   refine A_tk 6 (v := (vP (some ⟨tb, 2, none⟩))) rfl (by kernel_rfl) (fun w hS => by kernel_rfl) hq462_ ?_
   refine A_tk 7 (v := (vQ sb)) rfl (by kernel_rfl) (fun w hS => x_load1 rfl underlying173 rfl (hS.2.2.2.2.2.1 2 (vQ sb) rfl)) hq462_ ?_
   refine A_ready (i := 8) (rs := []) (by kernel_rfl) ?_
   refine AllR.cons ?_ AllR.nil
   refine A_op (ls' := #[true, true, true, true, true, true, true, true, true, false]) rfl (by kernel_rfl) (T_callW (al := [(vQ f9_p.a), (vQ sb)]) rfl rfl cb166 (Calls.into (n := 12) func166 rfl ntmps166 rfl rfl ?_))
   refine cR fun _ hK463_ => ?_
   refine sv (v := (vI .i64 0)) (x_assign rfl) ?_
   refine wn (hK463_ _ _ ?_)
   refine C_seq (fun _ hK464_ => ?_)
   refine cR fun _ hK465_ => ?_
   refine sm (vQ f9_p.a) ?_
   refine sm (vQ sb) ?_
   have hpc466_ : f9_p.a ≠ sb := Holds.ne_f H461_ 0 rfl 8 rfl (by decide)
   refine sv (v := (vB false)) (x_cast (x_eqPN rfl rfl underlying173 z182 (by decide) (Holds.blk H461_ 0 rfl) (Holds.blk H461_ 8 rfl)) (congrArg vB (decide_eq_false hpc466_))) ?_
   refine wn (hK465_ _ _ ?_)
   refine C_condF rfl ?_
   refine C_skip (X_then (hK464_ _ _ ?_))
   refine cR fun _ hK467_ => ?_
   refine sm (vQ f9_p.a) ?_
   refine sv (v := (vQ f9_p.a)) (by kernel_rfl) ?_
   refine sv (v := (vP (some ⟨f9_p.a, 7, none⟩))) (by kernel_rfl) ?_
   refine sv (v := (vI .i64 f9_p.c)) (x_load1 rfl underlying180 rfl ((Holds.rdf H461_ 0 rfl) 7 (vI .i64 f9_p.c) rfl)) ?_
   refine sv (v := (vI .i64 f9_p.c)) (x_assign rfl) ?_
   refine wn (hK467_ _ _ ?_)
   refine C_ret ?_
   refine R_any (v := (vI .i64 f9_p.c)) (run_results1 rfl rfl) ⟨_, rfl, ?_⟩
   refine ⟨⟨(And.intro (Holds.rdf H461_ 0 rfl) (Holds.blk H461_ 0 rfl)), Holds.tr_rd H461_ 1 rfl 8 rfl, (And.intro (Holds.rdf H461_ 3 rfl) (Holds.blk H461_ 3 rfl)), Holds.tr_rd H461_ 4 rfl 8 rfl, Holds.tr_rd H461_ 5 rfl 8 rfl, Holds.rd H461_ 7 rfl, (Holds.ro_at H461_ 6 rfl)⟩, ?_⟩
   refine A_tk 9 (v := (vB (decide (f9_p.c = 1)))) rfl (by kernel_rfl) (fun w hS => x_bin rfl rfl rfl) hq462_ ?_
   refine A_done (by kernel_rfl) ?_
   refine (X_then (hK8_ _ _ ?_))
   refine C_cond (b := decide (f9_p.c = 1)) rfl (fun c468_t => ?_) (fun c468_f => ?_)
   ·have c468_tp : f9_p.c = 1 := of_decide_eq_true c468_t
    omega
   ·have c468_fp : ¬ (f9_p.c = 1) := of_decide_eq_false c468_f
    refine C_exit (X_thenX (X_thenX (X_blkHit ?_)))
    refine (X_then ?_)
    have H469_ := ((Holds.bring (Holds.bring (Holds.bring H461_ 5 rfl) 5 rfl) 5 rfl) :)
    have H470_ := Holds.nd_tr (n := z) (a := zl) (b := zr) H469_
    have H471_ := ((Holds.bring (Holds.bring (Holds.bring H470_ 3 rfl) 3 rfl) 3 rfl) :)
    have H472_ := Holds.cons_cx (sb := sb) (f := (⟨true, f9_p, f9_s⟩ : Fr K)) (C := ([] : List (Fr K))) (x := z.a) H471_
    have H473_ := H472_
    have H474_ := ((Holds.bring H473_ 1 rfl) :)
    have H475_ := Holds.plug_in (C := ((⟨true, f9_p, f9_s⟩ : Fr K) :: ([] : List (Fr K)))) (t := (Tr.nd z zl zr)) H474_
    have H476_ : Holds w4_.drew (tr sb sb (plug ((⟨true, f9_p, f9_s⟩ : Fr K) :: ([] : List (Fr K))) (Tr.nd z zl zr)) :: ro R :: cl tb 185 [(vP (some ⟨(ra z.a ((⟨true, f9_p, f9_s⟩ : Fr K) :: ([] : List (Fr K)))), 0, none⟩)), (vI .i64 cnt), (vQ sb)] :: clf sb 182 sc :: F) := (H475_)
    rw [show ra z.a ((⟨true, f9_p, f9_s⟩ : Fr K) :: ([] : List (Fr K))) = rt sb (plug ((⟨true, f9_p, f9_s⟩ : Fr K) :: ([] : List (Fr K))) (Tr.nd z zl zr)) from (rt_plug sb ((⟨true, f9_p, f9_s⟩ : Fr K) :: ([] : List (Fr K))) z zl zr).symm] at H476_
    have H477_ := H476_
    have H478_ := Holds.pkF H477_ [1, 1, 0, 0] 0
    exact ⟨(plug ((⟨true, f9_p, f9_s⟩ : Fr K) :: ([] : List (Fr K))) (Tr.nd z zl zr)), _, congrArg (fun e => mkA 201 e []) (ch rfl rfl), H478_, (Same.trans S6_ (Same.drew _)), (FxI.plug hI1), (plug_nd _ _ _ _)⟩
  ·skip
   have H479_ := H5_
   have H480_ := ((Holds.bring H479_ 2 rfl) :)
   have H481_ := Holds.tr_nd H480_
   have H482_ := ((Holds.bring H481_ 5 rfl) :)
   have H483_ := Holds.cx_cons H482_
   have H484_ := ((Holds.bring H483_ 2 rfl) :)
   have H485_ := Holds.cx_cons H484_
   refine A_start (S := fun w => (Rd f9_g.a [f9_g.b, f9_g.e, f9_g.v, f9_g.mx, (vQ sb), (vQ f9_p.a), (vQ (pa sb f9_C)), (vI .i64 f9_g.c)] w ∧ Blk w f9_g.a) ∧ RtRd w (rt sb (Tr.lf : Tr K)) (rmx (Tr.lf : Tr K)) ∧ (Rd f9_p.a [f9_p.b, f9_p.e, f9_p.v, f9_p.mx, (vQ z.a), (vQ (rt sb f9_s)), (vQ f9_g.a), (vI .i64 f9_p.c)] w ∧ Blk w f9_p.a) ∧ RtRd w (rt sb f9_s) (rmx f9_s) ∧ (Rd z.a [z.b, z.e, z.v, z.mx, (vQ (rt sb zl)), (vQ (rt sb zr)), (vQ f9_p.a), (vI .i64 z.c)] w ∧ Blk w z.a) ∧ RtRd w (rt sb zl) (rmx zl) ∧ RtRd w (rt sb zr) (rmx zr) ∧ Rd tb [(vQ (ra f9_g.a f9_C)), (vI .i64 cnt), (vQ sb)] w ∧ Sub R (hp w)) (N := 10) foll rfl rfl ?_
   have H486_ := Holds.drew_ H485_
   have hq487_ := And.intro ((And.intro (Holds.rdf H486_ 0 rfl) (Holds.blk H486_ 0 rfl))) (And.intro (Holds.tr_rd H486_ 1 rfl 10 rfl) (And.intro ((And.intro (Holds.rdf H486_ 3 rfl) (Holds.blk H486_ 3 rfl))) (And.intro (Holds.tr_rd H486_ 4 rfl 10 rfl) (And.intro ((And.intro (Holds.rdf H486_ 5 rfl) (Holds.blk H486_ 5 rfl))) (And.intro (Holds.tr_rd H486_ 6 rfl 10 rfl) (And.intro (Holds.tr_rd H486_ 7 rfl 10 rfl) (And.intro (Holds.rd H486_ 9 rfl) ((Holds.ro_at H486_ 8 rfl)))))))))
   refine A_tk 0 (v := (vQ z.a)) rfl (by kernel_rfl) (fun w hS => x_move rfl) hq487_ ?_
   refine A_tk 1 (v := (vQ z.a)) rfl (by kernel_rfl) (fun w hS => by kernel_rfl) hq487_ ?_
   refine A_tk 2 (v := (vP (some ⟨z.a, 6, none⟩))) rfl (by kernel_rfl) (fun w hS => by kernel_rfl) hq487_ ?_
   refine A_tk 3 (v := (vQ f9_p.a)) rfl (by kernel_rfl) (fun w hS => x_load1 rfl underlying173 rfl (hS.2.2.2.2.1.1 6 (vQ f9_p.a) rfl)) hq487_ ?_
   refine A_tk 4 (v := (vQ tb)) rfl (by kernel_rfl) (fun w hS => x_move rfl) hq487_ ?_
   refine A_tk 5 (v := (vQ tb)) rfl (by kernel_rfl) (fun w hS => by kernel_rfl) hq487_ ?_
   refine A_tk 6 (v := (vP (some ⟨tb, 2, none⟩))) rfl (by kernel_rfl) (fun w hS => by kernel_rfl) hq487_ ?_
   refine A_tk 7 (v := (vQ sb)) rfl (by kernel_rfl) (fun w hS => x_load1 rfl underlying173 rfl (hS.2.2.2.2.2.2.2.1 2 (vQ sb) rfl)) hq487_ ?_
   refine A_ready (i := 8) (rs := []) (by kernel_rfl) ?_
   refine AllR.cons ?_ AllR.nil
   refine A_op (ls' := #[true, true, true, true, true, true, true, true, true, false]) rfl (by kernel_rfl) (T_callW (al := [(vQ f9_p.a), (vQ sb)]) rfl rfl cb166 (Calls.into (n := 12) func166 rfl ntmps166 rfl rfl ?_))
   refine cR fun _ hK488_ => ?_
   refine sv (v := (vI .i64 0)) (x_assign rfl) ?_
   refine wn (hK488_ _ _ ?_)
   refine C_seq (fun _ hK489_ => ?_)
   refine cR fun _ hK490_ => ?_
   refine sm (vQ f9_p.a) ?_
   refine sm (vQ sb) ?_
   have hpc491_ : f9_p.a ≠ sb := Holds.ne_f H486_ 3 rfl 10 rfl (by decide)
   refine sv (v := (vB false)) (x_cast (x_eqPN rfl rfl underlying173 z182 (by decide) (Holds.blk H486_ 3 rfl) (Holds.blk H486_ 10 rfl)) (congrArg vB (decide_eq_false hpc491_))) ?_
   refine wn (hK490_ _ _ ?_)
   refine C_condF rfl ?_
   refine C_skip (X_then (hK489_ _ _ ?_))
   refine cR fun _ hK492_ => ?_
   refine sm (vQ f9_p.a) ?_
   refine sv (v := (vQ f9_p.a)) (by kernel_rfl) ?_
   refine sv (v := (vP (some ⟨f9_p.a, 7, none⟩))) (by kernel_rfl) ?_
   refine sv (v := (vI .i64 f9_p.c)) (x_load1 rfl underlying180 rfl ((Holds.rdf H486_ 3 rfl) 7 (vI .i64 f9_p.c) rfl)) ?_
   refine sv (v := (vI .i64 f9_p.c)) (x_assign rfl) ?_
   refine wn (hK492_ _ _ ?_)
   refine C_ret ?_
   refine R_any (v := (vI .i64 f9_p.c)) (run_results1 rfl rfl) ⟨_, rfl, ?_⟩
   refine ⟨⟨(And.intro (Holds.rdf H486_ 0 rfl) (Holds.blk H486_ 0 rfl)), Holds.tr_rd H486_ 1 rfl 10 rfl, (And.intro (Holds.rdf H486_ 3 rfl) (Holds.blk H486_ 3 rfl)), Holds.tr_rd H486_ 4 rfl 10 rfl, (And.intro (Holds.rdf H486_ 5 rfl) (Holds.blk H486_ 5 rfl)), Holds.tr_rd H486_ 6 rfl 10 rfl, Holds.tr_rd H486_ 7 rfl 10 rfl, Holds.rd H486_ 9 rfl, (Holds.ro_at H486_ 8 rfl)⟩, ?_⟩
   refine A_tk 9 (v := (vB (decide (f9_p.c = 1)))) rfl (by kernel_rfl) (fun w hS => x_bin rfl rfl rfl) hq487_ ?_
   refine A_done (by kernel_rfl) ?_
   refine (X_then (hK8_ _ _ ?_))
   refine C_cond (b := decide (f9_p.c = 1)) rfl (fun c493_t => ?_) (fun c493_f => ?_)
   ·have c493_tp : f9_p.c = 1 := of_decide_eq_true c493_t
    refine C_skip (X_then (hK7_ _ _ ?_))
    refine C_block ?_
    refine C_seq (fun _ hK494_ => ?_)
    refine A_start (S := fun w => (Rd f9_g.a [f9_g.b, f9_g.e, f9_g.v, f9_g.mx, (vQ sb), (vQ f9_p.a), (vQ (pa sb f9_C)), (vI .i64 f9_g.c)] w ∧ Blk w f9_g.a) ∧ RtRd w (rt sb (Tr.lf : Tr K)) (rmx (Tr.lf : Tr K)) ∧ (Rd f9_p.a [f9_p.b, f9_p.e, f9_p.v, f9_p.mx, (vQ z.a), (vQ (rt sb f9_s)), (vQ f9_g.a), (vI .i64 f9_p.c)] w ∧ Blk w f9_p.a) ∧ RtRd w (rt sb f9_s) (rmx f9_s) ∧ (Rd z.a [z.b, z.e, z.v, z.mx, (vQ (rt sb zl)), (vQ (rt sb zr)), (vQ f9_p.a), (vI .i64 z.c)] w ∧ Blk w z.a) ∧ RtRd w (rt sb zl) (rmx zl) ∧ RtRd w (rt sb zr) (rmx zr) ∧ Sub R (hp w)) (N := 15) foll rfl rfl ?_
    have H495_ := Holds.drew_ H486_
    have hq496_ := And.intro ((And.intro (Holds.rdf H495_ 0 rfl) (Holds.blk H495_ 0 rfl))) (And.intro (Holds.tr_rd H495_ 1 rfl 10 rfl) (And.intro ((And.intro (Holds.rdf H495_ 3 rfl) (Holds.blk H495_ 3 rfl))) (And.intro (Holds.tr_rd H495_ 4 rfl 10 rfl) (And.intro ((And.intro (Holds.rdf H495_ 5 rfl) (Holds.blk H495_ 5 rfl))) (And.intro (Holds.tr_rd H495_ 6 rfl 10 rfl) (And.intro (Holds.tr_rd H495_ 7 rfl 10 rfl) ((Holds.ro_at H495_ 8 rfl))))))))
    refine A_tk 0 (v := (vQ z.a)) rfl (by kernel_rfl) (fun w hS => x_move rfl) hq496_ ?_
    refine A_tk 1 (v := (vQ z.a)) rfl (by kernel_rfl) (fun w hS => by kernel_rfl) hq496_ ?_
    refine A_tk 2 (v := (vP (some ⟨z.a, 6, none⟩))) rfl (by kernel_rfl) (fun w hS => by kernel_rfl) hq496_ ?_
    refine A_tk 3 (v := (vQ f9_p.a)) rfl (by kernel_rfl) (fun w hS => x_load1 rfl underlying173 rfl (hS.2.2.2.2.1.1 6 (vQ f9_p.a) rfl)) hq496_ ?_
    refine A_tk 4 (v := (vQ z.a)) rfl (by kernel_rfl) (fun w hS => x_move rfl) hq496_ ?_
    refine A_tk 5 (v := (vQ z.a)) rfl (by kernel_rfl) (fun w hS => by kernel_rfl) hq496_ ?_
    refine A_tk 6 (v := (vP (some ⟨z.a, 6, none⟩))) rfl (by kernel_rfl) (fun w hS => by kernel_rfl) hq496_ ?_
    refine A_tk 7 (v := (vQ f9_p.a)) rfl (by kernel_rfl) (fun w hS => x_load1 rfl underlying173 rfl (hS.2.2.2.2.1.1 6 (vQ f9_p.a) rfl)) hq496_ ?_
    refine A_tk 8 (v := (vQ f9_p.a)) rfl (by kernel_rfl) (fun w hS => by kernel_rfl) hq496_ ?_
    refine A_tk 9 (v := (vP (some ⟨f9_p.a, 6, none⟩))) rfl (by kernel_rfl) (fun w hS => by kernel_rfl) hq496_ ?_
    refine A_tk 10 (v := (vQ f9_g.a)) rfl (by kernel_rfl) (fun w hS => x_load1 rfl underlying173 rfl (hS.2.2.1.1 6 (vQ f9_g.a) rfl)) hq496_ ?_
    refine A_tk 11 (v := (vQ f9_g.a)) rfl (by kernel_rfl) (fun w hS => by kernel_rfl) hq496_ ?_
    refine A_tk 12 (v := (vP (some ⟨f9_g.a, 4, none⟩))) rfl (by kernel_rfl) (fun w hS => by kernel_rfl) hq496_ ?_
    refine A_tk 13 (v := (vQ sb)) rfl (by kernel_rfl) (fun w hS => x_load1 rfl underlying173 rfl (hS.1.1 4 (vQ sb) rfl)) hq496_ ?_
    refine A_ready (i := 14) (rs := []) (by kernel_rfl) ?_
    refine AllR.cons ?_ AllR.nil
    refine A_op (ls' := #[true, true, true, true, true, true, true, true, true, true, true, true, true, true, true]) rfl (by kernel_rfl) (T_val (v := (vB false)) (x_cast (x_eqPN rfl rfl underlying173 z182 (by decide) (Holds.blk H495_ 3 rfl) (Holds.blk H495_ 10 rfl)) (congrArg vB (decide_eq_false hpc491_))) ?_)
    refine ⟨⟨(And.intro (Holds.rdf H495_ 0 rfl) (Holds.blk H495_ 0 rfl)), Holds.tr_rd H495_ 1 rfl 10 rfl, (And.intro (Holds.rdf H495_ 3 rfl) (Holds.blk H495_ 3 rfl)), Holds.tr_rd H495_ 4 rfl 10 rfl, (And.intro (Holds.rdf H495_ 5 rfl) (Holds.blk H495_ 5 rfl)), Holds.tr_rd H495_ 6 rfl 10 rfl, Holds.tr_rd H495_ 7 rfl 10 rfl, (Holds.ro_at H495_ 8 rfl)⟩, ?_⟩
    refine A_done (by kernel_rfl) ?_
    refine (X_then (hK494_ _ _ ?_))
    refine C_condF rfl ?_
    refine cR fun _ hK497_ => ?_
    refine sm (vQ z.a) ?_
    refine sv (v := (vQ z.a)) (by kernel_rfl) ?_
    refine sv (v := (vP (some ⟨z.a, 6, none⟩))) (by kernel_rfl) ?_
    refine sv (v := (vQ f9_p.a)) (x_load1 rfl underlying173 rfl ((Holds.rdf H495_ 5 rfl) 6 (vQ f9_p.a) rfl)) ?_
    refine sv (v := (vQ f9_p.a)) (by kernel_rfl) ?_
    refine sv (v := (vP (some ⟨f9_p.a, 6, none⟩))) (by kernel_rfl) ?_
    refine sv (v := (vQ f9_g.a)) (x_load1 rfl underlying173 rfl ((Holds.rdf H495_ 3 rfl) 6 (vQ f9_g.a) rfl)) ?_
    refine sv (v := (vQ f9_g.a)) (by kernel_rfl) ?_
    refine sv (v := (vP (some ⟨f9_g.a, 4, none⟩))) (by kernel_rfl) ?_
    refine sv (v := (vQ sb)) (x_load1 rfl underlying173 rfl ((Holds.rdf H495_ 0 rfl) 4 (vQ sb) rfl)) ?_
    refine sv (v := (vQ sb)) (x_assign rfl) ?_
    refine wn (hK497_ _ _ ?_)
    refine cR fun _ hK498_ => ?_
    refine sm (vQ sb) ?_
    refine sm (vQ tb) ?_
    refine sv (v := (vQ tb)) (by kernel_rfl) ?_
    refine sv (v := (vP (some ⟨tb, 2, none⟩))) (by kernel_rfl) ?_
    refine sv (v := (vQ sb)) (x_load1 rfl underlying173 rfl ((Holds.rd H495_ 9 rfl) 2 (vQ sb) rfl)) ?_
    refine S_list (T_callW (al := [(vQ sb), (vQ sb)]) rfl rfl cb166 (Calls.into (n := 12) func166 rfl ntmps166 rfl rfl ?_))
    refine cR fun _ hK499_ => ?_
    refine sv (v := (vI .i64 0)) (x_assign rfl) ?_
    refine wn (hK499_ _ _ ?_)
    refine C_seq (fun _ hK500_ => ?_)
    refine cR fun _ hK501_ => ?_
    refine sm (vQ sb) ?_
    refine sm (vQ sb) ?_
    refine sv (v := (vB true)) (x_eqP rfl rfl underlying173 z182) ?_
    refine wn (hK501_ _ _ ?_)
    refine C_condT rfl ?_
    refine cR fun _ hK502_ => ?_
    refine sv (v := (vI .i64 0)) (x_assign rfl) ?_
    refine wn (hK502_ _ _ ?_)
    refine C_ret (X_thenR ?_)
    refine R_any (v := (vI .i64 0)) (run_results1 rfl rfl) ⟨_, rfl, ?_⟩
    refine sv (v := (vB false)) (x_bin rfl rfl rfl) ?_
    refine wn (hK498_ _ _ ?_)
    refine C_condF rfl ?_
    refine C_seq (fun _ hK503_ => ?_)
    refine cR fun _ hK504_ => ?_
    refine sm (vQ z.a) ?_
    refine sm (vQ z.a) ?_
    refine sv (v := (vQ z.a)) (by kernel_rfl) ?_
    refine sv (v := (vP (some ⟨z.a, 6, none⟩))) (by kernel_rfl) ?_
    refine sv (v := (vQ f9_p.a)) (x_load1 rfl underlying173 rfl ((Holds.rdf H495_ 5 rfl) 6 (vQ f9_p.a) rfl)) ?_
    refine sv (v := (vQ f9_p.a)) (by kernel_rfl) ?_
    refine sv (v := (vP (some ⟨f9_p.a, 4, none⟩))) (by kernel_rfl) ?_
    refine sv (v := (vQ z.a)) (x_load1 rfl underlying173 rfl ((Holds.rdf H495_ 3 rfl) 4 (vQ z.a) rfl)) ?_
    refine sv (v := (vB true)) (x_eqP rfl rfl underlying173 z182) ?_
    refine wn (hK504_ _ _ ?_)
    refine C_condT rfl ?_
    refine cR fun _ hK505_ => ?_
    refine sm (vQ z.a) ?_
    refine sv (v := (vQ z.a)) (by kernel_rfl) ?_
    refine sv (v := (vP (some ⟨z.a, 6, none⟩))) (by kernel_rfl) ?_
    refine sv (v := (vQ f9_p.a)) (x_load1 rfl underlying173 rfl ((Holds.rdf H495_ 5 rfl) 6 (vQ f9_p.a) rfl)) ?_
    refine sv (v := (vQ f9_p.a)) (x_assign rfl) ?_
    refine wn (hK505_ _ _ ?_)
    refine C_reg ?_
    refine sm (vQ tb) ?_
    refine sm (vQ f9_p.a) ?_
    have H506_ := ((Holds.bring (Holds.bring (Holds.bring H495_ 7 rfl) 7 rfl) 7 rfl) :)
    have H507_ := Holds.nd_tr (n := z) (a := zl) (b := zr) H506_
    have H508_ := ((Holds.bring (Holds.bring (Holds.bring H507_ 5 rfl) 1 rfl) 5 rfl) :)
    have H509_ := Holds.nd_tr (n := f9_p) (a := (Tr.nd z zl zr)) (b := f9_s) H508_
    have H510_ := ((Holds.bring (Holds.bring (Holds.bring H509_ 3 rfl) 3 rfl) 3 rfl) :)
    have H511_ := Holds.cons_cx (sb := sb) (f := (⟨false, f9_g, (Tr.lf : Tr K)⟩ : Fr K)) (C := f9_C) (x := f9_p.a) H510_
    have H512_ := H511_
    have H514_ := ((Holds.bring (Holds.bring (Holds.bring (Holds.bring (Holds.bring H512_ 4 rfl) 1 rfl) 2 rfl) 4 rfl) 4 rfl) :)
    refine S_list (T_call (al := [(vQ tb), (vQ f9_p.a)]) (pre := [cl tb 185 [(vP (some ⟨(ra f9_p.a ((⟨false, f9_g, (Tr.lf : Tr K)⟩ : Fr K) :: f9_C)), 0, none⟩)), (vI .i64 cnt), (vQ sb)], tr sb (pa sb ((⟨false, f9_g, (Tr.lf : Tr K)⟩ : Fr K) :: f9_C)) (Tr.nd f9_p (Tr.nd z zl zr) f9_s), cx sb f9_p.a ((⟨false, f9_g, (Tr.lf : Tr K)⟩ : Fr K) :: f9_C), clf sb 182 sc]) rfl rfl cb176 (itRotR R K O tb sb cnt sc f9_p z f9_s zr zl ((⟨false, f9_g, (Tr.lf : Tr K)⟩ : Fr K) :: f9_C) ((FxI.up hI1).ck) ((FxI.up hI1).tk)) H514_ ?_)
    rintro v513_ p518_ w515_ ⟨rfl, rfl⟩ S517_ H516_
    have S519_ := Same.trans (Same.trans (Same.trans S6_ (Same.drew _)) (Same.drew _)) S517_
    have hI2 := FxI.rot (d := false) (x := f9_p) (y := z) (A := f9_s) (B := zr) (D := zl) (FxI.up hI1)
    have hra_ := fun q => ra_rC3 (O := O) false f9_p z f9_s zr zl ((⟨false, f9_g, (Tr.lf : Tr K)⟩ : Fr K) :: f9_C) q
    obtain ⟨m520_, C521_, hC522_⟩ := rC3_cons O false f9_p z f9_s zr zl (⟨false, f9_g, (Tr.lf : Tr K)⟩ : Fr K) f9_C
    have H523_ := H516_; rw [← hra_] at H523_; rw [hC522_] at H523_ hI2
    have H524_ := H523_
    have hlen_ : C521_.length = f9_C.length := by have := congrArg List.length hC522_; rw [rC3_len] at this; simpa using this.symm
    have H525_ := H524_
    have H526_ := ((Holds.bring H525_ 3 rfl) :)
    have H527_ := Holds.cx_cons H526_
    have H528_ := ((Holds.bring H527_ 5 rfl) :)
    have H529_ := Holds.tr_nd H528_
    have H530_ := ((Holds.bring H529_ 2 rfl) :)
    have H531_ := Holds.tr_nd H530_
    refine wn (hK503_ _ _ ?_)
    refine cR fun _ hK532_ => ?_
    refine sm (vQ f9_p.a) ?_
    refine sv (v := (vQ f9_p.a)) (by kernel_rfl) ?_
    refine sv (v := (vP (some ⟨f9_p.a, 6, none⟩))) (by kernel_rfl) ?_
    refine sv (v := (vQ z.a)) (x_load1 rfl underlying173 rfl ((Holds.rdf H531_ 0 rfl) 6 (vQ z.a) rfl)) ?_
    refine sv (v := (vQ z.a)) (by kernel_rfl) ?_
    refine sv (v := (vP (some ⟨z.a, 7, none⟩))) (by kernel_rfl) ?_
    refine S_list0 (T_store1f (v := (vI .i64 0)) rfl rfl z180 rfl H531_ 3 rfl (Nat.le_of_ble_eq_true (by rfl)) ?_)
    intro w533_ S535_ H534_
    have S536_ := Same.trans S519_ S535_
    refine wn (hK532_ _ _ ?_)
    refine cR fun _ hK537_ => ?_
    refine sm (vQ f9_p.a) ?_
    refine sv (v := (vQ f9_p.a)) (by kernel_rfl) ?_
    refine sv (v := (vP (some ⟨f9_p.a, 6, none⟩))) (by kernel_rfl) ?_
    refine sv (v := (vQ z.a)) (x_load1 rfl underlying173 rfl ((Holds.rdf H534_ 0 rfl) 6 (vQ z.a) rfl)) ?_
    refine sv (v := (vQ z.a)) (by kernel_rfl) ?_
    refine sv (v := (vP (some ⟨z.a, 6, none⟩))) (by kernel_rfl) ?_
    refine sv (v := (vQ f9_g.a)) (x_load1 rfl underlying173 rfl ((Holds.rdf H534_ 3 rfl) 6 (vQ f9_g.a) rfl)) ?_
    refine sv (v := (vQ f9_g.a)) (by kernel_rfl) ?_
    refine sv (v := (vP (some ⟨f9_g.a, 7, none⟩))) (by kernel_rfl) ?_
    refine S_list0 (T_store1f (v := (vI .i64 1)) rfl rfl z180 rfl H534_ 5 rfl (Nat.le_of_ble_eq_true (by rfl)) ?_)
    intro w538_ S540_ H539_
    have S541_ := Same.trans S536_ S540_
    refine wn (hK537_ _ _ ?_)
    refine C_reg ?_
    refine sm (vQ tb) ?_
    refine sm (vQ f9_p.a) ?_
    refine sv (v := (vQ f9_p.a)) (by kernel_rfl) ?_
    refine sv (v := (vP (some ⟨f9_p.a, 6, none⟩))) (by kernel_rfl) ?_
    refine sv (v := (vQ z.a)) (x_load1 rfl underlying173 rfl ((Holds.rdf H539_ 0 rfl) 6 (vQ z.a) rfl)) ?_
    refine sv (v := (vQ z.a)) (by kernel_rfl) ?_
    refine sv (v := (vP (some ⟨z.a, 6, none⟩))) (by kernel_rfl) ?_
    refine sv (v := (vQ f9_g.a)) (x_load1 rfl underlying173 rfl ((Holds.rdf H539_ 3 rfl) 6 (vQ f9_g.a) rfl)) ?_
    have H542_ := Holds.nd_tr (n := (f9_p.setmx (rV1 O false f9_p f9_s zr))) (a := zr) (b := f9_s) H539_
    have H543_ := ((Holds.bring (Holds.bring H542_ 2 rfl) 2 rfl) :)
    have H544_ := Holds.nd_tr (n := ((z.setmx (rV2 O false f9_p z f9_s zr zl)).setc 0)) (a := zl) (b := (Tr.nd (f9_p.setmx (rV1 O false f9_p f9_s zr)) zr f9_s)) H543_
    have H545_ := ((Holds.bring (Holds.bring H544_ 2 rfl) 2 rfl) :)
    have H546_ := Holds.nd_tr (n := ((f9_g.setmx m520_).setc 1)) (a := (Tr.lf : Tr K)) (b := (Tr.nd ((z.setmx (rV2 O false f9_p z f9_s zr zl)).setc 0) zl (Tr.nd (f9_p.setmx (rV1 O false f9_p f9_s zr)) zr f9_s))) H545_
    have H547_ := H546_
    have hI3 : FxI O R L C521_ (rOr true ((f9_g.setmx m520_).setc 1) ((z.setmx (rV2 O false f9_p z f9_s zr zl)).setc 0) (Tr.lf : Tr K) zl (Tr.nd (f9_p.setmx (rV1 O false f9_p f9_s zr)) zr f9_s)) := FxI.col 1 (show FxI O R L C521_ (Tr.nd (f9_g.setmx m520_) (Tr.lf : Tr K) (Tr.nd ((z.setmx (rV2 O false f9_p z f9_s zr zl)).setc 0) zl (Tr.nd (f9_p.setmx (rV1 O false f9_p f9_s zr)) zr f9_s))) from FxI.up (FxI.col 0 (show FxI O R L ((⟨false, f9_g, (Tr.lf : Tr K)⟩ : Fr K).setmx m520_ :: C521_) (Tr.nd (z.setmx (rV2 O false f9_p z f9_s zr zl)) zl (Tr.nd (f9_p.setmx (rV1 O false f9_p f9_s zr)) zr f9_s)) from hI2)))
    have H549_ := ((Holds.bring (Holds.bring (Holds.bring (Holds.bring (Holds.bring H547_ 4 rfl) 2 rfl) 2 rfl) 4 rfl) 4 rfl) :)
    refine S_list (T_call (al := [(vQ tb), (vQ (((f9_g.setmx m520_).setc 1).a))]) (pre := [cl tb 185 [(vQ ((ra ((f9_g.setmx m520_).setc 1).a C521_))), (vI .i64 cnt), (vQ sb)], tr sb (pa sb C521_) (Tr.nd ((f9_g.setmx m520_).setc 1) (Tr.lf : Tr K) (Tr.nd ((z.setmx (rV2 O false f9_p z f9_s zr zl)).setc 0) zl (Tr.nd (f9_p.setmx (rV1 O false f9_p f9_s zr)) zr f9_s))), cx sb (((f9_g.setmx m520_).setc 1).a) C521_, clf sb 182 sc]) rfl (lcons rfl (lcons ((by first | rfl | omega | (simp; done) | (simp; omega)) : (vQ f9_g.a) = (vQ (((f9_g.setmx m520_).setc 1).a))) rfl)) cb175 (itRotL R K O tb sb cnt sc ((f9_g.setmx m520_).setc 1) ((z.setmx (rV2 O false f9_p z f9_s zr zl)).setc 0) (Tr.lf : Tr K) zl (Tr.nd (f9_p.setmx (rV1 O false f9_p f9_s zr)) zr f9_s) C521_ (hI3.ck) (hI3.tk)) H549_ ?_)
    rintro v548_ p553_ w550_ ⟨rfl, rfl⟩ S552_ H551_
    have S554_ := Same.trans S541_ S552_
    have hI4 := FxI.rot hI3
    have hI5 : FxI O R L ((⟨false, (((z.setmx (rV2 O false f9_p z f9_s zr zl)).setc 0).setmx (rV2 O true ((f9_g.setmx m520_).setc 1) ((z.setmx (rV2 O false f9_p z f9_s zr zl)).setc 0) (Tr.lf : Tr K) zl (Tr.nd (f9_p.setmx (rV1 O false f9_p f9_s zr)) zr f9_s))), (rTx O true ((f9_g.setmx m520_).setc 1) (Tr.lf : Tr K) zl)⟩ : Fr K) :: (rC3 O true ((f9_g.setmx m520_).setc 1) ((z.setmx (rV2 O false f9_p z f9_s zr zl)).setc 0) (Tr.lf : Tr K) zl (Tr.nd (f9_p.setmx (rV1 O false f9_p f9_s zr)) zr f9_s) C521_)) (Tr.nd (f9_p.setmx (rV1 O false f9_p f9_s zr)) zr f9_s) := FxI.down (f := (⟨false, (((z.setmx (rV2 O false f9_p z f9_s zr zl)).setc 0).setmx (rV2 O true ((f9_g.setmx m520_).setc 1) ((z.setmx (rV2 O false f9_p z f9_s zr zl)).setc 0) (Tr.lf : Tr K) zl (Tr.nd (f9_p.setmx (rV1 O false f9_p f9_s zr)) zr f9_s))), (rTx O true ((f9_g.setmx m520_).setc 1) (Tr.lf : Tr K) zl)⟩ : Fr K)) hI4 (fun _ => rfl)
    have H555_ := H551_; rw [← pa_rC3 (O := O) sb true ((f9_g.setmx m520_).setc 1) ((z.setmx (rV2 O false f9_p z f9_s zr zl)).setc 0) (Tr.lf : Tr K) zl (Tr.nd (f9_p.setmx (rV1 O false f9_p f9_s zr)) zr f9_s) C521_, ← ra_rC3 (O := O) true ((f9_g.setmx m520_).setc 1) ((z.setmx (rV2 O false f9_p z f9_s zr zl)).setc 0) (Tr.lf : Tr K) zl (Tr.nd (f9_p.setmx (rV1 O false f9_p f9_s zr)) zr f9_s) C521_] at H555_
    have H556_ := H555_
    have H557_ := H556_
    have H558_ := ((Holds.bring H557_ 2 rfl) :)
    have H559_ := Holds.tr_nd H558_
    have H560_ := ((Holds.bring (Holds.bring (Holds.bring H559_ 5 rfl) 2 rfl) 2 rfl) :)
    have H561_ := Holds.cons_cx (sb := sb) (f := (⟨false, (((z.setmx (rV2 O false f9_p z f9_s zr zl)).setc 0).setmx (rV2 O true ((f9_g.setmx m520_).setc 1) ((z.setmx (rV2 O false f9_p z f9_s zr zl)).setc 0) (Tr.lf : Tr K) zl (Tr.nd (f9_p.setmx (rV1 O false f9_p f9_s zr)) zr f9_s))), (rTx O true ((f9_g.setmx m520_).setc 1) (Tr.lf : Tr K) zl)⟩ : Fr K)) (C := (rC3 O true ((f9_g.setmx m520_).setc 1) ((z.setmx (rV2 O false f9_p z f9_s zr zl)).setc 0) (Tr.lf : Tr K) zl (Tr.nd (f9_p.setmx (rV1 O false f9_p f9_s zr)) zr f9_s) C521_)) (x := f9_p.a) H560_
    refine wpList_nil (X_blkN (X_then ?_))
    have H562_ := H561_
    have H563_ := Holds.pkF H562_ [2, 2, 1, 0, 0] 0
    exact ⟨⟨(f9_p.setmx (rV1 O false f9_p f9_s zr)), zr, f9_s, ((⟨false, (((z.setmx (rV2 O false f9_p z f9_s zr zl)).setc 0).setmx (rV2 O true ((f9_g.setmx m520_).setc 1) ((z.setmx (rV2 O false f9_p z f9_s zr zl)).setc 0) (Tr.lf : Tr K) zl (Tr.nd (f9_p.setmx (rV1 O false f9_p f9_s zr)) zr f9_s))), (rTx O true ((f9_g.setmx m520_).setc 1) (Tr.lf : Tr K) zl)⟩ : Fr K) :: (rC3 O true ((f9_g.setmx m520_).setc 1) ((z.setmx (rV2 O false f9_p z f9_s zr zl)).setc 0) (Tr.lf : Tr K) zl (Tr.nd (f9_p.setmx (rV1 O false f9_p f9_s zr)) zr f9_s) C521_))⟩, ⟨_, congrArg (fun e => mkA 201 e []) (ch (ch rfl rfl) ((by first | rfl | omega | (simp; done) | (simp; omega)) : (vQ f9_p.a) = (vQ ((f9_p.setmx (rV1 O false f9_p f9_s zr)).a)))), H563_, S554_, (hI5)⟩, (by first | (simp [rC3_len]; done) | (simp [rC3_len]; omega))⟩
   ·have c493_fp : ¬ (f9_p.c = 1) := of_decide_eq_false c493_f
    refine C_exit (X_thenX (X_thenX (X_blkHit ?_)))
    refine (X_then ?_)
    have H564_ := ((Holds.bring (Holds.bring (Holds.bring H486_ 7 rfl) 7 rfl) 7 rfl) :)
    have H565_ := Holds.nd_tr (n := z) (a := zl) (b := zr) H564_
    have H566_ := ((Holds.bring (Holds.bring (Holds.bring H565_ 3 rfl) 3 rfl) 3 rfl) :)
    have H567_ := Holds.cons_cx (sb := sb) (f := (⟨false, f9_g, (Tr.lf : Tr K)⟩ : Fr K)) (C := f9_C) (x := f9_p.a) H566_
    have H568_ := ((Holds.bring (Holds.bring H567_ 3 rfl) 3 rfl) :)
    have H569_ := Holds.cons_cx (sb := sb) (f := (⟨true, f9_p, f9_s⟩ : Fr K)) (C := ((⟨false, f9_g, (Tr.lf : Tr K)⟩ : Fr K) :: f9_C)) (x := z.a) H568_
    have H570_ := H569_
    have H571_ := ((Holds.bring H570_ 1 rfl) :)
    have H572_ := Holds.plug_in (C := ((⟨true, f9_p, f9_s⟩ : Fr K) :: ((⟨false, f9_g, (Tr.lf : Tr K)⟩ : Fr K) :: f9_C))) (t := (Tr.nd z zl zr)) H571_
    have H573_ : Holds w4_.drew (tr sb sb (plug ((⟨true, f9_p, f9_s⟩ : Fr K) :: ((⟨false, f9_g, (Tr.lf : Tr K)⟩ : Fr K) :: f9_C)) (Tr.nd z zl zr)) :: ro R :: cl tb 185 [(vP (some ⟨(ra z.a ((⟨true, f9_p, f9_s⟩ : Fr K) :: ((⟨false, f9_g, (Tr.lf : Tr K)⟩ : Fr K) :: f9_C))), 0, none⟩)), (vI .i64 cnt), (vQ sb)] :: clf sb 182 sc :: F) := (H572_)
    rw [show ra z.a ((⟨true, f9_p, f9_s⟩ : Fr K) :: ((⟨false, f9_g, (Tr.lf : Tr K)⟩ : Fr K) :: f9_C)) = rt sb (plug ((⟨true, f9_p, f9_s⟩ : Fr K) :: ((⟨false, f9_g, (Tr.lf : Tr K)⟩ : Fr K) :: f9_C)) (Tr.nd z zl zr)) from (rt_plug sb ((⟨true, f9_p, f9_s⟩ : Fr K) :: ((⟨false, f9_g, (Tr.lf : Tr K)⟩ : Fr K) :: f9_C)) z zl zr).symm] at H573_
    have H574_ := H573_
    have H575_ := Holds.pkF H574_ [1, 1, 0, 0] 0
    exact ⟨(plug ((⟨true, f9_p, f9_s⟩ : Fr K) :: ((⟨false, f9_g, (Tr.lf : Tr K)⟩ : Fr K) :: f9_C)) (Tr.nd z zl zr)), _, congrArg (fun e => mkA 201 e []) (ch rfl rfl), H575_, (Same.trans S6_ (Same.drew _)), (FxI.plug hI1), (plug_nd _ _ _ _)⟩
  ·skip
   have H576_ := H5_
   have H577_ := ((Holds.bring H576_ 2 rfl) :)
   have H578_ := Holds.tr_nd H577_
   have H579_ := ((Holds.bring H578_ 5 rfl) :)
   have H580_ := Holds.cx_cons H579_
   have H581_ := ((Holds.bring H580_ 2 rfl) :)
   have H582_ := Holds.cx_cons H581_
   have H583_ := ((Holds.bring H582_ 1 rfl) :)
   have H584_ := Holds.tr_nd H583_
   refine A_start (S := fun w => (Rd f9_u.a [f9_u.b, f9_u.e, f9_u.v, f9_u.mx, (vQ (rt sb f9_ul)), (vQ (rt sb f9_ur)), (vQ f9_g.a), (vI .i64 f9_u.c)] w ∧ Blk w f9_u.a) ∧ RtRd w (rt sb f9_ul) (rmx f9_ul) ∧ RtRd w (rt sb f9_ur) (rmx f9_ur) ∧ (Rd f9_g.a [f9_g.b, f9_g.e, f9_g.v, f9_g.mx, (vQ f9_u.a), (vQ f9_p.a), (vQ (pa sb f9_C)), (vI .i64 f9_g.c)] w ∧ Blk w f9_g.a) ∧ (Rd f9_p.a [f9_p.b, f9_p.e, f9_p.v, f9_p.mx, (vQ z.a), (vQ (rt sb f9_s)), (vQ f9_g.a), (vI .i64 f9_p.c)] w ∧ Blk w f9_p.a) ∧ RtRd w (rt sb f9_s) (rmx f9_s) ∧ (Rd z.a [z.b, z.e, z.v, z.mx, (vQ (rt sb zl)), (vQ (rt sb zr)), (vQ f9_p.a), (vI .i64 z.c)] w ∧ Blk w z.a) ∧ RtRd w (rt sb zl) (rmx zl) ∧ RtRd w (rt sb zr) (rmx zr) ∧ Rd tb [(vQ (ra f9_g.a f9_C)), (vI .i64 cnt), (vQ sb)] w ∧ Sub R (hp w)) (N := 10) foll rfl rfl ?_
   have H585_ := Holds.drew_ H584_
   have hq586_ := And.intro ((And.intro (Holds.rdf H585_ 0 rfl) (Holds.blk H585_ 0 rfl))) (And.intro (Holds.tr_rd H585_ 1 rfl 12 rfl) (And.intro (Holds.tr_rd H585_ 2 rfl 12 rfl) (And.intro ((And.intro (Holds.rdf H585_ 3 rfl) (Holds.blk H585_ 3 rfl))) (And.intro ((And.intro (Holds.rdf H585_ 5 rfl) (Holds.blk H585_ 5 rfl))) (And.intro (Holds.tr_rd H585_ 6 rfl 12 rfl) (And.intro ((And.intro (Holds.rdf H585_ 7 rfl) (Holds.blk H585_ 7 rfl))) (And.intro (Holds.tr_rd H585_ 8 rfl 12 rfl) (And.intro (Holds.tr_rd H585_ 9 rfl 12 rfl) (And.intro (Holds.rd H585_ 11 rfl) ((Holds.ro_at H585_ 10 rfl)))))))))))
   refine A_tk 0 (v := (vQ z.a)) rfl (by kernel_rfl) (fun w hS => x_move rfl) hq586_ ?_
   refine A_tk 1 (v := (vQ z.a)) rfl (by kernel_rfl) (fun w hS => by kernel_rfl) hq586_ ?_
   refine A_tk 2 (v := (vP (some ⟨z.a, 6, none⟩))) rfl (by kernel_rfl) (fun w hS => by kernel_rfl) hq586_ ?_
   refine A_tk 3 (v := (vQ f9_p.a)) rfl (by kernel_rfl) (fun w hS => x_load1 rfl underlying173 rfl (hS.2.2.2.2.2.2.1.1 6 (vQ f9_p.a) rfl)) hq586_ ?_
   refine A_tk 4 (v := (vQ tb)) rfl (by kernel_rfl) (fun w hS => x_move rfl) hq586_ ?_
   refine A_tk 5 (v := (vQ tb)) rfl (by kernel_rfl) (fun w hS => by kernel_rfl) hq586_ ?_
   refine A_tk 6 (v := (vP (some ⟨tb, 2, none⟩))) rfl (by kernel_rfl) (fun w hS => by kernel_rfl) hq586_ ?_
   refine A_tk 7 (v := (vQ sb)) rfl (by kernel_rfl) (fun w hS => x_load1 rfl underlying173 rfl (hS.2.2.2.2.2.2.2.2.2.1 2 (vQ sb) rfl)) hq586_ ?_
   refine A_ready (i := 8) (rs := []) (by kernel_rfl) ?_
   refine AllR.cons ?_ AllR.nil
   refine A_op (ls' := #[true, true, true, true, true, true, true, true, true, false]) rfl (by kernel_rfl) (T_callW (al := [(vQ f9_p.a), (vQ sb)]) rfl rfl cb166 (Calls.into (n := 12) func166 rfl ntmps166 rfl rfl ?_))
   refine cR fun _ hK587_ => ?_
   refine sv (v := (vI .i64 0)) (x_assign rfl) ?_
   refine wn (hK587_ _ _ ?_)
   refine C_seq (fun _ hK588_ => ?_)
   refine cR fun _ hK589_ => ?_
   refine sm (vQ f9_p.a) ?_
   refine sm (vQ sb) ?_
   have hpc590_ : f9_p.a ≠ sb := Holds.ne_f H585_ 5 rfl 12 rfl (by decide)
   refine sv (v := (vB false)) (x_cast (x_eqPN rfl rfl underlying173 z182 (by decide) (Holds.blk H585_ 5 rfl) (Holds.blk H585_ 12 rfl)) (congrArg vB (decide_eq_false hpc590_))) ?_
   refine wn (hK589_ _ _ ?_)
   refine C_condF rfl ?_
   refine C_skip (X_then (hK588_ _ _ ?_))
   refine cR fun _ hK591_ => ?_
   refine sm (vQ f9_p.a) ?_
   refine sv (v := (vQ f9_p.a)) (by kernel_rfl) ?_
   refine sv (v := (vP (some ⟨f9_p.a, 7, none⟩))) (by kernel_rfl) ?_
   refine sv (v := (vI .i64 f9_p.c)) (x_load1 rfl underlying180 rfl ((Holds.rdf H585_ 5 rfl) 7 (vI .i64 f9_p.c) rfl)) ?_
   refine sv (v := (vI .i64 f9_p.c)) (x_assign rfl) ?_
   refine wn (hK591_ _ _ ?_)
   refine C_ret ?_
   refine R_any (v := (vI .i64 f9_p.c)) (run_results1 rfl rfl) ⟨_, rfl, ?_⟩
   refine ⟨⟨(And.intro (Holds.rdf H585_ 0 rfl) (Holds.blk H585_ 0 rfl)), Holds.tr_rd H585_ 1 rfl 12 rfl, Holds.tr_rd H585_ 2 rfl 12 rfl, (And.intro (Holds.rdf H585_ 3 rfl) (Holds.blk H585_ 3 rfl)), (And.intro (Holds.rdf H585_ 5 rfl) (Holds.blk H585_ 5 rfl)), Holds.tr_rd H585_ 6 rfl 12 rfl, (And.intro (Holds.rdf H585_ 7 rfl) (Holds.blk H585_ 7 rfl)), Holds.tr_rd H585_ 8 rfl 12 rfl, Holds.tr_rd H585_ 9 rfl 12 rfl, Holds.rd H585_ 11 rfl, (Holds.ro_at H585_ 10 rfl)⟩, ?_⟩
   refine A_tk 9 (v := (vB (decide (f9_p.c = 1)))) rfl (by kernel_rfl) (fun w hS => x_bin rfl rfl rfl) hq586_ ?_
   refine A_done (by kernel_rfl) ?_
   refine (X_then (hK8_ _ _ ?_))
   refine C_cond (b := decide (f9_p.c = 1)) rfl (fun c592_t => ?_) (fun c592_f => ?_)
   ·have c592_tp : f9_p.c = 1 := of_decide_eq_true c592_t
    refine C_skip (X_then (hK7_ _ _ ?_))
    refine C_block ?_
    refine C_seq (fun _ hK593_ => ?_)
    refine A_start (S := fun w => (Rd f9_u.a [f9_u.b, f9_u.e, f9_u.v, f9_u.mx, (vQ (rt sb f9_ul)), (vQ (rt sb f9_ur)), (vQ f9_g.a), (vI .i64 f9_u.c)] w ∧ Blk w f9_u.a) ∧ RtRd w (rt sb f9_ul) (rmx f9_ul) ∧ RtRd w (rt sb f9_ur) (rmx f9_ur) ∧ (Rd f9_g.a [f9_g.b, f9_g.e, f9_g.v, f9_g.mx, (vQ f9_u.a), (vQ f9_p.a), (vQ (pa sb f9_C)), (vI .i64 f9_g.c)] w ∧ Blk w f9_g.a) ∧ (Rd f9_p.a [f9_p.b, f9_p.e, f9_p.v, f9_p.mx, (vQ z.a), (vQ (rt sb f9_s)), (vQ f9_g.a), (vI .i64 f9_p.c)] w ∧ Blk w f9_p.a) ∧ RtRd w (rt sb f9_s) (rmx f9_s) ∧ (Rd z.a [z.b, z.e, z.v, z.mx, (vQ (rt sb zl)), (vQ (rt sb zr)), (vQ f9_p.a), (vI .i64 z.c)] w ∧ Blk w z.a) ∧ RtRd w (rt sb zl) (rmx zl) ∧ RtRd w (rt sb zr) (rmx zr) ∧ Sub R (hp w)) (N := 15) foll rfl rfl ?_
    have H594_ := Holds.drew_ H585_
    have hq595_ := And.intro ((And.intro (Holds.rdf H594_ 0 rfl) (Holds.blk H594_ 0 rfl))) (And.intro (Holds.tr_rd H594_ 1 rfl 12 rfl) (And.intro (Holds.tr_rd H594_ 2 rfl 12 rfl) (And.intro ((And.intro (Holds.rdf H594_ 3 rfl) (Holds.blk H594_ 3 rfl))) (And.intro ((And.intro (Holds.rdf H594_ 5 rfl) (Holds.blk H594_ 5 rfl))) (And.intro (Holds.tr_rd H594_ 6 rfl 12 rfl) (And.intro ((And.intro (Holds.rdf H594_ 7 rfl) (Holds.blk H594_ 7 rfl))) (And.intro (Holds.tr_rd H594_ 8 rfl 12 rfl) (And.intro (Holds.tr_rd H594_ 9 rfl 12 rfl) ((Holds.ro_at H594_ 10 rfl))))))))))
    refine A_tk 0 (v := (vQ z.a)) rfl (by kernel_rfl) (fun w hS => x_move rfl) hq595_ ?_
    refine A_tk 1 (v := (vQ z.a)) rfl (by kernel_rfl) (fun w hS => by kernel_rfl) hq595_ ?_
    refine A_tk 2 (v := (vP (some ⟨z.a, 6, none⟩))) rfl (by kernel_rfl) (fun w hS => by kernel_rfl) hq595_ ?_
    refine A_tk 3 (v := (vQ f9_p.a)) rfl (by kernel_rfl) (fun w hS => x_load1 rfl underlying173 rfl (hS.2.2.2.2.2.2.1.1 6 (vQ f9_p.a) rfl)) hq595_ ?_
    refine A_tk 4 (v := (vQ z.a)) rfl (by kernel_rfl) (fun w hS => x_move rfl) hq595_ ?_
    refine A_tk 5 (v := (vQ z.a)) rfl (by kernel_rfl) (fun w hS => by kernel_rfl) hq595_ ?_
    refine A_tk 6 (v := (vP (some ⟨z.a, 6, none⟩))) rfl (by kernel_rfl) (fun w hS => by kernel_rfl) hq595_ ?_
    refine A_tk 7 (v := (vQ f9_p.a)) rfl (by kernel_rfl) (fun w hS => x_load1 rfl underlying173 rfl (hS.2.2.2.2.2.2.1.1 6 (vQ f9_p.a) rfl)) hq595_ ?_
    refine A_tk 8 (v := (vQ f9_p.a)) rfl (by kernel_rfl) (fun w hS => by kernel_rfl) hq595_ ?_
    refine A_tk 9 (v := (vP (some ⟨f9_p.a, 6, none⟩))) rfl (by kernel_rfl) (fun w hS => by kernel_rfl) hq595_ ?_
    refine A_tk 10 (v := (vQ f9_g.a)) rfl (by kernel_rfl) (fun w hS => x_load1 rfl underlying173 rfl (hS.2.2.2.2.1.1 6 (vQ f9_g.a) rfl)) hq595_ ?_
    refine A_tk 11 (v := (vQ f9_g.a)) rfl (by kernel_rfl) (fun w hS => by kernel_rfl) hq595_ ?_
    refine A_tk 12 (v := (vP (some ⟨f9_g.a, 4, none⟩))) rfl (by kernel_rfl) (fun w hS => by kernel_rfl) hq595_ ?_
    refine A_tk 13 (v := (vQ f9_u.a)) rfl (by kernel_rfl) (fun w hS => x_load1 rfl underlying173 rfl (hS.2.2.2.1.1 4 (vQ f9_u.a) rfl)) hq595_ ?_
    have hpc596_ : f9_p.a ≠ f9_u.a := Holds.ne_f H594_ 5 rfl 0 rfl (by decide)
    refine A_tk 14 (v := (vB false)) rfl (by kernel_rfl) (fun w hS => x_cast (x_eqPN rfl rfl underlying173 z182 (by decide) hS.2.2.2.2.1.2 hS.1.2) (congrArg vB (decide_eq_false hpc596_))) hq595_ ?_
    refine A_done (by kernel_rfl) ?_
    refine (X_then (hK593_ _ _ ?_))
    refine C_condF rfl ?_
    refine cR fun _ hK597_ => ?_
    refine sm (vQ z.a) ?_
    refine sv (v := (vQ z.a)) (by kernel_rfl) ?_
    refine sv (v := (vP (some ⟨z.a, 6, none⟩))) (by kernel_rfl) ?_
    refine sv (v := (vQ f9_p.a)) (x_load1 rfl underlying173 rfl ((Holds.rdf H594_ 7 rfl) 6 (vQ f9_p.a) rfl)) ?_
    refine sv (v := (vQ f9_p.a)) (by kernel_rfl) ?_
    refine sv (v := (vP (some ⟨f9_p.a, 6, none⟩))) (by kernel_rfl) ?_
    refine sv (v := (vQ f9_g.a)) (x_load1 rfl underlying173 rfl ((Holds.rdf H594_ 5 rfl) 6 (vQ f9_g.a) rfl)) ?_
    refine sv (v := (vQ f9_g.a)) (by kernel_rfl) ?_
    refine sv (v := (vP (some ⟨f9_g.a, 4, none⟩))) (by kernel_rfl) ?_
    refine sv (v := (vQ f9_u.a)) (x_load1 rfl underlying173 rfl ((Holds.rdf H594_ 3 rfl) 4 (vQ f9_u.a) rfl)) ?_
    refine sv (v := (vQ f9_u.a)) (x_assign rfl) ?_
    refine wn (hK597_ _ _ ?_)
    refine cR fun _ hK598_ => ?_
    refine sm (vQ f9_u.a) ?_
    refine sm (vQ tb) ?_
    refine sv (v := (vQ tb)) (by kernel_rfl) ?_
    refine sv (v := (vP (some ⟨tb, 2, none⟩))) (by kernel_rfl) ?_
    refine sv (v := (vQ sb)) (x_load1 rfl underlying173 rfl ((Holds.rd H594_ 11 rfl) 2 (vQ sb) rfl)) ?_
    refine S_list (T_callW (al := [(vQ f9_u.a), (vQ sb)]) rfl rfl cb166 (Calls.into (n := 12) func166 rfl ntmps166 rfl rfl ?_))
    refine cR fun _ hK599_ => ?_
    refine sv (v := (vI .i64 0)) (x_assign rfl) ?_
    refine wn (hK599_ _ _ ?_)
    refine C_seq (fun _ hK600_ => ?_)
    refine cR fun _ hK601_ => ?_
    refine sm (vQ f9_u.a) ?_
    refine sm (vQ sb) ?_
    have hpc602_ : f9_u.a ≠ sb := Holds.ne_f H594_ 0 rfl 12 rfl (by decide)
    refine sv (v := (vB false)) (x_cast (x_eqPN rfl rfl underlying173 z182 (by decide) (Holds.blk H594_ 0 rfl) (Holds.blk H594_ 12 rfl)) (congrArg vB (decide_eq_false hpc602_))) ?_
    refine wn (hK601_ _ _ ?_)
    refine C_condF rfl ?_
    refine C_skip (X_then (hK600_ _ _ ?_))
    refine cR fun _ hK603_ => ?_
    refine sm (vQ f9_u.a) ?_
    refine sv (v := (vQ f9_u.a)) (by kernel_rfl) ?_
    refine sv (v := (vP (some ⟨f9_u.a, 7, none⟩))) (by kernel_rfl) ?_
    refine sv (v := (vI .i64 f9_u.c)) (x_load1 rfl underlying180 rfl ((Holds.rdf H594_ 0 rfl) 7 (vI .i64 f9_u.c) rfl)) ?_
    refine sv (v := (vI .i64 f9_u.c)) (x_assign rfl) ?_
    refine wn (hK603_ _ _ ?_)
    refine C_ret ?_
    refine R_any (v := (vI .i64 f9_u.c)) (run_results1 rfl rfl) ⟨_, rfl, ?_⟩
    refine sv (v := (vB (decide (f9_u.c = 1)))) (x_bin rfl rfl rfl) ?_
    refine wn (hK598_ _ _ ?_)
    refine C_cond (b := decide (f9_u.c = 1)) rfl (fun c604_t => ?_) (fun c604_f => ?_)
    ·have c604_tp : f9_u.c = 1 := of_decide_eq_true c604_t
     refine cR fun _ hK605_ => ?_
     refine sm (vQ f9_u.a) ?_
     refine sv (v := (vQ f9_u.a)) (by kernel_rfl) ?_
     refine sv (v := (vP (some ⟨f9_u.a, 7, none⟩))) (by kernel_rfl) ?_
     refine S_list0 (T_store1f (v := (vI .i64 0)) rfl rfl z180 rfl H594_ 0 rfl (Nat.le_of_ble_eq_true (by rfl)) ?_)
     intro w606_ S608_ H607_
     have S609_ := Same.trans (Same.trans (Same.trans S6_ (Same.drew _)) (Same.drew _)) S608_
     refine wn (hK605_ _ _ ?_)
     refine cR fun _ hK610_ => ?_
     refine sm (vQ z.a) ?_
     refine sv (v := (vQ z.a)) (by kernel_rfl) ?_
     refine sv (v := (vP (some ⟨z.a, 6, none⟩))) (by kernel_rfl) ?_
     refine sv (v := (vQ f9_p.a)) (x_load1 rfl underlying173 rfl ((Holds.rdf H607_ 7 rfl) 6 (vQ f9_p.a) rfl)) ?_
     refine sv (v := (vQ f9_p.a)) (by kernel_rfl) ?_
     refine sv (v := (vP (some ⟨f9_p.a, 7, none⟩))) (by kernel_rfl) ?_
     refine S_list0 (T_store1f (v := (vI .i64 0)) rfl rfl z180 rfl H607_ 5 rfl (Nat.le_of_ble_eq_true (by rfl)) ?_)
     intro w611_ S613_ H612_
     have S614_ := Same.trans S609_ S613_
     refine wn (hK610_ _ _ ?_)
     refine cR fun _ hK615_ => ?_
     refine sm (vQ z.a) ?_
     refine sv (v := (vQ z.a)) (by kernel_rfl) ?_
     refine sv (v := (vP (some ⟨z.a, 6, none⟩))) (by kernel_rfl) ?_
     refine sv (v := (vQ f9_p.a)) (x_load1 rfl underlying173 rfl ((Holds.rdf H612_ 7 rfl) 6 (vQ f9_p.a) rfl)) ?_
     refine sv (v := (vQ f9_p.a)) (by kernel_rfl) ?_
     refine sv (v := (vP (some ⟨f9_p.a, 6, none⟩))) (by kernel_rfl) ?_
     refine sv (v := (vQ f9_g.a)) (x_load1 rfl underlying173 rfl ((Holds.rdf H612_ 5 rfl) 6 (vQ f9_g.a) rfl)) ?_
     refine sv (v := (vQ f9_g.a)) (by kernel_rfl) ?_
     refine sv (v := (vP (some ⟨f9_g.a, 7, none⟩))) (by kernel_rfl) ?_
     refine S_list0 (T_store1f (v := (vI .i64 1)) rfl rfl z180 rfl H612_ 3 rfl (Nat.le_of_ble_eq_true (by rfl)) ?_)
     intro w616_ S618_ H617_
     have S619_ := Same.trans S614_ S618_
     refine wn (hK615_ _ _ ?_)
     refine C_reg ?_
     refine sm (vQ z.a) ?_
     refine sv (v := (vQ z.a)) (by kernel_rfl) ?_
     refine sv (v := (vP (some ⟨z.a, 6, none⟩))) (by kernel_rfl) ?_
     refine sv (v := (vQ f9_p.a)) (x_load1 rfl underlying173 rfl ((Holds.rdf H617_ 7 rfl) 6 (vQ f9_p.a) rfl)) ?_
     refine sv (v := (vQ f9_p.a)) (by kernel_rfl) ?_
     refine sv (v := (vP (some ⟨f9_p.a, 6, none⟩))) (by kernel_rfl) ?_
     refine sv (v := (vQ f9_g.a)) (x_load1 rfl underlying173 rfl ((Holds.rdf H617_ 5 rfl) 6 (vQ f9_g.a) rfl)) ?_
     refine sv (v := (vQ f9_g.a)) (x_assign rfl) ?_
     refine wpList_nil (X_blkN (X_then ?_))
     have H620_ := ((Holds.bring (Holds.bring (Holds.bring H617_ 9 rfl) 9 rfl) 9 rfl) :)
     have H621_ := Holds.nd_tr (n := z) (a := zl) (b := zr) H620_
     have H622_ := ((Holds.bring (Holds.bring (Holds.bring H621_ 7 rfl) 1 rfl) 7 rfl) :)
     have H623_ := Holds.nd_tr (n := (f9_p.setc 0)) (a := (Tr.nd z zl zr)) (b := f9_s) H622_
     have H624_ := ((Holds.bring (Holds.bring (Holds.bring H623_ 3 rfl) 3 rfl) 3 rfl) :)
     have H625_ := Holds.nd_tr (n := (f9_u.setc 0)) (a := f9_ul) (b := f9_ur) H624_
     have H626_ := ((Holds.bring (Holds.bring (Holds.bring H625_ 1 rfl) 1 rfl) 2 rfl) :)
     have H627_ := Holds.nd_tr (n := (f9_g.setc 1)) (a := (Tr.nd (f9_u.setc 0) f9_ul f9_ur)) (b := (Tr.nd (f9_p.setc 0) (Tr.nd z zl zr) f9_s)) H626_
     have hI5 : FxI O R L f9_C (Tr.nd (f9_g.setc 1) (Tr.nd (f9_u.setc 0) f9_ul f9_ur) (Tr.nd (f9_p.setc 0) (Tr.nd z zl zr) f9_s)) := FxI.col 1 (show FxI O R L f9_C (Tr.nd f9_g (Tr.nd (f9_u.setc 0) f9_ul f9_ur) (Tr.nd (f9_p.setc 0) (Tr.nd z zl zr) f9_s)) from FxI.up (FxI.colo 0 (FxI.col 0 (show FxI O R L ((⟨false, f9_g, (Tr.nd f9_u f9_ul f9_ur)⟩ : Fr K) :: f9_C) (Tr.nd f9_p (Tr.nd z zl zr) f9_s) from FxI.up hI1))))
     have H628_ := H627_
     have H629_ := Holds.pkF H628_ [2, 2, 0, 0, 0] 0
     exact ⟨⟨(f9_g.setc 1), (Tr.nd (f9_u.setc 0) f9_ul f9_ur), (Tr.nd (f9_p.setc 0) (Tr.nd z zl zr) f9_s), f9_C⟩, ⟨_, congrArg (fun e => mkA 201 e []) (ch (ch rfl rfl) ((by first | rfl | omega | (simp; done) | (simp; omega)) : (vQ f9_g.a) = (vQ ((f9_g.setc 1).a)))), H629_, S619_, (hI5)⟩, (by first | (simp [rC3_len]; done) | (simp [rC3_len]; omega))⟩
    ·have c604_fp : ¬ (f9_u.c = 1) := of_decide_eq_false c604_f
     refine C_seq (fun _ hK630_ => ?_)
     refine cR fun _ hK631_ => ?_
     refine sm (vQ z.a) ?_
     refine sm (vQ z.a) ?_
     refine sv (v := (vQ z.a)) (by kernel_rfl) ?_
     refine sv (v := (vP (some ⟨z.a, 6, none⟩))) (by kernel_rfl) ?_
     refine sv (v := (vQ f9_p.a)) (x_load1 rfl underlying173 rfl ((Holds.rdf H594_ 7 rfl) 6 (vQ f9_p.a) rfl)) ?_
     refine sv (v := (vQ f9_p.a)) (by kernel_rfl) ?_
     refine sv (v := (vP (some ⟨f9_p.a, 4, none⟩))) (by kernel_rfl) ?_
     refine sv (v := (vQ z.a)) (x_load1 rfl underlying173 rfl ((Holds.rdf H594_ 5 rfl) 4 (vQ z.a) rfl)) ?_
     refine sv (v := (vB true)) (x_eqP rfl rfl underlying173 z182) ?_
     refine wn (hK631_ _ _ ?_)
     refine C_condT rfl ?_
     refine cR fun _ hK632_ => ?_
     refine sm (vQ z.a) ?_
     refine sv (v := (vQ z.a)) (by kernel_rfl) ?_
     refine sv (v := (vP (some ⟨z.a, 6, none⟩))) (by kernel_rfl) ?_
     refine sv (v := (vQ f9_p.a)) (x_load1 rfl underlying173 rfl ((Holds.rdf H594_ 7 rfl) 6 (vQ f9_p.a) rfl)) ?_
     refine sv (v := (vQ f9_p.a)) (x_assign rfl) ?_
     refine wn (hK632_ _ _ ?_)
     refine C_reg ?_
     refine sm (vQ tb) ?_
     refine sm (vQ f9_p.a) ?_
     have H633_ := ((Holds.bring (Holds.bring (Holds.bring H594_ 9 rfl) 9 rfl) 9 rfl) :)
     have H634_ := Holds.nd_tr (n := z) (a := zl) (b := zr) H633_
     have H635_ := ((Holds.bring (Holds.bring (Holds.bring H634_ 3 rfl) 3 rfl) 3 rfl) :)
     have H636_ := Holds.nd_tr (n := f9_u) (a := f9_ul) (b := f9_ur) H635_
     have H637_ := ((Holds.bring (Holds.bring (Holds.bring H636_ 5 rfl) 2 rfl) 5 rfl) :)
     have H638_ := Holds.nd_tr (n := f9_p) (a := (Tr.nd z zl zr)) (b := f9_s) H637_
     have H639_ := ((Holds.bring (Holds.bring (Holds.bring H638_ 3 rfl) 2 rfl) 3 rfl) :)
     have H640_ := Holds.cons_cx (sb := sb) (f := (⟨false, f9_g, (Tr.nd f9_u f9_ul f9_ur)⟩ : Fr K)) (C := f9_C) (x := f9_p.a) H639_
     have H641_ := H640_
     have H643_ := ((Holds.bring (Holds.bring (Holds.bring (Holds.bring (Holds.bring H641_ 4 rfl) 1 rfl) 2 rfl) 4 rfl) 4 rfl) :)
     refine S_list (T_call (al := [(vQ tb), (vQ f9_p.a)]) (pre := [cl tb 185 [(vP (some ⟨(ra f9_p.a ((⟨false, f9_g, (Tr.nd f9_u f9_ul f9_ur)⟩ : Fr K) :: f9_C)), 0, none⟩)), (vI .i64 cnt), (vQ sb)], tr sb (pa sb ((⟨false, f9_g, (Tr.nd f9_u f9_ul f9_ur)⟩ : Fr K) :: f9_C)) (Tr.nd f9_p (Tr.nd z zl zr) f9_s), cx sb f9_p.a ((⟨false, f9_g, (Tr.nd f9_u f9_ul f9_ur)⟩ : Fr K) :: f9_C), clf sb 182 sc]) rfl rfl cb176 (itRotR R K O tb sb cnt sc f9_p z f9_s zr zl ((⟨false, f9_g, (Tr.nd f9_u f9_ul f9_ur)⟩ : Fr K) :: f9_C) ((FxI.up hI1).ck) ((FxI.up hI1).tk)) H643_ ?_)
     rintro v642_ p647_ w644_ ⟨rfl, rfl⟩ S646_ H645_
     have S648_ := Same.trans (Same.trans (Same.trans S6_ (Same.drew _)) (Same.drew _)) S646_
     have hI2 := FxI.rot (d := false) (x := f9_p) (y := z) (A := f9_s) (B := zr) (D := zl) (FxI.up hI1)
     have hra_ := fun q => ra_rC3 (O := O) false f9_p z f9_s zr zl ((⟨false, f9_g, (Tr.nd f9_u f9_ul f9_ur)⟩ : Fr K) :: f9_C) q
     obtain ⟨m649_, C650_, hC651_⟩ := rC3_cons O false f9_p z f9_s zr zl (⟨false, f9_g, (Tr.nd f9_u f9_ul f9_ur)⟩ : Fr K) f9_C
     have H652_ := H645_; rw [← hra_] at H652_; rw [hC651_] at H652_ hI2
     have H653_ := H652_
     have hlen_ : C650_.length = f9_C.length := by have := congrArg List.length hC651_; rw [rC3_len] at this; simpa using this.symm
     have H654_ := H653_
     have H655_ := ((Holds.bring H654_ 3 rfl) :)
     have H656_ := Holds.cx_cons H655_
     have H657_ := ((Holds.bring H656_ 5 rfl) :)
     have H658_ := Holds.tr_nd H657_
     have H659_ := ((Holds.bring H658_ 2 rfl) :)
     have H660_ := Holds.tr_nd H659_
     refine wn (hK630_ _ _ ?_)
     refine cR fun _ hK661_ => ?_
     refine sm (vQ f9_p.a) ?_
     refine sv (v := (vQ f9_p.a)) (by kernel_rfl) ?_
     refine sv (v := (vP (some ⟨f9_p.a, 6, none⟩))) (by kernel_rfl) ?_
     refine sv (v := (vQ z.a)) (x_load1 rfl underlying173 rfl ((Holds.rdf H660_ 0 rfl) 6 (vQ z.a) rfl)) ?_
     refine sv (v := (vQ z.a)) (by kernel_rfl) ?_
     refine sv (v := (vP (some ⟨z.a, 7, none⟩))) (by kernel_rfl) ?_
     refine S_list0 (T_store1f (v := (vI .i64 0)) rfl rfl z180 rfl H660_ 3 rfl (Nat.le_of_ble_eq_true (by rfl)) ?_)
     intro w662_ S664_ H663_
     have S665_ := Same.trans S648_ S664_
     refine wn (hK661_ _ _ ?_)
     refine cR fun _ hK666_ => ?_
     refine sm (vQ f9_p.a) ?_
     refine sv (v := (vQ f9_p.a)) (by kernel_rfl) ?_
     refine sv (v := (vP (some ⟨f9_p.a, 6, none⟩))) (by kernel_rfl) ?_
     refine sv (v := (vQ z.a)) (x_load1 rfl underlying173 rfl ((Holds.rdf H663_ 0 rfl) 6 (vQ z.a) rfl)) ?_
     refine sv (v := (vQ z.a)) (by kernel_rfl) ?_
     refine sv (v := (vP (some ⟨z.a, 6, none⟩))) (by kernel_rfl) ?_
     refine sv (v := (vQ f9_g.a)) (x_load1 rfl underlying173 rfl ((Holds.rdf H663_ 3 rfl) 6 (vQ f9_g.a) rfl)) ?_
     refine sv (v := (vQ f9_g.a)) (by kernel_rfl) ?_
     refine sv (v := (vP (some ⟨f9_g.a, 7, none⟩))) (by kernel_rfl) ?_
     refine S_list0 (T_store1f (v := (vI .i64 1)) rfl rfl z180 rfl H663_ 5 rfl (Nat.le_of_ble_eq_true (by rfl)) ?_)
     intro w667_ S669_ H668_
     have S670_ := Same.trans S665_ S669_
     refine wn (hK666_ _ _ ?_)
     refine C_reg ?_
     refine sm (vQ tb) ?_
     refine sm (vQ f9_p.a) ?_
     refine sv (v := (vQ f9_p.a)) (by kernel_rfl) ?_
     refine sv (v := (vP (some ⟨f9_p.a, 6, none⟩))) (by kernel_rfl) ?_
     refine sv (v := (vQ z.a)) (x_load1 rfl underlying173 rfl ((Holds.rdf H668_ 0 rfl) 6 (vQ z.a) rfl)) ?_
     refine sv (v := (vQ z.a)) (by kernel_rfl) ?_
     refine sv (v := (vP (some ⟨z.a, 6, none⟩))) (by kernel_rfl) ?_
     refine sv (v := (vQ f9_g.a)) (x_load1 rfl underlying173 rfl ((Holds.rdf H668_ 3 rfl) 6 (vQ f9_g.a) rfl)) ?_
     have H671_ := Holds.nd_tr (n := (f9_p.setmx (rV1 O false f9_p f9_s zr))) (a := zr) (b := f9_s) H668_
     have H672_ := ((Holds.bring (Holds.bring H671_ 2 rfl) 2 rfl) :)
     have H673_ := Holds.nd_tr (n := ((z.setmx (rV2 O false f9_p z f9_s zr zl)).setc 0)) (a := zl) (b := (Tr.nd (f9_p.setmx (rV1 O false f9_p f9_s zr)) zr f9_s)) H672_
     have H674_ := ((Holds.bring (Holds.bring H673_ 2 rfl) 2 rfl) :)
     have H675_ := Holds.nd_tr (n := ((f9_g.setmx m649_).setc 1)) (a := (Tr.nd f9_u f9_ul f9_ur)) (b := (Tr.nd ((z.setmx (rV2 O false f9_p z f9_s zr zl)).setc 0) zl (Tr.nd (f9_p.setmx (rV1 O false f9_p f9_s zr)) zr f9_s))) H674_
     have H676_ := H675_
     have hI3 : FxI O R L C650_ (rOr true ((f9_g.setmx m649_).setc 1) ((z.setmx (rV2 O false f9_p z f9_s zr zl)).setc 0) (Tr.nd f9_u f9_ul f9_ur) zl (Tr.nd (f9_p.setmx (rV1 O false f9_p f9_s zr)) zr f9_s)) := FxI.col 1 (show FxI O R L C650_ (Tr.nd (f9_g.setmx m649_) (Tr.nd f9_u f9_ul f9_ur) (Tr.nd ((z.setmx (rV2 O false f9_p z f9_s zr zl)).setc 0) zl (Tr.nd (f9_p.setmx (rV1 O false f9_p f9_s zr)) zr f9_s))) from FxI.up (FxI.col 0 (show FxI O R L ((⟨false, f9_g, (Tr.nd f9_u f9_ul f9_ur)⟩ : Fr K).setmx m649_ :: C650_) (Tr.nd (z.setmx (rV2 O false f9_p z f9_s zr zl)) zl (Tr.nd (f9_p.setmx (rV1 O false f9_p f9_s zr)) zr f9_s)) from hI2)))
     have H678_ := ((Holds.bring (Holds.bring (Holds.bring (Holds.bring (Holds.bring H676_ 4 rfl) 2 rfl) 2 rfl) 4 rfl) 4 rfl) :)
     refine S_list (T_call (al := [(vQ tb), (vQ (((f9_g.setmx m649_).setc 1).a))]) (pre := [cl tb 185 [(vQ ((ra ((f9_g.setmx m649_).setc 1).a C650_))), (vI .i64 cnt), (vQ sb)], tr sb (pa sb C650_) (Tr.nd ((f9_g.setmx m649_).setc 1) (Tr.nd f9_u f9_ul f9_ur) (Tr.nd ((z.setmx (rV2 O false f9_p z f9_s zr zl)).setc 0) zl (Tr.nd (f9_p.setmx (rV1 O false f9_p f9_s zr)) zr f9_s))), cx sb (((f9_g.setmx m649_).setc 1).a) C650_, clf sb 182 sc]) rfl (lcons rfl (lcons ((by first | rfl | omega | (simp; done) | (simp; omega)) : (vQ f9_g.a) = (vQ (((f9_g.setmx m649_).setc 1).a))) rfl)) cb175 (itRotL R K O tb sb cnt sc ((f9_g.setmx m649_).setc 1) ((z.setmx (rV2 O false f9_p z f9_s zr zl)).setc 0) (Tr.nd f9_u f9_ul f9_ur) zl (Tr.nd (f9_p.setmx (rV1 O false f9_p f9_s zr)) zr f9_s) C650_ (hI3.ck) (hI3.tk)) H678_ ?_)
     rintro v677_ p682_ w679_ ⟨rfl, rfl⟩ S681_ H680_
     have S683_ := Same.trans S670_ S681_
     have hI4 := FxI.rot hI3
     have hI5 : FxI O R L ((⟨false, (((z.setmx (rV2 O false f9_p z f9_s zr zl)).setc 0).setmx (rV2 O true ((f9_g.setmx m649_).setc 1) ((z.setmx (rV2 O false f9_p z f9_s zr zl)).setc 0) (Tr.nd f9_u f9_ul f9_ur) zl (Tr.nd (f9_p.setmx (rV1 O false f9_p f9_s zr)) zr f9_s))), (rTx O true ((f9_g.setmx m649_).setc 1) (Tr.nd f9_u f9_ul f9_ur) zl)⟩ : Fr K) :: (rC3 O true ((f9_g.setmx m649_).setc 1) ((z.setmx (rV2 O false f9_p z f9_s zr zl)).setc 0) (Tr.nd f9_u f9_ul f9_ur) zl (Tr.nd (f9_p.setmx (rV1 O false f9_p f9_s zr)) zr f9_s) C650_)) (Tr.nd (f9_p.setmx (rV1 O false f9_p f9_s zr)) zr f9_s) := FxI.down (f := (⟨false, (((z.setmx (rV2 O false f9_p z f9_s zr zl)).setc 0).setmx (rV2 O true ((f9_g.setmx m649_).setc 1) ((z.setmx (rV2 O false f9_p z f9_s zr zl)).setc 0) (Tr.nd f9_u f9_ul f9_ur) zl (Tr.nd (f9_p.setmx (rV1 O false f9_p f9_s zr)) zr f9_s))), (rTx O true ((f9_g.setmx m649_).setc 1) (Tr.nd f9_u f9_ul f9_ur) zl)⟩ : Fr K)) hI4 (fun _ => rfl)
     have H684_ := H680_; rw [← pa_rC3 (O := O) sb true ((f9_g.setmx m649_).setc 1) ((z.setmx (rV2 O false f9_p z f9_s zr zl)).setc 0) (Tr.nd f9_u f9_ul f9_ur) zl (Tr.nd (f9_p.setmx (rV1 O false f9_p f9_s zr)) zr f9_s) C650_, ← ra_rC3 (O := O) true ((f9_g.setmx m649_).setc 1) ((z.setmx (rV2 O false f9_p z f9_s zr zl)).setc 0) (Tr.nd f9_u f9_ul f9_ur) zl (Tr.nd (f9_p.setmx (rV1 O false f9_p f9_s zr)) zr f9_s) C650_] at H684_
     have H685_ := H684_
     have H686_ := H685_
     have H687_ := ((Holds.bring H686_ 2 rfl) :)
     have H688_ := Holds.tr_nd H687_
     have H689_ := ((Holds.bring (Holds.bring (Holds.bring H688_ 5 rfl) 2 rfl) 2 rfl) :)
     have H690_ := Holds.cons_cx (sb := sb) (f := (⟨false, (((z.setmx (rV2 O false f9_p z f9_s zr zl)).setc 0).setmx (rV2 O true ((f9_g.setmx m649_).setc 1) ((z.setmx (rV2 O false f9_p z f9_s zr zl)).setc 0) (Tr.nd f9_u f9_ul f9_ur) zl (Tr.nd (f9_p.setmx (rV1 O false f9_p f9_s zr)) zr f9_s))), (rTx O true ((f9_g.setmx m649_).setc 1) (Tr.nd f9_u f9_ul f9_ur) zl)⟩ : Fr K)) (C := (rC3 O true ((f9_g.setmx m649_).setc 1) ((z.setmx (rV2 O false f9_p z f9_s zr zl)).setc 0) (Tr.nd f9_u f9_ul f9_ur) zl (Tr.nd (f9_p.setmx (rV1 O false f9_p f9_s zr)) zr f9_s) C650_)) (x := f9_p.a) H689_
     refine wpList_nil (X_blkN (X_then ?_))
     have H691_ := H690_
     have H692_ := Holds.pkF H691_ [2, 2, 1, 0, 0] 0
     exact ⟨⟨(f9_p.setmx (rV1 O false f9_p f9_s zr)), zr, f9_s, ((⟨false, (((z.setmx (rV2 O false f9_p z f9_s zr zl)).setc 0).setmx (rV2 O true ((f9_g.setmx m649_).setc 1) ((z.setmx (rV2 O false f9_p z f9_s zr zl)).setc 0) (Tr.nd f9_u f9_ul f9_ur) zl (Tr.nd (f9_p.setmx (rV1 O false f9_p f9_s zr)) zr f9_s))), (rTx O true ((f9_g.setmx m649_).setc 1) (Tr.nd f9_u f9_ul f9_ur) zl)⟩ : Fr K) :: (rC3 O true ((f9_g.setmx m649_).setc 1) ((z.setmx (rV2 O false f9_p z f9_s zr zl)).setc 0) (Tr.nd f9_u f9_ul f9_ur) zl (Tr.nd (f9_p.setmx (rV1 O false f9_p f9_s zr)) zr f9_s) C650_))⟩, ⟨_, congrArg (fun e => mkA 201 e []) (ch (ch rfl rfl) ((by first | rfl | omega | (simp; done) | (simp; omega)) : (vQ f9_p.a) = (vQ ((f9_p.setmx (rV1 O false f9_p f9_s zr)).a)))), H692_, S683_, (hI5)⟩, (by first | (simp [rC3_len]; done) | (simp [rC3_len]; omega))⟩
   ·have c592_fp : ¬ (f9_p.c = 1) := of_decide_eq_false c592_f
    refine C_exit (X_thenX (X_thenX (X_blkHit ?_)))
    refine (X_then ?_)
    have H693_ := ((Holds.bring (Holds.bring (Holds.bring H585_ 9 rfl) 9 rfl) 9 rfl) :)
    have H694_ := Holds.nd_tr (n := z) (a := zl) (b := zr) H693_
    have H695_ := ((Holds.bring (Holds.bring (Holds.bring H694_ 3 rfl) 3 rfl) 3 rfl) :)
    have H696_ := Holds.nd_tr (n := f9_u) (a := f9_ul) (b := f9_ur) H695_
    have H697_ := ((Holds.bring (Holds.bring (Holds.bring H696_ 3 rfl) 1 rfl) 3 rfl) :)
    have H698_ := Holds.cons_cx (sb := sb) (f := (⟨false, f9_g, (Tr.nd f9_u f9_ul f9_ur)⟩ : Fr K)) (C := f9_C) (x := f9_p.a) H697_
    have H699_ := ((Holds.bring (Holds.bring H698_ 3 rfl) 3 rfl) :)
    have H700_ := Holds.cons_cx (sb := sb) (f := (⟨true, f9_p, f9_s⟩ : Fr K)) (C := ((⟨false, f9_g, (Tr.nd f9_u f9_ul f9_ur)⟩ : Fr K) :: f9_C)) (x := z.a) H699_
    have H701_ := H700_
    have H702_ := ((Holds.bring H701_ 1 rfl) :)
    have H703_ := Holds.plug_in (C := ((⟨true, f9_p, f9_s⟩ : Fr K) :: ((⟨false, f9_g, (Tr.nd f9_u f9_ul f9_ur)⟩ : Fr K) :: f9_C))) (t := (Tr.nd z zl zr)) H702_
    have H704_ : Holds w4_.drew (tr sb sb (plug ((⟨true, f9_p, f9_s⟩ : Fr K) :: ((⟨false, f9_g, (Tr.nd f9_u f9_ul f9_ur)⟩ : Fr K) :: f9_C)) (Tr.nd z zl zr)) :: ro R :: cl tb 185 [(vP (some ⟨(ra z.a ((⟨true, f9_p, f9_s⟩ : Fr K) :: ((⟨false, f9_g, (Tr.nd f9_u f9_ul f9_ur)⟩ : Fr K) :: f9_C))), 0, none⟩)), (vI .i64 cnt), (vQ sb)] :: clf sb 182 sc :: F) := (H703_)
    rw [show ra z.a ((⟨true, f9_p, f9_s⟩ : Fr K) :: ((⟨false, f9_g, (Tr.nd f9_u f9_ul f9_ur)⟩ : Fr K) :: f9_C)) = rt sb (plug ((⟨true, f9_p, f9_s⟩ : Fr K) :: ((⟨false, f9_g, (Tr.nd f9_u f9_ul f9_ur)⟩ : Fr K) :: f9_C)) (Tr.nd z zl zr)) from (rt_plug sb ((⟨true, f9_p, f9_s⟩ : Fr K) :: ((⟨false, f9_g, (Tr.nd f9_u f9_ul f9_ur)⟩ : Fr K) :: f9_C)) z zl zr).symm] at H704_
    have H705_ := H704_
    have H706_ := Holds.pkF H705_ [1, 1, 0, 0] 0
    exact ⟨(plug ((⟨true, f9_p, f9_s⟩ : Fr K) :: ((⟨false, f9_g, (Tr.nd f9_u f9_ul f9_ur)⟩ : Fr K) :: f9_C)) (Tr.nd z zl zr)), _, congrArg (fun e => mkA 201 e []) (ch rfl rfl), H706_, (Same.trans S6_ (Same.drew _)), (FxI.plug hI1), (plug_nd _ _ _ _)⟩
  ·skip
   have H707_ := H5_
   have H708_ := ((Holds.bring H707_ 2 rfl) :)
   have H709_ := Holds.tr_nd H708_
   have H710_ := ((Holds.bring H709_ 5 rfl) :)
   have H711_ := Holds.cx_cons H710_
   have H712_ := ((Holds.bring H711_ 2 rfl) :)
   have H713_ := Holds.cx_cons H712_
   refine A_start (S := fun w => (Rd f9_g.a [f9_g.b, f9_g.e, f9_g.v, f9_g.mx, (vQ f9_p.a), (vQ sb), (vQ (pa sb f9_C)), (vI .i64 f9_g.c)] w ∧ Blk w f9_g.a) ∧ RtRd w (rt sb (Tr.lf : Tr K)) (rmx (Tr.lf : Tr K)) ∧ (Rd f9_p.a [f9_p.b, f9_p.e, f9_p.v, f9_p.mx, (vQ z.a), (vQ (rt sb f9_s)), (vQ f9_g.a), (vI .i64 f9_p.c)] w ∧ Blk w f9_p.a) ∧ RtRd w (rt sb f9_s) (rmx f9_s) ∧ (Rd z.a [z.b, z.e, z.v, z.mx, (vQ (rt sb zl)), (vQ (rt sb zr)), (vQ f9_p.a), (vI .i64 z.c)] w ∧ Blk w z.a) ∧ RtRd w (rt sb zl) (rmx zl) ∧ RtRd w (rt sb zr) (rmx zr) ∧ Rd tb [(vQ (ra f9_g.a f9_C)), (vI .i64 cnt), (vQ sb)] w ∧ Sub R (hp w)) (N := 10) foll rfl rfl ?_
   have H714_ := Holds.drew_ H713_
   have hq715_ := And.intro ((And.intro (Holds.rdf H714_ 0 rfl) (Holds.blk H714_ 0 rfl))) (And.intro (Holds.tr_rd H714_ 1 rfl 10 rfl) (And.intro ((And.intro (Holds.rdf H714_ 3 rfl) (Holds.blk H714_ 3 rfl))) (And.intro (Holds.tr_rd H714_ 4 rfl 10 rfl) (And.intro ((And.intro (Holds.rdf H714_ 5 rfl) (Holds.blk H714_ 5 rfl))) (And.intro (Holds.tr_rd H714_ 6 rfl 10 rfl) (And.intro (Holds.tr_rd H714_ 7 rfl 10 rfl) (And.intro (Holds.rd H714_ 9 rfl) ((Holds.ro_at H714_ 8 rfl)))))))))
   refine A_tk 0 (v := (vQ z.a)) rfl (by kernel_rfl) (fun w hS => x_move rfl) hq715_ ?_
   refine A_tk 1 (v := (vQ z.a)) rfl (by kernel_rfl) (fun w hS => by kernel_rfl) hq715_ ?_
   refine A_tk 2 (v := (vP (some ⟨z.a, 6, none⟩))) rfl (by kernel_rfl) (fun w hS => by kernel_rfl) hq715_ ?_
   refine A_tk 3 (v := (vQ f9_p.a)) rfl (by kernel_rfl) (fun w hS => x_load1 rfl underlying173 rfl (hS.2.2.2.2.1.1 6 (vQ f9_p.a) rfl)) hq715_ ?_
   refine A_tk 4 (v := (vQ tb)) rfl (by kernel_rfl) (fun w hS => x_move rfl) hq715_ ?_
   refine A_tk 5 (v := (vQ tb)) rfl (by kernel_rfl) (fun w hS => by kernel_rfl) hq715_ ?_
   refine A_tk 6 (v := (vP (some ⟨tb, 2, none⟩))) rfl (by kernel_rfl) (fun w hS => by kernel_rfl) hq715_ ?_
   refine A_tk 7 (v := (vQ sb)) rfl (by kernel_rfl) (fun w hS => x_load1 rfl underlying173 rfl (hS.2.2.2.2.2.2.2.1 2 (vQ sb) rfl)) hq715_ ?_
   refine A_ready (i := 8) (rs := []) (by kernel_rfl) ?_
   refine AllR.cons ?_ AllR.nil
   refine A_op (ls' := #[true, true, true, true, true, true, true, true, true, false]) rfl (by kernel_rfl) (T_callW (al := [(vQ f9_p.a), (vQ sb)]) rfl rfl cb166 (Calls.into (n := 12) func166 rfl ntmps166 rfl rfl ?_))
   refine cR fun _ hK716_ => ?_
   refine sv (v := (vI .i64 0)) (x_assign rfl) ?_
   refine wn (hK716_ _ _ ?_)
   refine C_seq (fun _ hK717_ => ?_)
   refine cR fun _ hK718_ => ?_
   refine sm (vQ f9_p.a) ?_
   refine sm (vQ sb) ?_
   have hpc719_ : f9_p.a ≠ sb := Holds.ne_f H714_ 3 rfl 10 rfl (by decide)
   refine sv (v := (vB false)) (x_cast (x_eqPN rfl rfl underlying173 z182 (by decide) (Holds.blk H714_ 3 rfl) (Holds.blk H714_ 10 rfl)) (congrArg vB (decide_eq_false hpc719_))) ?_
   refine wn (hK718_ _ _ ?_)
   refine C_condF rfl ?_
   refine C_skip (X_then (hK717_ _ _ ?_))
   refine cR fun _ hK720_ => ?_
   refine sm (vQ f9_p.a) ?_
   refine sv (v := (vQ f9_p.a)) (by kernel_rfl) ?_
   refine sv (v := (vP (some ⟨f9_p.a, 7, none⟩))) (by kernel_rfl) ?_
   refine sv (v := (vI .i64 f9_p.c)) (x_load1 rfl underlying180 rfl ((Holds.rdf H714_ 3 rfl) 7 (vI .i64 f9_p.c) rfl)) ?_
   refine sv (v := (vI .i64 f9_p.c)) (x_assign rfl) ?_
   refine wn (hK720_ _ _ ?_)
   refine C_ret ?_
   refine R_any (v := (vI .i64 f9_p.c)) (run_results1 rfl rfl) ⟨_, rfl, ?_⟩
   refine ⟨⟨(And.intro (Holds.rdf H714_ 0 rfl) (Holds.blk H714_ 0 rfl)), Holds.tr_rd H714_ 1 rfl 10 rfl, (And.intro (Holds.rdf H714_ 3 rfl) (Holds.blk H714_ 3 rfl)), Holds.tr_rd H714_ 4 rfl 10 rfl, (And.intro (Holds.rdf H714_ 5 rfl) (Holds.blk H714_ 5 rfl)), Holds.tr_rd H714_ 6 rfl 10 rfl, Holds.tr_rd H714_ 7 rfl 10 rfl, Holds.rd H714_ 9 rfl, (Holds.ro_at H714_ 8 rfl)⟩, ?_⟩
   refine A_tk 9 (v := (vB (decide (f9_p.c = 1)))) rfl (by kernel_rfl) (fun w hS => x_bin rfl rfl rfl) hq715_ ?_
   refine A_done (by kernel_rfl) ?_
   refine (X_then (hK8_ _ _ ?_))
   refine C_cond (b := decide (f9_p.c = 1)) rfl (fun c721_t => ?_) (fun c721_f => ?_)
   ·have c721_tp : f9_p.c = 1 := of_decide_eq_true c721_t
    refine C_skip (X_then (hK7_ _ _ ?_))
    refine C_block ?_
    refine C_seq (fun _ hK722_ => ?_)
    refine A_start (S := fun w => (Rd f9_g.a [f9_g.b, f9_g.e, f9_g.v, f9_g.mx, (vQ f9_p.a), (vQ sb), (vQ (pa sb f9_C)), (vI .i64 f9_g.c)] w ∧ Blk w f9_g.a) ∧ RtRd w (rt sb (Tr.lf : Tr K)) (rmx (Tr.lf : Tr K)) ∧ (Rd f9_p.a [f9_p.b, f9_p.e, f9_p.v, f9_p.mx, (vQ z.a), (vQ (rt sb f9_s)), (vQ f9_g.a), (vI .i64 f9_p.c)] w ∧ Blk w f9_p.a) ∧ RtRd w (rt sb f9_s) (rmx f9_s) ∧ (Rd z.a [z.b, z.e, z.v, z.mx, (vQ (rt sb zl)), (vQ (rt sb zr)), (vQ f9_p.a), (vI .i64 z.c)] w ∧ Blk w z.a) ∧ RtRd w (rt sb zl) (rmx zl) ∧ RtRd w (rt sb zr) (rmx zr) ∧ Sub R (hp w)) (N := 15) foll rfl rfl ?_
    have H723_ := Holds.drew_ H714_
    have hq724_ := And.intro ((And.intro (Holds.rdf H723_ 0 rfl) (Holds.blk H723_ 0 rfl))) (And.intro (Holds.tr_rd H723_ 1 rfl 10 rfl) (And.intro ((And.intro (Holds.rdf H723_ 3 rfl) (Holds.blk H723_ 3 rfl))) (And.intro (Holds.tr_rd H723_ 4 rfl 10 rfl) (And.intro ((And.intro (Holds.rdf H723_ 5 rfl) (Holds.blk H723_ 5 rfl))) (And.intro (Holds.tr_rd H723_ 6 rfl 10 rfl) (And.intro (Holds.tr_rd H723_ 7 rfl 10 rfl) ((Holds.ro_at H723_ 8 rfl))))))))
    refine A_tk 0 (v := (vQ z.a)) rfl (by kernel_rfl) (fun w hS => x_move rfl) hq724_ ?_
    refine A_tk 1 (v := (vQ z.a)) rfl (by kernel_rfl) (fun w hS => by kernel_rfl) hq724_ ?_
    refine A_tk 2 (v := (vP (some ⟨z.a, 6, none⟩))) rfl (by kernel_rfl) (fun w hS => by kernel_rfl) hq724_ ?_
    refine A_tk 3 (v := (vQ f9_p.a)) rfl (by kernel_rfl) (fun w hS => x_load1 rfl underlying173 rfl (hS.2.2.2.2.1.1 6 (vQ f9_p.a) rfl)) hq724_ ?_
    refine A_tk 4 (v := (vQ z.a)) rfl (by kernel_rfl) (fun w hS => x_move rfl) hq724_ ?_
    refine A_tk 5 (v := (vQ z.a)) rfl (by kernel_rfl) (fun w hS => by kernel_rfl) hq724_ ?_
    refine A_tk 6 (v := (vP (some ⟨z.a, 6, none⟩))) rfl (by kernel_rfl) (fun w hS => by kernel_rfl) hq724_ ?_
    refine A_tk 7 (v := (vQ f9_p.a)) rfl (by kernel_rfl) (fun w hS => x_load1 rfl underlying173 rfl (hS.2.2.2.2.1.1 6 (vQ f9_p.a) rfl)) hq724_ ?_
    refine A_tk 8 (v := (vQ f9_p.a)) rfl (by kernel_rfl) (fun w hS => by kernel_rfl) hq724_ ?_
    refine A_tk 9 (v := (vP (some ⟨f9_p.a, 6, none⟩))) rfl (by kernel_rfl) (fun w hS => by kernel_rfl) hq724_ ?_
    refine A_tk 10 (v := (vQ f9_g.a)) rfl (by kernel_rfl) (fun w hS => x_load1 rfl underlying173 rfl (hS.2.2.1.1 6 (vQ f9_g.a) rfl)) hq724_ ?_
    refine A_tk 11 (v := (vQ f9_g.a)) rfl (by kernel_rfl) (fun w hS => by kernel_rfl) hq724_ ?_
    refine A_tk 12 (v := (vP (some ⟨f9_g.a, 4, none⟩))) rfl (by kernel_rfl) (fun w hS => by kernel_rfl) hq724_ ?_
    refine A_tk 13 (v := (vQ f9_p.a)) rfl (by kernel_rfl) (fun w hS => x_load1 rfl underlying173 rfl (hS.1.1 4 (vQ f9_p.a) rfl)) hq724_ ?_
    refine A_tk 14 (v := (vB true)) rfl (by kernel_rfl) (fun w hS => x_eqP rfl rfl underlying173 z182) hq724_ ?_
    refine A_done (by kernel_rfl) ?_
    refine (X_then (hK722_ _ _ ?_))
    refine C_condT rfl ?_
    refine cR fun _ hK725_ => ?_
    refine sm (vQ z.a) ?_
    refine sv (v := (vQ z.a)) (by kernel_rfl) ?_
    refine sv (v := (vP (some ⟨z.a, 6, none⟩))) (by kernel_rfl) ?_
    refine sv (v := (vQ f9_p.a)) (x_load1 rfl underlying173 rfl ((Holds.rdf H723_ 5 rfl) 6 (vQ f9_p.a) rfl)) ?_
    refine sv (v := (vQ f9_p.a)) (by kernel_rfl) ?_
    refine sv (v := (vP (some ⟨f9_p.a, 6, none⟩))) (by kernel_rfl) ?_
    refine sv (v := (vQ f9_g.a)) (x_load1 rfl underlying173 rfl ((Holds.rdf H723_ 3 rfl) 6 (vQ f9_g.a) rfl)) ?_
    refine sv (v := (vQ f9_g.a)) (by kernel_rfl) ?_
    refine sv (v := (vP (some ⟨f9_g.a, 5, none⟩))) (by kernel_rfl) ?_
    refine sv (v := (vQ sb)) (x_load1 rfl underlying173 rfl ((Holds.rdf H723_ 0 rfl) 5 (vQ sb) rfl)) ?_
    refine sv (v := (vQ sb)) (x_assign rfl) ?_
    refine wn (hK725_ _ _ ?_)
    refine cR fun _ hK726_ => ?_
    refine sm (vQ sb) ?_
    refine sm (vQ tb) ?_
    refine sv (v := (vQ tb)) (by kernel_rfl) ?_
    refine sv (v := (vP (some ⟨tb, 2, none⟩))) (by kernel_rfl) ?_
    refine sv (v := (vQ sb)) (x_load1 rfl underlying173 rfl ((Holds.rd H723_ 9 rfl) 2 (vQ sb) rfl)) ?_
    refine S_list (T_callW (al := [(vQ sb), (vQ sb)]) rfl rfl cb166 (Calls.into (n := 12) func166 rfl ntmps166 rfl rfl ?_))
    refine cR fun _ hK727_ => ?_
    refine sv (v := (vI .i64 0)) (x_assign rfl) ?_
    refine wn (hK727_ _ _ ?_)
    refine C_seq (fun _ hK728_ => ?_)
    refine cR fun _ hK729_ => ?_
    refine sm (vQ sb) ?_
    refine sm (vQ sb) ?_
    refine sv (v := (vB true)) (x_eqP rfl rfl underlying173 z182) ?_
    refine wn (hK729_ _ _ ?_)
    refine C_condT rfl ?_
    refine cR fun _ hK730_ => ?_
    refine sv (v := (vI .i64 0)) (x_assign rfl) ?_
    refine wn (hK730_ _ _ ?_)
    refine C_ret (X_thenR ?_)
    refine R_any (v := (vI .i64 0)) (run_results1 rfl rfl) ⟨_, rfl, ?_⟩
    refine sv (v := (vB false)) (x_bin rfl rfl rfl) ?_
    refine wn (hK726_ _ _ ?_)
    refine C_condF rfl ?_
    refine C_seq (fun _ hK731_ => ?_)
    refine cR fun _ hK732_ => ?_
    refine sm (vQ z.a) ?_
    refine sm (vQ z.a) ?_
    refine sv (v := (vQ z.a)) (by kernel_rfl) ?_
    refine sv (v := (vP (some ⟨z.a, 6, none⟩))) (by kernel_rfl) ?_
    refine sv (v := (vQ f9_p.a)) (x_load1 rfl underlying173 rfl ((Holds.rdf H723_ 5 rfl) 6 (vQ f9_p.a) rfl)) ?_
    refine sv (v := (vQ f9_p.a)) (by kernel_rfl) ?_
    refine sv (v := (vP (some ⟨f9_p.a, 5, none⟩))) (by kernel_rfl) ?_
    refine sv (v := (vQ (rt sb f9_s))) (x_load1 rfl underlying173 rfl ((Holds.rdf H723_ 3 rfl) 5 (vQ (rt sb f9_s)) rfl)) ?_
    have hpc734_ : z.a ≠ sb := Holds.ne_f H723_ 5 rfl 10 rfl (by decide)
    have hpc733_ : z.a ≠ (rt sb f9_s) := Holds.ne_tr H723_ 5 rfl 4 rfl (by decide) hpc734_
    refine sv (v := (vB false)) (x_cast (x_eqPN rfl rfl underlying173 z182 (by decide) (Holds.blk H723_ 5 rfl) (Holds.tr_rd H723_ 4 rfl 10 rfl).blk) (congrArg vB (decide_eq_false hpc733_))) ?_
    refine wn (hK732_ _ _ ?_)
    refine C_condF rfl ?_
    refine C_skip (X_then (hK731_ _ _ ?_))
    refine cR fun _ hK735_ => ?_
    refine sm (vQ z.a) ?_
    refine sv (v := (vQ z.a)) (by kernel_rfl) ?_
    refine sv (v := (vP (some ⟨z.a, 6, none⟩))) (by kernel_rfl) ?_
    refine sv (v := (vQ f9_p.a)) (x_load1 rfl underlying173 rfl ((Holds.rdf H723_ 5 rfl) 6 (vQ f9_p.a) rfl)) ?_
    refine sv (v := (vQ f9_p.a)) (by kernel_rfl) ?_
    refine sv (v := (vP (some ⟨f9_p.a, 7, none⟩))) (by kernel_rfl) ?_
    refine S_list0 (T_store1f (v := (vI .i64 0)) rfl rfl z180 rfl H723_ 3 rfl (Nat.le_of_ble_eq_true (by rfl)) ?_)
    intro w736_ S738_ H737_
    have S739_ := Same.trans (Same.trans (Same.trans S6_ (Same.drew _)) (Same.drew _)) S738_
    refine wn (hK735_ _ _ ?_)
    refine cR fun _ hK740_ => ?_
    refine sm (vQ z.a) ?_
    refine sv (v := (vQ z.a)) (by kernel_rfl) ?_
    refine sv (v := (vP (some ⟨z.a, 6, none⟩))) (by kernel_rfl) ?_
    refine sv (v := (vQ f9_p.a)) (x_load1 rfl underlying173 rfl ((Holds.rdf H737_ 5 rfl) 6 (vQ f9_p.a) rfl)) ?_
    refine sv (v := (vQ f9_p.a)) (by kernel_rfl) ?_
    refine sv (v := (vP (some ⟨f9_p.a, 6, none⟩))) (by kernel_rfl) ?_
    refine sv (v := (vQ f9_g.a)) (x_load1 rfl underlying173 rfl ((Holds.rdf H737_ 3 rfl) 6 (vQ f9_g.a) rfl)) ?_
    refine sv (v := (vQ f9_g.a)) (by kernel_rfl) ?_
    refine sv (v := (vP (some ⟨f9_g.a, 7, none⟩))) (by kernel_rfl) ?_
    refine S_list0 (T_store1f (v := (vI .i64 1)) rfl rfl z180 rfl H737_ 0 rfl (Nat.le_of_ble_eq_true (by rfl)) ?_)
    intro w741_ S743_ H742_
    have S744_ := Same.trans S739_ S743_
    refine wn (hK740_ _ _ ?_)
    refine C_reg ?_
    refine sm (vQ tb) ?_
    refine sm (vQ z.a) ?_
    refine sv (v := (vQ z.a)) (by kernel_rfl) ?_
    refine sv (v := (vP (some ⟨z.a, 6, none⟩))) (by kernel_rfl) ?_
    refine sv (v := (vQ f9_p.a)) (x_load1 rfl underlying173 rfl ((Holds.rdf H742_ 5 rfl) 6 (vQ f9_p.a) rfl)) ?_
    refine sv (v := (vQ f9_p.a)) (by kernel_rfl) ?_
    refine sv (v := (vP (some ⟨f9_p.a, 6, none⟩))) (by kernel_rfl) ?_
    refine sv (v := (vQ f9_g.a)) (x_load1 rfl underlying173 rfl ((Holds.rdf H742_ 3 rfl) 6 (vQ f9_g.a) rfl)) ?_
    have H745_ := ((Holds.bring (Holds.bring (Holds.bring H742_ 7 rfl) 7 rfl) 7 rfl) :)
    have H746_ := Holds.nd_tr (n := z) (a := zl) (b := zr) H745_
    have H747_ := ((Holds.bring (Holds.bring (Holds.bring H746_ 5 rfl) 1 rfl) 5 rfl) :)
    have H748_ := Holds.nd_tr (n := (f9_p.setc 0)) (a := (Tr.nd z zl zr)) (b := f9_s) H747_
    have H749_ := ((Holds.bring (Holds.bring (Holds.bring H748_ 2 rfl) 1 rfl) 2 rfl) :)
    have H750_ := Holds.nd_tr (n := (f9_g.setc 1)) (a := (Tr.nd (f9_p.setc 0) (Tr.nd z zl zr) f9_s)) (b := (Tr.lf : Tr K)) H749_
    have H751_ := H750_
    have hI3 : FxI O R L f9_C (rOr false (f9_g.setc 1) (f9_p.setc 0) (Tr.lf : Tr K) f9_s (Tr.nd z zl zr)) := FxI.col 1 (show FxI O R L f9_C (Tr.nd f9_g (Tr.nd (f9_p.setc 0) (Tr.nd z zl zr) f9_s) (Tr.lf : Tr K)) from FxI.up (FxI.col 0 (show FxI O R L ((⟨true, f9_g, (Tr.lf : Tr K)⟩ : Fr K) :: f9_C) (Tr.nd f9_p (Tr.nd z zl zr) f9_s) from FxI.up hI1)))
    have H753_ := ((Holds.bring (Holds.bring (Holds.bring (Holds.bring (Holds.bring H751_ 4 rfl) 2 rfl) 2 rfl) 4 rfl) 4 rfl) :)
    refine S_list (T_call (al := [(vQ tb), (vQ ((f9_g.setc 1).a))]) (pre := [cl tb 185 [(vQ (ra (f9_g.setc 1).a f9_C)), (vI .i64 cnt), (vQ sb)], tr sb (pa sb f9_C) (Tr.nd (f9_g.setc 1) (Tr.nd (f9_p.setc 0) (Tr.nd z zl zr) f9_s) (Tr.lf : Tr K)), cx sb ((f9_g.setc 1).a) f9_C, clf sb 182 sc]) rfl (lcons rfl (lcons ((by first | rfl | omega | (simp; done) | (simp; omega)) : (vQ f9_g.a) = (vQ ((f9_g.setc 1).a))) rfl)) cb176 (itRotR R K O tb sb cnt sc (f9_g.setc 1) (f9_p.setc 0) (Tr.lf : Tr K) f9_s (Tr.nd z zl zr) f9_C (hI3.ck) (hI3.tk)) H753_ ?_)
    rintro v752_ p757_ w754_ ⟨rfl, rfl⟩ S756_ H755_
    have S758_ := Same.trans S744_ S756_
    have hI4 := FxI.rot hI3
    have hI5 : FxI O R L ((⟨true, ((f9_p.setc 0).setmx (rV2 O false (f9_g.setc 1) (f9_p.setc 0) (Tr.lf : Tr K) f9_s (Tr.nd z zl zr))), (rTx O false (f9_g.setc 1) (Tr.lf : Tr K) f9_s)⟩ : Fr K) :: (rC3 O false (f9_g.setc 1) (f9_p.setc 0) (Tr.lf : Tr K) f9_s (Tr.nd z zl zr) f9_C)) (Tr.nd z zl zr) := FxI.down (f := (⟨true, ((f9_p.setc 0).setmx (rV2 O false (f9_g.setc 1) (f9_p.setc 0) (Tr.lf : Tr K) f9_s (Tr.nd z zl zr))), (rTx O false (f9_g.setc 1) (Tr.lf : Tr K) f9_s)⟩ : Fr K)) hI4 (fun _ => rfl)
    have H759_ := H755_; rw [← pa_rC3 (O := O) sb false (f9_g.setc 1) (f9_p.setc 0) (Tr.lf : Tr K) f9_s (Tr.nd z zl zr) f9_C, ← ra_rC3 (O := O) false (f9_g.setc 1) (f9_p.setc 0) (Tr.lf : Tr K) f9_s (Tr.nd z zl zr) f9_C] at H759_
    have H760_ := H759_
    have H761_ := H760_
    have H762_ := ((Holds.bring H761_ 2 rfl) :)
    have H763_ := Holds.tr_nd H762_
    have H764_ := ((Holds.bring (Holds.bring (Holds.bring H763_ 5 rfl) 3 rfl) 2 rfl) :)
    have H765_ := Holds.cons_cx (sb := sb) (f := (⟨true, ((f9_p.setc 0).setmx (rV2 O false (f9_g.setc 1) (f9_p.setc 0) (Tr.lf : Tr K) f9_s (Tr.nd z zl zr))), (rTx O false (f9_g.setc 1) (Tr.lf : Tr K) f9_s)⟩ : Fr K)) (C := (rC3 O false (f9_g.setc 1) (f9_p.setc 0) (Tr.lf : Tr K) f9_s (Tr.nd z zl zr) f9_C)) (x := z.a) H764_
    refine wpList_nil (X_blkN (X_then ?_))
    have H766_ := H765_
    have H767_ := Holds.pkF H766_ [2, 2, 1, 0, 0] 0
    exact ⟨⟨z, zl, zr, ((⟨true, ((f9_p.setc 0).setmx (rV2 O false (f9_g.setc 1) (f9_p.setc 0) (Tr.lf : Tr K) f9_s (Tr.nd z zl zr))), (rTx O false (f9_g.setc 1) (Tr.lf : Tr K) f9_s)⟩ : Fr K) :: (rC3 O false (f9_g.setc 1) (f9_p.setc 0) (Tr.lf : Tr K) f9_s (Tr.nd z zl zr) f9_C))⟩, ⟨_, congrArg (fun e => mkA 201 e []) (ch (ch rfl rfl) rfl), H767_, S758_, (hI5)⟩, (by first | (simp [rC3_len]; done) | (simp [rC3_len]; omega))⟩
   ·have c721_fp : ¬ (f9_p.c = 1) := of_decide_eq_false c721_f
    refine C_exit (X_thenX (X_thenX (X_blkHit ?_)))
    refine (X_then ?_)
    have H768_ := ((Holds.bring (Holds.bring (Holds.bring H714_ 7 rfl) 7 rfl) 7 rfl) :)
    have H769_ := Holds.nd_tr (n := z) (a := zl) (b := zr) H768_
    have H770_ := ((Holds.bring (Holds.bring (Holds.bring H769_ 3 rfl) 3 rfl) 3 rfl) :)
    have H771_ := Holds.cons_cx (sb := sb) (f := (⟨true, f9_g, (Tr.lf : Tr K)⟩ : Fr K)) (C := f9_C) (x := f9_p.a) H770_
    have H772_ := ((Holds.bring (Holds.bring H771_ 3 rfl) 3 rfl) :)
    have H773_ := Holds.cons_cx (sb := sb) (f := (⟨true, f9_p, f9_s⟩ : Fr K)) (C := ((⟨true, f9_g, (Tr.lf : Tr K)⟩ : Fr K) :: f9_C)) (x := z.a) H772_
    have H774_ := H773_
    have H775_ := ((Holds.bring H774_ 1 rfl) :)
    have H776_ := Holds.plug_in (C := ((⟨true, f9_p, f9_s⟩ : Fr K) :: ((⟨true, f9_g, (Tr.lf : Tr K)⟩ : Fr K) :: f9_C))) (t := (Tr.nd z zl zr)) H775_
    have H777_ : Holds w4_.drew (tr sb sb (plug ((⟨true, f9_p, f9_s⟩ : Fr K) :: ((⟨true, f9_g, (Tr.lf : Tr K)⟩ : Fr K) :: f9_C)) (Tr.nd z zl zr)) :: ro R :: cl tb 185 [(vP (some ⟨(ra z.a ((⟨true, f9_p, f9_s⟩ : Fr K) :: ((⟨true, f9_g, (Tr.lf : Tr K)⟩ : Fr K) :: f9_C))), 0, none⟩)), (vI .i64 cnt), (vQ sb)] :: clf sb 182 sc :: F) := (H776_)
    rw [show ra z.a ((⟨true, f9_p, f9_s⟩ : Fr K) :: ((⟨true, f9_g, (Tr.lf : Tr K)⟩ : Fr K) :: f9_C)) = rt sb (plug ((⟨true, f9_p, f9_s⟩ : Fr K) :: ((⟨true, f9_g, (Tr.lf : Tr K)⟩ : Fr K) :: f9_C)) (Tr.nd z zl zr)) from (rt_plug sb ((⟨true, f9_p, f9_s⟩ : Fr K) :: ((⟨true, f9_g, (Tr.lf : Tr K)⟩ : Fr K) :: f9_C)) z zl zr).symm] at H777_
    have H778_ := H777_
    have H779_ := Holds.pkF H778_ [1, 1, 0, 0] 0
    exact ⟨(plug ((⟨true, f9_p, f9_s⟩ : Fr K) :: ((⟨true, f9_g, (Tr.lf : Tr K)⟩ : Fr K) :: f9_C)) (Tr.nd z zl zr)), _, congrArg (fun e => mkA 201 e []) (ch rfl rfl), H779_, (Same.trans S6_ (Same.drew _)), (FxI.plug hI1), (plug_nd _ _ _ _)⟩
  ·skip
   have H780_ := H5_
   have H781_ := ((Holds.bring H780_ 2 rfl) :)
   have H782_ := Holds.tr_nd H781_
   have H783_ := ((Holds.bring H782_ 5 rfl) :)
   have H784_ := Holds.cx_cons H783_
   have H785_ := ((Holds.bring H784_ 2 rfl) :)
   have H786_ := Holds.cx_cons H785_
   have H787_ := ((Holds.bring H786_ 1 rfl) :)
   have H788_ := Holds.tr_nd H787_
   refine A_start (S := fun w => (Rd f9_u.a [f9_u.b, f9_u.e, f9_u.v, f9_u.mx, (vQ (rt sb f9_ul)), (vQ (rt sb f9_ur)), (vQ f9_g.a), (vI .i64 f9_u.c)] w ∧ Blk w f9_u.a) ∧ RtRd w (rt sb f9_ul) (rmx f9_ul) ∧ RtRd w (rt sb f9_ur) (rmx f9_ur) ∧ (Rd f9_g.a [f9_g.b, f9_g.e, f9_g.v, f9_g.mx, (vQ f9_p.a), (vQ f9_u.a), (vQ (pa sb f9_C)), (vI .i64 f9_g.c)] w ∧ Blk w f9_g.a) ∧ (Rd f9_p.a [f9_p.b, f9_p.e, f9_p.v, f9_p.mx, (vQ z.a), (vQ (rt sb f9_s)), (vQ f9_g.a), (vI .i64 f9_p.c)] w ∧ Blk w f9_p.a) ∧ RtRd w (rt sb f9_s) (rmx f9_s) ∧ (Rd z.a [z.b, z.e, z.v, z.mx, (vQ (rt sb zl)), (vQ (rt sb zr)), (vQ f9_p.a), (vI .i64 z.c)] w ∧ Blk w z.a) ∧ RtRd w (rt sb zl) (rmx zl) ∧ RtRd w (rt sb zr) (rmx zr) ∧ Rd tb [(vQ (ra f9_g.a f9_C)), (vI .i64 cnt), (vQ sb)] w ∧ Sub R (hp w)) (N := 10) foll rfl rfl ?_
   have H789_ := Holds.drew_ H788_
   have hq790_ := And.intro ((And.intro (Holds.rdf H789_ 0 rfl) (Holds.blk H789_ 0 rfl))) (And.intro (Holds.tr_rd H789_ 1 rfl 12 rfl) (And.intro (Holds.tr_rd H789_ 2 rfl 12 rfl) (And.intro ((And.intro (Holds.rdf H789_ 3 rfl) (Holds.blk H789_ 3 rfl))) (And.intro ((And.intro (Holds.rdf H789_ 5 rfl) (Holds.blk H789_ 5 rfl))) (And.intro (Holds.tr_rd H789_ 6 rfl 12 rfl) (And.intro ((And.intro (Holds.rdf H789_ 7 rfl) (Holds.blk H789_ 7 rfl))) (And.intro (Holds.tr_rd H789_ 8 rfl 12 rfl) (And.intro (Holds.tr_rd H789_ 9 rfl 12 rfl) (And.intro (Holds.rd H789_ 11 rfl) ((Holds.ro_at H789_ 10 rfl)))))))))))
   refine A_tk 0 (v := (vQ z.a)) rfl (by kernel_rfl) (fun w hS => x_move rfl) hq790_ ?_
   refine A_tk 1 (v := (vQ z.a)) rfl (by kernel_rfl) (fun w hS => by kernel_rfl) hq790_ ?_
   refine A_tk 2 (v := (vP (some ⟨z.a, 6, none⟩))) rfl (by kernel_rfl) (fun w hS => by kernel_rfl) hq790_ ?_
   refine A_tk 3 (v := (vQ f9_p.a)) rfl (by kernel_rfl) (fun w hS => x_load1 rfl underlying173 rfl (hS.2.2.2.2.2.2.1.1 6 (vQ f9_p.a) rfl)) hq790_ ?_
   refine A_tk 4 (v := (vQ tb)) rfl (by kernel_rfl) (fun w hS => x_move rfl) hq790_ ?_
   refine A_tk 5 (v := (vQ tb)) rfl (by kernel_rfl) (fun w hS => by kernel_rfl) hq790_ ?_
   refine A_tk 6 (v := (vP (some ⟨tb, 2, none⟩))) rfl (by kernel_rfl) (fun w hS => by kernel_rfl) hq790_ ?_
   refine A_tk 7 (v := (vQ sb)) rfl (by kernel_rfl) (fun w hS => x_load1 rfl underlying173 rfl (hS.2.2.2.2.2.2.2.2.2.1 2 (vQ sb) rfl)) hq790_ ?_
   refine A_ready (i := 8) (rs := []) (by kernel_rfl) ?_
   refine AllR.cons ?_ AllR.nil
   refine A_op (ls' := #[true, true, true, true, true, true, true, true, true, false]) rfl (by kernel_rfl) (T_callW (al := [(vQ f9_p.a), (vQ sb)]) rfl rfl cb166 (Calls.into (n := 12) func166 rfl ntmps166 rfl rfl ?_))
   refine cR fun _ hK791_ => ?_
   refine sv (v := (vI .i64 0)) (x_assign rfl) ?_
   refine wn (hK791_ _ _ ?_)
   refine C_seq (fun _ hK792_ => ?_)
   refine cR fun _ hK793_ => ?_
   refine sm (vQ f9_p.a) ?_
   refine sm (vQ sb) ?_
   have hpc794_ : f9_p.a ≠ sb := Holds.ne_f H789_ 5 rfl 12 rfl (by decide)
   refine sv (v := (vB false)) (x_cast (x_eqPN rfl rfl underlying173 z182 (by decide) (Holds.blk H789_ 5 rfl) (Holds.blk H789_ 12 rfl)) (congrArg vB (decide_eq_false hpc794_))) ?_
   refine wn (hK793_ _ _ ?_)
   refine C_condF rfl ?_
   refine C_skip (X_then (hK792_ _ _ ?_))
   refine cR fun _ hK795_ => ?_
   refine sm (vQ f9_p.a) ?_
   refine sv (v := (vQ f9_p.a)) (by kernel_rfl) ?_
   refine sv (v := (vP (some ⟨f9_p.a, 7, none⟩))) (by kernel_rfl) ?_
   refine sv (v := (vI .i64 f9_p.c)) (x_load1 rfl underlying180 rfl ((Holds.rdf H789_ 5 rfl) 7 (vI .i64 f9_p.c) rfl)) ?_
   refine sv (v := (vI .i64 f9_p.c)) (x_assign rfl) ?_
   refine wn (hK795_ _ _ ?_)
   refine C_ret ?_
   refine R_any (v := (vI .i64 f9_p.c)) (run_results1 rfl rfl) ⟨_, rfl, ?_⟩
   refine ⟨⟨(And.intro (Holds.rdf H789_ 0 rfl) (Holds.blk H789_ 0 rfl)), Holds.tr_rd H789_ 1 rfl 12 rfl, Holds.tr_rd H789_ 2 rfl 12 rfl, (And.intro (Holds.rdf H789_ 3 rfl) (Holds.blk H789_ 3 rfl)), (And.intro (Holds.rdf H789_ 5 rfl) (Holds.blk H789_ 5 rfl)), Holds.tr_rd H789_ 6 rfl 12 rfl, (And.intro (Holds.rdf H789_ 7 rfl) (Holds.blk H789_ 7 rfl)), Holds.tr_rd H789_ 8 rfl 12 rfl, Holds.tr_rd H789_ 9 rfl 12 rfl, Holds.rd H789_ 11 rfl, (Holds.ro_at H789_ 10 rfl)⟩, ?_⟩
   refine A_tk 9 (v := (vB (decide (f9_p.c = 1)))) rfl (by kernel_rfl) (fun w hS => x_bin rfl rfl rfl) hq790_ ?_
   refine A_done (by kernel_rfl) ?_
   refine (X_then (hK8_ _ _ ?_))
   refine C_cond (b := decide (f9_p.c = 1)) rfl (fun c796_t => ?_) (fun c796_f => ?_)
   ·have c796_tp : f9_p.c = 1 := of_decide_eq_true c796_t
    refine C_skip (X_then (hK7_ _ _ ?_))
    refine C_block ?_
    refine C_seq (fun _ hK797_ => ?_)
    refine A_start (S := fun w => (Rd f9_u.a [f9_u.b, f9_u.e, f9_u.v, f9_u.mx, (vQ (rt sb f9_ul)), (vQ (rt sb f9_ur)), (vQ f9_g.a), (vI .i64 f9_u.c)] w ∧ Blk w f9_u.a) ∧ RtRd w (rt sb f9_ul) (rmx f9_ul) ∧ RtRd w (rt sb f9_ur) (rmx f9_ur) ∧ (Rd f9_g.a [f9_g.b, f9_g.e, f9_g.v, f9_g.mx, (vQ f9_p.a), (vQ f9_u.a), (vQ (pa sb f9_C)), (vI .i64 f9_g.c)] w ∧ Blk w f9_g.a) ∧ (Rd f9_p.a [f9_p.b, f9_p.e, f9_p.v, f9_p.mx, (vQ z.a), (vQ (rt sb f9_s)), (vQ f9_g.a), (vI .i64 f9_p.c)] w ∧ Blk w f9_p.a) ∧ RtRd w (rt sb f9_s) (rmx f9_s) ∧ (Rd z.a [z.b, z.e, z.v, z.mx, (vQ (rt sb zl)), (vQ (rt sb zr)), (vQ f9_p.a), (vI .i64 z.c)] w ∧ Blk w z.a) ∧ RtRd w (rt sb zl) (rmx zl) ∧ RtRd w (rt sb zr) (rmx zr) ∧ Sub R (hp w)) (N := 15) foll rfl rfl ?_
    have H798_ := Holds.drew_ H789_
    have hq799_ := And.intro ((And.intro (Holds.rdf H798_ 0 rfl) (Holds.blk H798_ 0 rfl))) (And.intro (Holds.tr_rd H798_ 1 rfl 12 rfl) (And.intro (Holds.tr_rd H798_ 2 rfl 12 rfl) (And.intro ((And.intro (Holds.rdf H798_ 3 rfl) (Holds.blk H798_ 3 rfl))) (And.intro ((And.intro (Holds.rdf H798_ 5 rfl) (Holds.blk H798_ 5 rfl))) (And.intro (Holds.tr_rd H798_ 6 rfl 12 rfl) (And.intro ((And.intro (Holds.rdf H798_ 7 rfl) (Holds.blk H798_ 7 rfl))) (And.intro (Holds.tr_rd H798_ 8 rfl 12 rfl) (And.intro (Holds.tr_rd H798_ 9 rfl 12 rfl) ((Holds.ro_at H798_ 10 rfl))))))))))
    refine A_tk 0 (v := (vQ z.a)) rfl (by kernel_rfl) (fun w hS => x_move rfl) hq799_ ?_
    refine A_tk 1 (v := (vQ z.a)) rfl (by kernel_rfl) (fun w hS => by kernel_rfl) hq799_ ?_
    refine A_tk 2 (v := (vP (some ⟨z.a, 6, none⟩))) rfl (by kernel_rfl) (fun w hS => by kernel_rfl) hq799_ ?_
    refine A_tk 3 (v := (vQ f9_p.a)) rfl (by kernel_rfl) (fun w hS => x_load1 rfl underlying173 rfl (hS.2.2.2.2.2.2.1.1 6 (vQ f9_p.a) rfl)) hq799_ ?_
    refine A_tk 4 (v := (vQ z.a)) rfl (by kernel_rfl) (fun w hS => x_move rfl) hq799_ ?_
    refine A_tk 5 (v := (vQ z.a)) rfl (by kernel_rfl) (fun w hS => by kernel_rfl) hq799_ ?_
    refine A_tk 6 (v := (vP (some ⟨z.a, 6, none⟩))) rfl (by kernel_rfl) (fun w hS => by kernel_rfl) hq799_ ?_
    refine A_tk 7 (v := (vQ f9_p.a)) rfl (by kernel_rfl) (fun w hS => x_load1 rfl underlying173 rfl (hS.2.2.2.2.2.2.1.1 6 (vQ f9_p.a) rfl)) hq799_ ?_
    refine A_tk 8 (v := (vQ f9_p.a)) rfl (by kernel_rfl) (fun w hS => by kernel_rfl) hq799_ ?_
    refine A_tk 9 (v := (vP (some ⟨f9_p.a, 6, none⟩))) rfl (by kernel_rfl) (fun w hS => by kernel_rfl) hq799_ ?_
    refine A_tk 10 (v := (vQ f9_g.a)) rfl (by kernel_rfl) (fun w hS => x_load1 rfl underlying173 rfl (hS.2.2.2.2.1.1 6 (vQ f9_g.a) rfl)) hq799_ ?_
    refine A_tk 11 (v := (vQ f9_g.a)) rfl (by kernel_rfl) (fun w hS => by kernel_rfl) hq799_ ?_
    refine A_tk 12 (v := (vP (some ⟨f9_g.a, 4, none⟩))) rfl (by kernel_rfl) (fun w hS => by kernel_rfl) hq799_ ?_
    refine A_tk 13 (v := (vQ f9_p.a)) rfl (by kernel_rfl) (fun w hS => x_load1 rfl underlying173 rfl (hS.2.2.2.1.1 4 (vQ f9_p.a) rfl)) hq799_ ?_
    refine A_tk 14 (v := (vB true)) rfl (by kernel_rfl) (fun w hS => x_eqP rfl rfl underlying173 z182) hq799_ ?_
    refine A_done (by kernel_rfl) ?_
    refine (X_then (hK797_ _ _ ?_))
    refine C_condT rfl ?_
    refine cR fun _ hK800_ => ?_
    refine sm (vQ z.a) ?_
    refine sv (v := (vQ z.a)) (by kernel_rfl) ?_
    refine sv (v := (vP (some ⟨z.a, 6, none⟩))) (by kernel_rfl) ?_
    refine sv (v := (vQ f9_p.a)) (x_load1 rfl underlying173 rfl ((Holds.rdf H798_ 7 rfl) 6 (vQ f9_p.a) rfl)) ?_
    refine sv (v := (vQ f9_p.a)) (by kernel_rfl) ?_
    refine sv (v := (vP (some ⟨f9_p.a, 6, none⟩))) (by kernel_rfl) ?_
    refine sv (v := (vQ f9_g.a)) (x_load1 rfl underlying173 rfl ((Holds.rdf H798_ 5 rfl) 6 (vQ f9_g.a) rfl)) ?_
    refine sv (v := (vQ f9_g.a)) (by kernel_rfl) ?_
    refine sv (v := (vP (some ⟨f9_g.a, 5, none⟩))) (by kernel_rfl) ?_
    refine sv (v := (vQ f9_u.a)) (x_load1 rfl underlying173 rfl ((Holds.rdf H798_ 3 rfl) 5 (vQ f9_u.a) rfl)) ?_
    refine sv (v := (vQ f9_u.a)) (x_assign rfl) ?_
    refine wn (hK800_ _ _ ?_)
    refine cR fun _ hK801_ => ?_
    refine sm (vQ f9_u.a) ?_
    refine sm (vQ tb) ?_
    refine sv (v := (vQ tb)) (by kernel_rfl) ?_
    refine sv (v := (vP (some ⟨tb, 2, none⟩))) (by kernel_rfl) ?_
    refine sv (v := (vQ sb)) (x_load1 rfl underlying173 rfl ((Holds.rd H798_ 11 rfl) 2 (vQ sb) rfl)) ?_
    refine S_list (T_callW (al := [(vQ f9_u.a), (vQ sb)]) rfl rfl cb166 (Calls.into (n := 12) func166 rfl ntmps166 rfl rfl ?_))
    refine cR fun _ hK802_ => ?_
    refine sv (v := (vI .i64 0)) (x_assign rfl) ?_
    refine wn (hK802_ _ _ ?_)
    refine C_seq (fun _ hK803_ => ?_)
    refine cR fun _ hK804_ => ?_
    refine sm (vQ f9_u.a) ?_
    refine sm (vQ sb) ?_
    have hpc805_ : f9_u.a ≠ sb := Holds.ne_f H798_ 0 rfl 12 rfl (by decide)
    refine sv (v := (vB false)) (x_cast (x_eqPN rfl rfl underlying173 z182 (by decide) (Holds.blk H798_ 0 rfl) (Holds.blk H798_ 12 rfl)) (congrArg vB (decide_eq_false hpc805_))) ?_
    refine wn (hK804_ _ _ ?_)
    refine C_condF rfl ?_
    refine C_skip (X_then (hK803_ _ _ ?_))
    refine cR fun _ hK806_ => ?_
    refine sm (vQ f9_u.a) ?_
    refine sv (v := (vQ f9_u.a)) (by kernel_rfl) ?_
    refine sv (v := (vP (some ⟨f9_u.a, 7, none⟩))) (by kernel_rfl) ?_
    refine sv (v := (vI .i64 f9_u.c)) (x_load1 rfl underlying180 rfl ((Holds.rdf H798_ 0 rfl) 7 (vI .i64 f9_u.c) rfl)) ?_
    refine sv (v := (vI .i64 f9_u.c)) (x_assign rfl) ?_
    refine wn (hK806_ _ _ ?_)
    refine C_ret ?_
    refine R_any (v := (vI .i64 f9_u.c)) (run_results1 rfl rfl) ⟨_, rfl, ?_⟩
    refine sv (v := (vB (decide (f9_u.c = 1)))) (x_bin rfl rfl rfl) ?_
    refine wn (hK801_ _ _ ?_)
    refine C_cond (b := decide (f9_u.c = 1)) rfl (fun c807_t => ?_) (fun c807_f => ?_)
    ·have c807_tp : f9_u.c = 1 := of_decide_eq_true c807_t
     refine cR fun _ hK808_ => ?_
     refine sm (vQ f9_u.a) ?_
     refine sv (v := (vQ f9_u.a)) (by kernel_rfl) ?_
     refine sv (v := (vP (some ⟨f9_u.a, 7, none⟩))) (by kernel_rfl) ?_
     refine S_list0 (T_store1f (v := (vI .i64 0)) rfl rfl z180 rfl H798_ 0 rfl (Nat.le_of_ble_eq_true (by rfl)) ?_)
     intro w809_ S811_ H810_
     have S812_ := Same.trans (Same.trans (Same.trans S6_ (Same.drew _)) (Same.drew _)) S811_
     refine wn (hK808_ _ _ ?_)
     refine cR fun _ hK813_ => ?_
     refine sm (vQ z.a) ?_
     refine sv (v := (vQ z.a)) (by kernel_rfl) ?_
     refine sv (v := (vP (some ⟨z.a, 6, none⟩))) (by kernel_rfl) ?_
     refine sv (v := (vQ f9_p.a)) (x_load1 rfl underlying173 rfl ((Holds.rdf H810_ 7 rfl) 6 (vQ f9_p.a) rfl)) ?_
     refine sv (v := (vQ f9_p.a)) (by kernel_rfl) ?_
     refine sv (v := (vP (some ⟨f9_p.a, 7, none⟩))) (by kernel_rfl) ?_
     refine S_list0 (T_store1f (v := (vI .i64 0)) rfl rfl z180 rfl H810_ 5 rfl (Nat.le_of_ble_eq_true (by rfl)) ?_)
     intro w814_ S816_ H815_
     have S817_ := Same.trans S812_ S816_
     refine wn (hK813_ _ _ ?_)
     refine cR fun _ hK818_ => ?_
     refine sm (vQ z.a) ?_
     refine sv (v := (vQ z.a)) (by kernel_rfl) ?_
     refine sv (v := (vP (some ⟨z.a, 6, none⟩))) (by kernel_rfl) ?_
     refine sv (v := (vQ f9_p.a)) (x_load1 rfl underlying173 rfl ((Holds.rdf H815_ 7 rfl) 6 (vQ f9_p.a) rfl)) ?_
     refine sv (v := (vQ f9_p.a)) (by kernel_rfl) ?_
     refine sv (v := (vP (some ⟨f9_p.a, 6, none⟩))) (by kernel_rfl) ?_
     refine sv (v := (vQ f9_g.a)) (x_load1 rfl underlying173 rfl ((Holds.rdf H815_ 5 rfl) 6 (vQ f9_g.a) rfl)) ?_
     refine sv (v := (vQ f9_g.a)) (by kernel_rfl) ?_
     refine sv (v := (vP (some ⟨f9_g.a, 7, none⟩))) (by kernel_rfl) ?_
     refine S_list0 (T_store1f (v := (vI .i64 1)) rfl rfl z180 rfl H815_ 3 rfl (Nat.le_of_ble_eq_true (by rfl)) ?_)
     intro w819_ S821_ H820_
     have S822_ := Same.trans S817_ S821_
     refine wn (hK818_ _ _ ?_)
     refine C_reg ?_
     refine sm (vQ z.a) ?_
     refine sv (v := (vQ z.a)) (by kernel_rfl) ?_
     refine sv (v := (vP (some ⟨z.a, 6, none⟩))) (by kernel_rfl) ?_
     refine sv (v := (vQ f9_p.a)) (x_load1 rfl underlying173 rfl ((Holds.rdf H820_ 7 rfl) 6 (vQ f9_p.a) rfl)) ?_
     refine sv (v := (vQ f9_p.a)) (by kernel_rfl) ?_
     refine sv (v := (vP (some ⟨f9_p.a, 6, none⟩))) (by kernel_rfl) ?_
     refine sv (v := (vQ f9_g.a)) (x_load1 rfl underlying173 rfl ((Holds.rdf H820_ 5 rfl) 6 (vQ f9_g.a) rfl)) ?_
     refine sv (v := (vQ f9_g.a)) (x_assign rfl) ?_
     refine wpList_nil (X_blkN (X_then ?_))
     have H823_ := ((Holds.bring (Holds.bring (Holds.bring H820_ 9 rfl) 9 rfl) 9 rfl) :)
     have H824_ := Holds.nd_tr (n := z) (a := zl) (b := zr) H823_
     have H825_ := ((Holds.bring (Holds.bring (Holds.bring H824_ 7 rfl) 1 rfl) 7 rfl) :)
     have H826_ := Holds.nd_tr (n := (f9_p.setc 0)) (a := (Tr.nd z zl zr)) (b := f9_s) H825_
     have H827_ := ((Holds.bring (Holds.bring (Holds.bring H826_ 3 rfl) 3 rfl) 3 rfl) :)
     have H828_ := Holds.nd_tr (n := (f9_u.setc 0)) (a := f9_ul) (b := f9_ur) H827_
     have H829_ := ((Holds.bring (Holds.bring H828_ 1 rfl) 2 rfl) :)
     have H830_ := Holds.nd_tr (n := (f9_g.setc 1)) (a := (Tr.nd (f9_p.setc 0) (Tr.nd z zl zr) f9_s)) (b := (Tr.nd (f9_u.setc 0) f9_ul f9_ur)) H829_
     have hI5 : FxI O R L f9_C (Tr.nd (f9_g.setc 1) (Tr.nd (f9_p.setc 0) (Tr.nd z zl zr) f9_s) (Tr.nd (f9_u.setc 0) f9_ul f9_ur)) := FxI.col 1 (show FxI O R L f9_C (Tr.nd f9_g (Tr.nd (f9_p.setc 0) (Tr.nd z zl zr) f9_s) (Tr.nd (f9_u.setc 0) f9_ul f9_ur)) from FxI.up (FxI.colo 0 (FxI.col 0 (show FxI O R L ((⟨true, f9_g, (Tr.nd f9_u f9_ul f9_ur)⟩ : Fr K) :: f9_C) (Tr.nd f9_p (Tr.nd z zl zr) f9_s) from FxI.up hI1))))
     have H831_ := H830_
     have H832_ := Holds.pkF H831_ [2, 2, 0, 0, 0] 0
     exact ⟨⟨(f9_g.setc 1), (Tr.nd (f9_p.setc 0) (Tr.nd z zl zr) f9_s), (Tr.nd (f9_u.setc 0) f9_ul f9_ur), f9_C⟩, ⟨_, congrArg (fun e => mkA 201 e []) (ch (ch rfl rfl) ((by first | rfl | omega | (simp; done) | (simp; omega)) : (vQ f9_g.a) = (vQ ((f9_g.setc 1).a)))), H832_, S822_, (hI5)⟩, (by first | (simp [rC3_len]; done) | (simp [rC3_len]; omega))⟩
    ·have c807_fp : ¬ (f9_u.c = 1) := of_decide_eq_false c807_f
     refine C_seq (fun _ hK833_ => ?_)
     refine cR fun _ hK834_ => ?_
     refine sm (vQ z.a) ?_
     refine sm (vQ z.a) ?_
     refine sv (v := (vQ z.a)) (by kernel_rfl) ?_
     refine sv (v := (vP (some ⟨z.a, 6, none⟩))) (by kernel_rfl) ?_
     refine sv (v := (vQ f9_p.a)) (x_load1 rfl underlying173 rfl ((Holds.rdf H798_ 7 rfl) 6 (vQ f9_p.a) rfl)) ?_
     refine sv (v := (vQ f9_p.a)) (by kernel_rfl) ?_
     refine sv (v := (vP (some ⟨f9_p.a, 5, none⟩))) (by kernel_rfl) ?_
     refine sv (v := (vQ (rt sb f9_s))) (x_load1 rfl underlying173 rfl ((Holds.rdf H798_ 5 rfl) 5 (vQ (rt sb f9_s)) rfl)) ?_
     have hpc836_ : z.a ≠ sb := Holds.ne_f H798_ 7 rfl 12 rfl (by decide)
     have hpc835_ : z.a ≠ (rt sb f9_s) := Holds.ne_tr H798_ 7 rfl 6 rfl (by decide) hpc836_
     refine sv (v := (vB false)) (x_cast (x_eqPN rfl rfl underlying173 z182 (by decide) (Holds.blk H798_ 7 rfl) (Holds.tr_rd H798_ 6 rfl 12 rfl).blk) (congrArg vB (decide_eq_false hpc835_))) ?_
     refine wn (hK834_ _ _ ?_)
     refine C_condF rfl ?_
     refine C_skip (X_then (hK833_ _ _ ?_))
     refine cR fun _ hK837_ => ?_
     refine sm (vQ z.a) ?_
     refine sv (v := (vQ z.a)) (by kernel_rfl) ?_
     refine sv (v := (vP (some ⟨z.a, 6, none⟩))) (by kernel_rfl) ?_
     refine sv (v := (vQ f9_p.a)) (x_load1 rfl underlying173 rfl ((Holds.rdf H798_ 7 rfl) 6 (vQ f9_p.a) rfl)) ?_
     refine sv (v := (vQ f9_p.a)) (by kernel_rfl) ?_
     refine sv (v := (vP (some ⟨f9_p.a, 7, none⟩))) (by kernel_rfl) ?_
     refine S_list0 (T_store1f (v := (vI .i64 0)) rfl rfl z180 rfl H798_ 5 rfl (Nat.le_of_ble_eq_true (by rfl)) ?_)
     intro w838_ S840_ H839_
     have S841_ := Same.trans (Same.trans (Same.trans S6_ (Same.drew _)) (Same.drew _)) S840_
     refine wn (hK837_ _ _ ?_)
     refine cR fun _ hK842_ => ?_
     refine sm (vQ z.a) ?_
     refine sv (v := (vQ z.a)) (by kernel_rfl) ?_
     refine sv (v := (vP (some ⟨z.a, 6, none⟩))) (by kernel_rfl) ?_
     refine sv (v := (vQ f9_p.a)) (x_load1 rfl underlying173 rfl ((Holds.rdf H839_ 7 rfl) 6 (vQ f9_p.a) rfl)) ?_
     refine sv (v := (vQ f9_p.a)) (by kernel_rfl) ?_
     refine sv (v := (vP (some ⟨f9_p.a, 6, none⟩))) (by kernel_rfl) ?_
     refine sv (v := (vQ f9_g.a)) (x_load1 rfl underlying173 rfl ((Holds.rdf H839_ 5 rfl) 6 (vQ f9_g.a) rfl)) ?_
     refine sv (v := (vQ f9_g.a)) (by kernel_rfl) ?_
     refine sv (v := (vP (some ⟨f9_g.a, 7, none⟩))) (by kernel_rfl) ?_
     refine S_list0 (T_store1f (v := (vI .i64 1)) rfl rfl z180 rfl H839_ 3 rfl (Nat.le_of_ble_eq_true (by rfl)) ?_)
     intro w843_ S845_ H844_
     have S846_ := Same.trans S841_ S845_
     refine wn (hK842_ _ _ ?_)
     refine C_reg ?_
     refine sm (vQ tb) ?_
     refine sm (vQ z.a) ?_
     refine sv (v := (vQ z.a)) (by kernel_rfl) ?_
     refine sv (v := (vP (some ⟨z.a, 6, none⟩))) (by kernel_rfl) ?_
     refine sv (v := (vQ f9_p.a)) (x_load1 rfl underlying173 rfl ((Holds.rdf H844_ 7 rfl) 6 (vQ f9_p.a) rfl)) ?_
     refine sv (v := (vQ f9_p.a)) (by kernel_rfl) ?_
     refine sv (v := (vP (some ⟨f9_p.a, 6, none⟩))) (by kernel_rfl) ?_
     refine sv (v := (vQ f9_g.a)) (x_load1 rfl underlying173 rfl ((Holds.rdf H844_ 5 rfl) 6 (vQ f9_g.a) rfl)) ?_
     have H847_ := ((Holds.bring (Holds.bring (Holds.bring H844_ 9 rfl) 9 rfl) 9 rfl) :)
     have H848_ := Holds.nd_tr (n := z) (a := zl) (b := zr) H847_
     have H849_ := ((Holds.bring (Holds.bring (Holds.bring H848_ 7 rfl) 1 rfl) 7 rfl) :)
     have H850_ := Holds.nd_tr (n := (f9_p.setc 0)) (a := (Tr.nd z zl zr)) (b := f9_s) H849_
     have H851_ := ((Holds.bring (Holds.bring (Holds.bring H850_ 3 rfl) 3 rfl) 3 rfl) :)
     have H852_ := Holds.nd_tr (n := f9_u) (a := f9_ul) (b := f9_ur) H851_
     have H853_ := ((Holds.bring (Holds.bring H852_ 1 rfl) 2 rfl) :)
     have H854_ := Holds.nd_tr (n := (f9_g.setc 1)) (a := (Tr.nd (f9_p.setc 0) (Tr.nd z zl zr) f9_s)) (b := (Tr.nd f9_u f9_ul f9_ur)) H853_
     have H855_ := H854_
     have hI3 : FxI O R L f9_C (rOr false (f9_g.setc 1) (f9_p.setc 0) (Tr.nd f9_u f9_ul f9_ur) f9_s (Tr.nd z zl zr)) := FxI.col 1 (show FxI O R L f9_C (Tr.nd f9_g (Tr.nd (f9_p.setc 0) (Tr.nd z zl zr) f9_s) (Tr.nd f9_u f9_ul f9_ur)) from FxI.up (FxI.col 0 (show FxI O R L ((⟨true, f9_g, (Tr.nd f9_u f9_ul f9_ur)⟩ : Fr K) :: f9_C) (Tr.nd f9_p (Tr.nd z zl zr) f9_s) from FxI.up hI1)))
     have H857_ := ((Holds.bring (Holds.bring (Holds.bring (Holds.bring (Holds.bring H855_ 4 rfl) 2 rfl) 2 rfl) 4 rfl) 4 rfl) :)
     refine S_list (T_call (al := [(vQ tb), (vQ ((f9_g.setc 1).a))]) (pre := [cl tb 185 [(vQ (ra (f9_g.setc 1).a f9_C)), (vI .i64 cnt), (vQ sb)], tr sb (pa sb f9_C) (Tr.nd (f9_g.setc 1) (Tr.nd (f9_p.setc 0) (Tr.nd z zl zr) f9_s) (Tr.nd f9_u f9_ul f9_ur)), cx sb ((f9_g.setc 1).a) f9_C, clf sb 182 sc]) rfl (lcons rfl (lcons ((by first | rfl | omega | (simp; done) | (simp; omega)) : (vQ f9_g.a) = (vQ ((f9_g.setc 1).a))) rfl)) cb176 (itRotR R K O tb sb cnt sc (f9_g.setc 1) (f9_p.setc 0) (Tr.nd f9_u f9_ul f9_ur) f9_s (Tr.nd z zl zr) f9_C (hI3.ck) (hI3.tk)) H857_ ?_)
     rintro v856_ p861_ w858_ ⟨rfl, rfl⟩ S860_ H859_
     have S862_ := Same.trans S846_ S860_
     have hI4 := FxI.rot hI3
     have hI5 : FxI O R L ((⟨true, ((f9_p.setc 0).setmx (rV2 O false (f9_g.setc 1) (f9_p.setc 0) (Tr.nd f9_u f9_ul f9_ur) f9_s (Tr.nd z zl zr))), (rTx O false (f9_g.setc 1) (Tr.nd f9_u f9_ul f9_ur) f9_s)⟩ : Fr K) :: (rC3 O false (f9_g.setc 1) (f9_p.setc 0) (Tr.nd f9_u f9_ul f9_ur) f9_s (Tr.nd z zl zr) f9_C)) (Tr.nd z zl zr) := FxI.down (f := (⟨true, ((f9_p.setc 0).setmx (rV2 O false (f9_g.setc 1) (f9_p.setc 0) (Tr.nd f9_u f9_ul f9_ur) f9_s (Tr.nd z zl zr))), (rTx O false (f9_g.setc 1) (Tr.nd f9_u f9_ul f9_ur) f9_s)⟩ : Fr K)) hI4 (fun _ => rfl)
     have H863_ := H859_; rw [← pa_rC3 (O := O) sb false (f9_g.setc 1) (f9_p.setc 0) (Tr.nd f9_u f9_ul f9_ur) f9_s (Tr.nd z zl zr) f9_C, ← ra_rC3 (O := O) false (f9_g.setc 1) (f9_p.setc 0) (Tr.nd f9_u f9_ul f9_ur) f9_s (Tr.nd z zl zr) f9_C] at H863_
     have H864_ := H863_
     have H865_ := H864_
     have H866_ := ((Holds.bring H865_ 2 rfl) :)
     have H867_ := Holds.tr_nd H866_
     have H868_ := ((Holds.bring (Holds.bring (Holds.bring H867_ 5 rfl) 3 rfl) 2 rfl) :)
     have H869_ := Holds.cons_cx (sb := sb) (f := (⟨true, ((f9_p.setc 0).setmx (rV2 O false (f9_g.setc 1) (f9_p.setc 0) (Tr.nd f9_u f9_ul f9_ur) f9_s (Tr.nd z zl zr))), (rTx O false (f9_g.setc 1) (Tr.nd f9_u f9_ul f9_ur) f9_s)⟩ : Fr K)) (C := (rC3 O false (f9_g.setc 1) (f9_p.setc 0) (Tr.nd f9_u f9_ul f9_ur) f9_s (Tr.nd z zl zr) f9_C)) (x := z.a) H868_
     refine wpList_nil (X_blkN (X_then ?_))
     have H870_ := H869_
     have H871_ := Holds.pkF H870_ [2, 2, 1, 0, 0] 0
     exact ⟨⟨z, zl, zr, ((⟨true, ((f9_p.setc 0).setmx (rV2 O false (f9_g.setc 1) (f9_p.setc 0) (Tr.nd f9_u f9_ul f9_ur) f9_s (Tr.nd z zl zr))), (rTx O false (f9_g.setc 1) (Tr.nd f9_u f9_ul f9_ur) f9_s)⟩ : Fr K) :: (rC3 O false (f9_g.setc 1) (f9_p.setc 0) (Tr.nd f9_u f9_ul f9_ur) f9_s (Tr.nd z zl zr) f9_C))⟩, ⟨_, congrArg (fun e => mkA 201 e []) (ch (ch rfl rfl) rfl), H871_, S862_, (hI5)⟩, (by first | (simp [rC3_len]; done) | (simp [rC3_len]; omega))⟩
   ·have c796_fp : ¬ (f9_p.c = 1) := of_decide_eq_false c796_f
    refine C_exit (X_thenX (X_thenX (X_blkHit ?_)))
    refine (X_then ?_)
    have H872_ := ((Holds.bring (Holds.bring (Holds.bring H789_ 9 rfl) 9 rfl) 9 rfl) :)
    have H873_ := Holds.nd_tr (n := z) (a := zl) (b := zr) H872_
    have H874_ := ((Holds.bring (Holds.bring (Holds.bring H873_ 3 rfl) 3 rfl) 3 rfl) :)
    have H875_ := Holds.nd_tr (n := f9_u) (a := f9_ul) (b := f9_ur) H874_
    have H876_ := ((Holds.bring (Holds.bring (Holds.bring H875_ 3 rfl) 1 rfl) 3 rfl) :)
    have H877_ := Holds.cons_cx (sb := sb) (f := (⟨true, f9_g, (Tr.nd f9_u f9_ul f9_ur)⟩ : Fr K)) (C := f9_C) (x := f9_p.a) H876_
    have H878_ := ((Holds.bring (Holds.bring H877_ 3 rfl) 3 rfl) :)
    have H879_ := Holds.cons_cx (sb := sb) (f := (⟨true, f9_p, f9_s⟩ : Fr K)) (C := ((⟨true, f9_g, (Tr.nd f9_u f9_ul f9_ur)⟩ : Fr K) :: f9_C)) (x := z.a) H878_
    have H880_ := H879_
    have H881_ := ((Holds.bring H880_ 1 rfl) :)
    have H882_ := Holds.plug_in (C := ((⟨true, f9_p, f9_s⟩ : Fr K) :: ((⟨true, f9_g, (Tr.nd f9_u f9_ul f9_ur)⟩ : Fr K) :: f9_C))) (t := (Tr.nd z zl zr)) H881_
    have H883_ : Holds w4_.drew (tr sb sb (plug ((⟨true, f9_p, f9_s⟩ : Fr K) :: ((⟨true, f9_g, (Tr.nd f9_u f9_ul f9_ur)⟩ : Fr K) :: f9_C)) (Tr.nd z zl zr)) :: ro R :: cl tb 185 [(vP (some ⟨(ra z.a ((⟨true, f9_p, f9_s⟩ : Fr K) :: ((⟨true, f9_g, (Tr.nd f9_u f9_ul f9_ur)⟩ : Fr K) :: f9_C))), 0, none⟩)), (vI .i64 cnt), (vQ sb)] :: clf sb 182 sc :: F) := (H882_)
    rw [show ra z.a ((⟨true, f9_p, f9_s⟩ : Fr K) :: ((⟨true, f9_g, (Tr.nd f9_u f9_ul f9_ur)⟩ : Fr K) :: f9_C)) = rt sb (plug ((⟨true, f9_p, f9_s⟩ : Fr K) :: ((⟨true, f9_g, (Tr.nd f9_u f9_ul f9_ur)⟩ : Fr K) :: f9_C)) (Tr.nd z zl zr)) from (rt_plug sb ((⟨true, f9_p, f9_s⟩ : Fr K) :: ((⟨true, f9_g, (Tr.nd f9_u f9_ul f9_ur)⟩ : Fr K) :: f9_C)) z zl zr).symm] at H883_
    have H884_ := H883_
    have H885_ := Holds.pkF H884_ [1, 1, 0, 0] 0
    exact ⟨(plug ((⟨true, f9_p, f9_s⟩ : Fr K) :: ((⟨true, f9_g, (Tr.nd f9_u f9_ul f9_ur)⟩ : Fr K) :: f9_C)) (Tr.nd z zl zr)), _, congrArg (fun e => mkA 201 e []) (ch rfl rfl), H885_, (Same.trans S6_ (Same.drew _)), (FxI.plug hI1), (plug_nd _ _ _ _)⟩
 ·rintro _ w1_ ⟨W, h, rfl, H2_, S3_, hW, hWn⟩
  refine C_reg ?_
  obtain ⟨f886_n, f886_a, f886_b, rfl⟩ := hWn
  ·skip
   have H887_ := H2_
   have H888_ := ((Holds.bring H887_ 2 rfl) :)
   have H889_ := Holds.tr_nd H888_
   refine sm (vQ tb) ?_
   refine sv (v := (vQ tb)) (by kernel_rfl) ?_
   refine sv (v := (vQ tb)) (by kernel_rfl) ?_
   refine sv (v := (vQ f886_n.a)) (x_load1 rfl underlying173 rfl ((Holds.rd H889_ 4 rfl) 0 (vQ f886_n.a) rfl)) ?_
   refine sv (v := (vQ f886_n.a)) (by kernel_rfl) ?_
   refine sv (v := (vP (some ⟨f886_n.a, 7, none⟩))) (by kernel_rfl) ?_
   refine S_list0 (T_store1f (v := (vI .i64 0)) rfl rfl z180 rfl H889_ 0 rfl (Nat.le_of_ble_eq_true (by rfl)) ?_)
   intro w890_ S892_ H891_
   have S893_ := Same.trans S3_ S892_
   refine wpList_nil ?_
   refine R_0 rfl ?_
   have H894_ := Holds.nd_tr (n := (f886_n.setc 0)) (a := f886_a) (b := f886_b) H891_
   have H895_ := H894_
   have H896_ := Holds.pkF H895_ [1, 1, 0, 0] 0
   exact ⟨_, _, rfl, ⟨(Tr.nd (f886_n.setc 0) f886_a f886_b), rfl, rfl, (⟨(hW.col 0).tk, (hW.col 0).lt, by have := (hW.col 0).ino; simpa [inl, inr] using this, rfl⟩)⟩, S893_, H896_⟩
end Go.Proofs.YtlnihndjepjagaaGreat
set_option linter.unusedVariables false
set_option linter.unusedSimpArgs false
namespace Go.Proofs.YtlnihndjepjagaaGreat
open Go Go.RowKit Gw Tryz
open Go.Value renaming int → vI, bool → vB, slice → vS, pointer → vP, agg → vA, tuple → vT

section
variable {K : Type} (O : KO K)
def bef (b e : K) (n : ND K) : Prop := O.cm b n.kb < 0 ∨ (O.cm b n.kb = 0 ∧ O.cm e n.ke < 0)
def way (b e : K) : List (Fr K) → Prop | [] => True | f :: C => (if f.d then bef O b e f.n else ¬ bef O b e f.n) ∧ way b e C
def srt (L : List (ND K)) : Prop := L.Pairwise fun x y => ¬ bef O y.kb y.ke x
variable {O}
theorem bef_mono {b e : K} {x y : ND K} (h : bef O b e x) (hxy : ¬ bef O y.kb y.ke x) : bef O b e y := by
  have t1 : ∀ {a b c : K}, O.cm a b < 0 → ¬ O.cm c b < 0 → O.cm a c < 0 := by
    intro a b c h1 h2
    have h3 : ¬ 0 < O.cm b c := fun h => h2 (O.flip.2 h)
    have h4 : O.cm a c ≤ 0 := O.trans (b := b) (by omega) (by omega)
    have h5 : O.cm a c ≠ 0 := by
      intro h0
      have := O.anti h0
      subst this
      exact h2 h1
    omega
  unfold bef at *
  rcases h with h | ⟨h1, h2⟩
  · exact .inl (t1 h (fun hh => hxy (.inl hh)))
  · have e1 := O.anti h1
    subst e1
    by_cases hc : O.cm y.kb x.kb = 0
    · have e2 := O.anti hc
      refine .inr ⟨by rw [e2]; exact O.refl _, t1 h2 (fun hh => hxy (.inr ⟨hc, hh⟩))⟩
    · refine .inl ?_
      have h3 : ¬ O.cm y.kb x.kb < 0 := fun hh => hxy (.inl hh)
      exact O.flip.2 (by omega)
theorem way_in {b e : K} : ∀ {C : List (Fr K)} {M : List (ND K)}, way O b e C → srt O (inl C ++ M ++ inr C) → (∀ n ∈ inl C, ¬ bef O b e n) ∧ (∀ n ∈ inr C, bef O b e n)
  | [], M, _, _ => ⟨(fun n hn => by simp [inl] at hn), (fun n hn => by simp [inr] at hn)⟩
  | f :: C, M, hw, hs => by
    obtain ⟨d, m, o⟩ := f
    obtain ⟨h1, h2⟩ := hw
    cases d
    · have hs' : srt O (inl C ++ (ino o ++ [m.er] ++ M) ++ inr C) := by
        have : inl (⟨false, m, o⟩ :: C) ++ M ++ inr (⟨false, m, o⟩ :: C) = inl C ++ (ino o ++ [m.er] ++ M) ++ inr C := by simp [inl, inr]
        rw [← this]; exact hs
      obtain ⟨h3, h4⟩ := way_in h2 hs'
      refine ⟨fun n hn => ?_, fun n hn => h4 n (by simpa [inr] using hn)⟩
      have hn' : n ∈ inl C ∨ n ∈ ino o ∨ n = m.er := by simpa [inl] using hn
      have h1' : ¬ bef O b e m := by simpa using h1
      rcases hn' with hn | hn | rfl
      · exact h3 n hn
      · intro hb
        have hp : ¬ bef O m.er.kb m.er.ke n := by
          have := hs'
          unfold srt at this
          rw [List.pairwise_append] at this
          have := this.1
          rw [List.pairwise_append] at this
          have := this.2.1
          rw [List.append_assoc, List.pairwise_append] at this
          exact this.2.2 n hn m.er (by simp)
        exact h1' (bef_mono (y := m.er) hb hp)
      · exact h1'
    · have hs' : srt O (inl C ++ (M ++ m.er :: ino o) ++ inr C) := by
        have : inl (⟨true, m, o⟩ :: C) ++ M ++ inr (⟨true, m, o⟩ :: C) = inl C ++ (M ++ m.er :: ino o) ++ inr C := by simp [inl, inr]
        rw [← this]; exact hs
      obtain ⟨h3, h4⟩ := way_in h2 hs'
      refine ⟨fun n hn => h3 n (by simpa [inl] using hn), fun n hn => ?_⟩
      have hn' : n = m.er ∨ n ∈ ino o ∨ n ∈ inr C := by simpa [inr] using hn
      have h1' : bef O b e m := by simpa using h1
      rcases hn' with rfl | hn | hn
      · exact h1'
      · have hp : ¬ bef O n.kb n.ke m.er := by
          have := hs'
          unfold srt at this
          rw [List.pairwise_append] at this
          have := this.1
          rw [List.pairwise_append] at this
          have := this.2.1
          rw [List.pairwise_append] at this
          have := this.2.1
          rw [List.pairwise_cons] at this
          exact this.1 n hn
        exact bef_mono (x := m.er) h1' hp
      · exact h4 n hn
end
section
variable {K : Type} {O : KO K} {R : HP}
theorem ins_fx {C : List (Fr K)} {a : Nat} {b e v : Value} {kb ke : K} (hW : TOk O R (plug C (.lf : Tr K)) ∧ LocT O (plug C (.lf : Tr K)) ∧ blackT (plug C (.lf : Tr K))) (hC : COk O R C) (hb : O.Val R b kb) (he : O.Val R e ke) (hv : v.oneCell' = true := by rfl) :
    FxI O R (inl C ++ (⟨a, b, e, v, e, 1, kb, ke, ke⟩ : ND K).er :: inr C) (upC O (some (e, ke)) C) (.nd ⟨a, b, e, v, e, 1, kb, ke, ke⟩ .lf .lf) where
  tk := ⟨⟨hb, he, he, hv⟩, trivial, trivial⟩
  ck := COk.up hC (fun q hq => by cases hq; exact he)
  lt := ⟨O.refl _, trivial, trivial⟩
  lc := LocC.up (LocC.s (loc_unplug hW.2.1).2)
  top := (top_upC O C _).2.2 (top_plug hW.2.2)
  ino := by
    rw [(in_upC O C _).1, (in_upC O C _).2]
    simp [ino]
theorem bef_swap {y z : ND K} (h1 : bef O z.kb z.ke y) (h2 : bef O y.kb y.ke z.er) : bef O z.kb z.ke z.er := by
  exfalso
  unfold bef at h1 h2
  have f1 := @O.flip z.kb y.kb
  have f2 := @O.flip z.ke y.ke
  have f3 := @O.flip y.kb z.kb
  have f4 := @O.flip y.ke z.ke
  have e1 : O.cm z.kb y.kb = 0 ↔ O.cm y.kb z.kb = 0 := ⟨fun h => by have := O.anti h; rw [this]; exact O.refl _, fun h => by have := O.anti h; rw [this]; exact O.refl _⟩
  have h2' : O.cm y.kb z.kb < 0 ∨ O.cm y.kb z.kb = 0 ∧ O.cm y.ke z.ke < 0 := h2
  omega
theorem ins_srt {C : List (Fr K)} {z : ND K} (hw : way O z.kb z.ke C) (hs : srt O (inl C ++ inr C)) : srt O (inl C ++ z.er :: inr C) := by
  have h := way_in (M := []) hw (by simpa using hs)
  unfold srt at *
  rw [List.pairwise_append] at hs ⊢
  refine ⟨hs.1, ?_, fun x hx y hy => ?_⟩
  · rw [List.pairwise_cons]
    refine ⟨fun y hy hb => ?_, hs.2.1⟩
    have h2 := h.2 y hy
    have h3 : ¬ bef O z.kb z.ke z.er := by
      unfold bef
      intro hh
      rcases hh with hh | ⟨_, hh⟩
      · have := O.refl z.kb; exact absurd hh (by show ¬ O.cm z.kb z.kb < 0; omega)
      · have := O.refl z.ke; exact absurd hh (by show ¬ O.cm z.ke z.ke < 0; omega)
    exact h3 (bef_swap h2 hb)
  · rcases List.mem_cons.1 hy with rfl | hy
    · exact h.1 x hx
    · exact hs.2.2 x hx y hy
end

end Go.Proofs.YtlnihndjepjagaaGreat
