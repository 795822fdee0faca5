/- Words, and proved steps, on which the proof leans. -/
import Derived.Test.YtlnihndjepjagaaGreatEc1
set_option linter.unusedVariables false
set_option linter.unusedSimpArgs false
namespace Go.Proofs.YtlnihndjepjagaaGreat
open Go Go.RowKit Gw Tryz
open Go.Value renaming int → vI, bool → vB, slice → vS, pointer → vP, agg → vA, tuple → vT

section
variable {K : Type}
theorem Holds.hol_none {w : World} {l : List SP} (h : Holds w l) : Holds w (hol (none : Option (ND K × Nat × Nat × Nat)) :: l) := Sat.add_free (fun _ => trivial) h
variable (O : KO K)
def rV1 (d : Bool) (x : ND K) (A B : Tr K) : Value × K := upV O (rmx B) ⟨!d, x, A⟩
def rC1 (d : Bool) (x : ND K) (A B : Tr K) (C : List (Fr K)) : List (Fr K) := upT O (rmx B) ⟨!d, x, A⟩ C
def rC2 (d : Bool) (x y : ND K) (A B : Tr K) (C : List (Fr K)) : List (Fr K) := upC O (some (y.mx, y.km)) (rC1 O d x A B C)
def rV2 (d : Bool) (x y : ND K) (A B D : Tr K) : Value × K := upV O (some (rV1 O d x A B)) ⟨d, y, D⟩
def rC3 (d : Bool) (x y : ND K) (A B D : Tr K) (C : List (Fr K)) : List (Fr K) := upT O (some (rV1 O d x A B)) ⟨d, y, D⟩ (rC2 O d x y A B C)
def rTx (d : Bool) (x : ND K) (A B : Tr K) : Tr K := (⟨!d, x.setmx (rV1 O d x A B), A⟩ : Fr K).fill B
def rTr (d : Bool) (x y : ND K) (A B D : Tr K) : Tr K := (⟨d, y.setmx (rV2 O d x y A B D), D⟩ : Fr K).fill (rTx O d x A B)
end


set_option maxHeartbeats 8000000 in
theorem itRotL (R : HP) (K : Type) (O : KO K) (tb sb : Nat) (cnt : Int) (sc : List Value) (x y : ND K) (A B D : Tr K) (C : List (Fr K)) (hC : COk O R C) (hT : TOk O R (Tr.nd x A (Tr.nd y B D))) :
    Tri Tryz.prog 175 #[(vQ tb), (vQ x.a)] R [cl tb 185 [(vQ (ra x.a C)), (vI .i64 cnt), (vQ sb)], tr sb (pa sb C) (Tr.nd x A (Tr.nd y B D)), cx sb x.a C, clf sb 182 sc] (fun v__ post__ => v__ = (vT #[]) ∧ post__ = [cl tb 185 [(vQ (ra y.a C)), (vI .i64 cnt), (vQ sb)], tr sb (pa sb C) (rTr O true x y A B D), cx sb y.a (rC3 O true x y A B D C), clf sb 182 sc]) := by
 refine Tri.into (n := 61) (al := [(vQ tb), (vQ x.a)]) func175 rfl ntmps175 rfl rfl fun w F H => ?_
 refine C_seq (fun _ hK1_ => ?_)
 refine C_seq (fun _ hK2_ => ?_)
 rcases B with _ | ⟨f3_n, f3_l, f3_r⟩
 ·skip
  have H4_ : Holds w (ro R :: cl tb 185 [(vQ (ra x.a C)), (vI .i64 cnt), (vQ sb)] :: tr sb (pa sb C) (Tr.nd x A (Tr.nd y (Tr.lf : Tr K) D)) :: cx sb x.a C :: clf sb 182 sc :: F) := (H)
  have H5_ := ((Holds.bring H4_ 2 rfl) :)
  have H6_ := Holds.tr_nd H5_
  have H7_ := ((Holds.bring H6_ 2 rfl) :)
  have H8_ := Holds.tr_nd H7_
  obtain ⟨hx_, hA_, hB_, hy_, hD_⟩ : NOk O R x ∧ TOk O R A ∧ TOk O R (Tr.lf : Tr K) ∧ NOk O R y ∧ TOk O R D := by obtain ⟨a1, a2, a3⟩ := hT; obtain ⟨b1, b2, b3⟩ := a3; exact ⟨a1, a2, b2, b1, b3⟩
  refine A_start (S := fun w => (Rd y.a [y.b, y.e, y.v, y.mx, (vQ sb), (vQ (rt sb D)), (vQ x.a), (vI .i64 y.c)] w ∧ Blk w y.a) ∧ RtRd w (rt sb (Tr.lf : Tr K)) (rmx (Tr.lf : Tr K)) ∧ RtRd w (rt sb D) (rmx D) ∧ (Rd x.a [x.b, x.e, x.v, x.mx, (vQ (rt sb A)), (vQ y.a), (vQ (pa sb C)), (vI .i64 x.c)] w ∧ Blk w x.a) ∧ RtRd w (rt sb A) (rmx A) ∧ Rd tb [(vQ (ra x.a C)), (vI .i64 cnt), (vQ sb)] w ∧ Sub R (hp w)) (N := 9) foll rfl rfl ?_
  have H9_ := Holds.drew_ H8_
  have hq10_ := And.intro ((And.intro (Holds.rdf H9_ 0 rfl) (Holds.blk H9_ 0 rfl))) (And.intro (Holds.tr_rd H9_ 1 rfl 8 rfl) (And.intro (Holds.tr_rd H9_ 2 rfl 8 rfl) (And.intro ((And.intro (Holds.rdf H9_ 3 rfl) (Holds.blk H9_ 3 rfl))) (And.intro (Holds.tr_rd H9_ 4 rfl 8 rfl) (And.intro (Holds.rd H9_ 6 rfl) ((Holds.ro_at H9_ 5 rfl)))))))
  refine A_tk 0 (v := (vQ x.a)) rfl (by kernel_rfl) (fun w hS => x_move rfl) hq10_ ?_
  refine A_tk 1 (v := (vQ x.a)) rfl (by kernel_rfl) (fun w hS => by kernel_rfl) hq10_ ?_
  refine A_tk 2 (v := (vP (some ⟨x.a, 5, none⟩))) rfl (by kernel_rfl) (fun w hS => by kernel_rfl) hq10_ ?_
  refine A_tk 3 (v := (vQ y.a)) rfl (by kernel_rfl) (fun w hS => x_load1 rfl underlying173 rfl (hS.2.2.2.1.1 5 (vQ y.a) rfl)) hq10_ ?_
  refine A_tk 4 (v := (vQ tb)) rfl (by kernel_rfl) (fun w hS => x_move rfl) hq10_ ?_
  refine A_tk 5 (v := (vQ tb)) rfl (by kernel_rfl) (fun w hS => by kernel_rfl) hq10_ ?_
  refine A_tk 6 (v := (vP (some ⟨tb, 2, none⟩))) rfl (by kernel_rfl) (fun w hS => by kernel_rfl) hq10_ ?_
  refine A_tk 7 (v := (vQ sb)) rfl (by kernel_rfl) (fun w hS => x_load1 rfl underlying173 rfl (hS.2.2.2.2.2.1 2 (vQ sb) rfl)) hq10_ ?_
  have hpc11_ : y.a ≠ sb := Holds.ne_f H9_ 0 rfl 8 rfl (by decide)
  refine A_ready (i := 8) (rs := []) (by kernel_rfl) ?_
  refine AllR.cons ?_ AllR.nil
  refine A_op (ls' := #[true, true, true, true, true, true, true, true, true]) rfl (by kernel_rfl) (T_val (v := (vB false)) (x_cast (x_eqPN rfl rfl underlying173 z182 (by decide) (Holds.blk H9_ 0 rfl) (Holds.blk H9_ 8 rfl)) (congrArg vB (decide_eq_false hpc11_))) ?_)
  refine ⟨⟨(And.intro (Holds.rdf H9_ 0 rfl) (Holds.blk H9_ 0 rfl)), Holds.tr_rd H9_ 1 rfl 8 rfl, Holds.tr_rd H9_ 2 rfl 8 rfl, (And.intro (Holds.rdf H9_ 3 rfl) (Holds.blk H9_ 3 rfl)), Holds.tr_rd H9_ 4 rfl 8 rfl, Holds.rd H9_ 6 rfl, (Holds.ro_at H9_ 5 rfl)⟩, ?_⟩
  refine A_done (by kernel_rfl) ?_
  refine (X_then (hK2_ _ _ ?_))
  refine C_condF rfl ?_
  refine C_skip (X_then (hK1_ _ _ ?_))
  refine cR fun _ hK12_ => ?_
  refine sm (vQ x.a) ?_
  refine sv (v := (vQ x.a)) (by kernel_rfl) ?_
  refine sv (v := (vP (some ⟨x.a, 5, none⟩))) (by kernel_rfl) ?_
  refine sv (v := (vQ y.a)) (x_load1 rfl underlying173 rfl ((Holds.rdf H9_ 3 rfl) 5 (vQ y.a) rfl)) ?_
  refine sv (v := (vQ y.a)) (x_assign rfl) ?_
  refine wn (hK12_ _ _ ?_)
  refine cR fun _ hK13_ => ?_
  refine sm (vQ x.a) ?_
  refine sm (vQ y.a) ?_
  refine sv (v := (vQ y.a)) (by kernel_rfl) ?_
  refine sv (v := (vP (some ⟨y.a, 4, none⟩))) (by kernel_rfl) ?_
  refine sv (v := (vQ sb)) (x_load1 rfl underlying173 rfl ((Holds.rdf H9_ 0 rfl) 4 (vQ sb) rfl)) ?_
  refine sv (v := (vQ x.a)) (by kernel_rfl) ?_
  refine sv (v := (vP (some ⟨x.a, 5, none⟩))) (by kernel_rfl) ?_
  refine S_list0 (T_store1f (v := (vQ sb)) rfl rfl z173 rfl H9_ 3 rfl (Nat.le_of_ble_eq_true (by rfl)) ?_)
  intro w14_ S16_ H15_
  have S17_ := Same.trans (Same.trans (Same.refl w) (Same.drew _)) S16_
  refine wn (hK13_ _ _ ?_)
  refine C_seq (fun _ hK18_ => ?_)
  refine C_seq (fun _ hK19_ => ?_)
  refine A_start (S := fun w => (Rd y.a [y.b, y.e, y.v, y.mx, (vQ sb), (vQ (rt sb D)), (vQ x.a), (vI .i64 y.c)] w ∧ Blk w y.a) ∧ RtRd w (rt sb (Tr.lf : Tr K)) (rmx (Tr.lf : Tr K)) ∧ RtRd w (rt sb D) (rmx D) ∧ (Rd x.a [x.b, x.e, x.v, x.mx, (vQ (rt sb A)), (vQ sb), (vQ (pa sb C)), (vI .i64 x.c)] w ∧ Blk w x.a) ∧ RtRd w (rt sb A) (rmx A) ∧ Rd tb [(vQ (ra x.a C)), (vI .i64 cnt), (vQ sb)] w ∧ Sub R (hp w)) (N := 9) foll rfl rfl ?_
  have H20_ := Holds.drew_ H15_
  have hq21_ := And.intro ((And.intro (Holds.rdf H20_ 0 rfl) (Holds.blk H20_ 0 rfl))) (And.intro (Holds.tr_rd H20_ 1 rfl 8 rfl) (And.intro (Holds.tr_rd H20_ 2 rfl 8 rfl) (And.intro ((And.intro (Holds.rdf H20_ 3 rfl) (Holds.blk H20_ 3 rfl))) (And.intro (Holds.tr_rd H20_ 4 rfl 8 rfl) (And.intro (Holds.rd H20_ 6 rfl) ((Holds.ro_at H20_ 5 rfl)))))))
  refine A_tk 0 (v := (vQ y.a)) rfl (by kernel_rfl) (fun w hS => x_move rfl) hq21_ ?_
  refine A_tk 1 (v := (vQ y.a)) rfl (by kernel_rfl) (fun w hS => by kernel_rfl) hq21_ ?_
  refine A_tk 2 (v := (vP (some ⟨y.a, 4, none⟩))) rfl (by kernel_rfl) (fun w hS => by kernel_rfl) hq21_ ?_
  refine A_tk 3 (v := (vQ sb)) rfl (by kernel_rfl) (fun w hS => x_load1 rfl underlying173 rfl (hS.1.1 4 (vQ sb) rfl)) hq21_ ?_
  refine A_tk 4 (v := (vQ tb)) rfl (by kernel_rfl) (fun w hS => x_move rfl) hq21_ ?_
  refine A_tk 5 (v := (vQ tb)) rfl (by kernel_rfl) (fun w hS => by kernel_rfl) hq21_ ?_
  refine A_tk 6 (v := (vP (some ⟨tb, 2, none⟩))) rfl (by kernel_rfl) (fun w hS => by kernel_rfl) hq21_ ?_
  refine A_tk 7 (v := (vQ sb)) rfl (by kernel_rfl) (fun w hS => x_load1 rfl underlying173 rfl (hS.2.2.2.2.2.1 2 (vQ sb) rfl)) hq21_ ?_
  refine A_tk 8 (v := (vB false)) rfl (by kernel_rfl) (fun w hS => x_neP rfl rfl underlying173 z182) hq21_ ?_
  refine A_done (by kernel_rfl) ?_
  refine (X_then (hK19_ _ _ ?_))
  refine C_condF rfl ?_
  refine C_skip (X_then (hK18_ _ _ ?_))
  refine cR fun _ hK22_ => ?_
  refine sm (vQ x.a) ?_
  refine sm (vQ tb) ?_
  refine sv (v := (vQ tb)) (by kernel_rfl) ?_
  refine sv (v := (vP (some ⟨tb, 2, none⟩))) (by kernel_rfl) ?_
  refine sv (v := (vQ sb)) (x_load1 rfl underlying173 rfl ((Holds.rd H20_ 6 rfl) 2 (vQ sb) rfl)) ?_
  have H23_ := ((Holds.bring (Holds.bring (Holds.bring H20_ 7 rfl) 5 rfl) 5 rfl) :)
  have H24_ := Holds.cons_cx (f := (⟨false, x, A⟩ : Fr K)) (x := sb) H23_
  have H25_ : Holds w14_.drew (hol (none : Option (ND K × Nat × Nat × Nat)) :: cx sb sb ((⟨false, x, A⟩ : Fr K) :: C) :: clf y.a 182 [y.b, y.e, y.v, y.mx, (vQ sb), (vQ (rt sb D)), (vQ x.a), (vI .i64 y.c)] :: tr sb y.a (Tr.lf : Tr K) :: tr sb y.a D :: ro R :: cl tb 185 [(vQ (ra x.a C)), (vI .i64 cnt), (vQ sb)] :: clf sb 182 sc :: F) := Holds.hol_none H24_
  have H26_ := H25_
  have H28_ := ((Holds.bring (Holds.bring (Holds.bring (Holds.bring H26_ 7 rfl) 2 rfl) 2 rfl) 6 rfl) :)
  refine S_list (T_call (al := [(vP (some ⟨(pa sb ((⟨false, x, A⟩ : Fr K) :: C)), 0, none⟩)), (vQ sb)]) (pre := [hol (none : Option (ND K × Nat × Nat × Nat)), cx sb (ha sb (none : Option (ND K × Nat × Nat × Nat))) ((⟨false, x, A⟩ : Fr K) :: C), clf sb 182 sc]) rfl (lcons ((by first | rfl | omega | (simp; done) | (simp; omega)) : (vQ x.a) = (vP (some ⟨(pa sb ((⟨false, x, A⟩ : Fr K) :: C)), 0, none⟩))) rfl) cb152 (itUpMax R K O sb sc (none : Option (ND K × Nat × Nat × Nat)) ((⟨false, x, A⟩ : Fr K) :: C) (COk.cons hx_ hA_ hC) (fun z hz => by cases hz)) H28_ ?_)
  rintro v27_ p32_ w29_ ⟨rfl, rfl⟩ S31_ H30_
  have S33_ := Same.trans (Same.trans S17_ (Same.drew _)) S31_
  have H34_ : Holds w29_ (ro R :: hol (none : Option (ND K × Nat × Nat × Nat)) :: cx sb sb (upC O (rmx (Tr.lf : Tr K)) ((⟨false, x, A⟩ : Fr K) :: C)) :: clf sb 182 sc :: clf y.a 182 [y.b, y.e, y.v, y.mx, (vQ sb), (vQ (rt sb D)), (vQ x.a), (vI .i64 y.c)] :: tr sb y.a (Tr.lf : Tr K) :: tr sb y.a D :: cl tb 185 [(vQ (ra x.a C)), (vI .i64 cnt), (vQ sb)] :: F) := (H30_)
  have H35_ := H34_
  rw [upC_cons] at H35_
  have hraC1 := fun z => ra_upT (O := O) (rmx (Tr.lf : Tr K)) (⟨false, x, A⟩ : Fr K) C z
  have hpaC1 := pa_upT (O := O) sb C (rmx (Tr.lf : Tr K)) (⟨false, x, A⟩ : Fr K)
  have hvv1 := VOk.u (O := O) (R := R) (h := (rmx (Tr.lf : Tr K))) (f := (⟨false, x, A⟩ : Fr K)) (TOk.mx hB_) hx_ hA_
  have hCO1 := COk.upT (O := O) (R := R) (h := (rmx (Tr.lf : Tr K))) (f := (⟨false, x, A⟩ : Fr K)) (C := C) hC (TOk.mx hB_) hx_ hA_
  obtain ⟨v1, hv1e⟩ : ∃ z, z = upV O (rmx (Tr.lf : Tr K)) (⟨false, x, A⟩ : Fr K) := ⟨_, rfl⟩
  obtain ⟨C1, hC1e⟩ : ∃ z, z = upT O (rmx (Tr.lf : Tr K)) (⟨false, x, A⟩ : Fr K) C := ⟨_, rfl⟩
  rw [← hv1e, ← hC1e] at H35_; rw [← hv1e] at hvv1; rw [← hC1e] at hCO1 hraC1 hpaC1
  have H36_ := H35_
  have H37_ := ((Holds.bring H36_ 2 rfl) :)
  have H38_ := Holds.cx_cons H37_
  have H39_ := H38_
  have H40_ := Holds.pkF H39_ [0, 0, 0, 0, 1, 1, 1, 1, 1] 1
  have H41_ := H40_; rw [show ra x.a C = ra x.a C1 from (hraC1 _).symm] at H41_
  have H42_ := H41_
  refine wn (hK22_ _ _ ?_)
  refine cR fun _ hK43_ => ?_
  refine sm (vQ tb) ?_
  refine sm (vQ x.a) ?_
  refine sm (vQ y.a) ?_
  have H44_ := H42_
  have H46_ := ((Holds.bring (Holds.bring (Holds.bring (Holds.bring (Holds.bring (Holds.bring H44_ 4 rfl) 3 rfl) 5 rfl) 3 rfl) 8 rfl) 6 rfl) :)
  refine S_list (T_call (al := [(vQ tb), (vQ ((x.setmx v1).a)), (vQ y.a)]) (pre := [cl tb 185 [(vQ (ra (x.setmx v1).a C1)), (vI .i64 cnt), (vQ sb)], clf ((x.setmx v1).a) 182 [((x.setmx v1).b), ((x.setmx v1).e), ((x.setmx v1).v), ((x.setmx v1).mx), (vQ (rt sb A)), (vQ sb), (vQ (pa sb C1)), (vI .i64 ((x.setmx v1).c))], clf y.a 182 [y.b, y.e, y.v, y.mx, (vQ sb), (vQ (rt sb D)), (vQ x.a), (vI .i64 y.c)], cx sb ((x.setmx v1).a) C1, clf sb 182 sc]) rfl (lcons rfl (lcons ((by first | rfl | omega | (simp; done) | (simp; omega)) : (vQ x.a) = (vQ ((x.setmx v1).a))) rfl)) cb177 (itRepl R K O tb sb cnt sc (x.setmx v1) y (rt sb A) sb sb (rt sb D) x.a C1 (hCO1) (hy_)) H46_ ?_)
  rintro v45_ p50_ w47_ ⟨rfl, rfl⟩ S49_ H48_
  have S51_ := Same.trans S33_ S49_
  have H52_ : Holds w47_ (ro R :: cl tb 185 [(vQ (ra y.a C1)), (vI .i64 cnt), (vQ sb)] :: clf x.a 182 [x.b, x.e, x.v, v1.1, (vQ (rt sb A)), (vQ sb), (vQ y.a), (vI .i64 x.c)] :: clf y.a 182 [y.b, y.e, y.v, y.mx, (vQ sb), (vQ (rt sb D)), (vQ (pa sb C1)), (vI .i64 y.c)] :: cx sb y.a (upC O (some (y.mx, y.km)) C1) :: clf sb 182 sc :: tr sb x.a A :: tr sb y.a (Tr.lf : Tr K) :: tr sb y.a D :: F) := (H48_)
  have hraC2 := fun z => ra_upC O C1 z (some (y.mx, y.km))
  have hpaC2 := pa_upC (O := O) sb C1 (some (y.mx, y.km))
  have hCO2 := COk.up (O := O) (R := R) (h := some (y.mx, y.km)) hCO1 (fun z hz => by cases hz; exact hy_.m)
  obtain ⟨C2, hC2e⟩ : ∃ z, z = upC O (some (y.mx, y.km)) C1 := ⟨_, rfl⟩
  have H53_ := H52_; rw [← hC2e] at H53_; rw [← hC2e] at hraC2 hpaC2 hCO2; rw [← hpaC2] at H53_; rw [← hraC2] at H53_
  have H54_ := H53_
  refine wn (hK43_ _ _ ?_)
  refine cR fun _ hK55_ => ?_
  refine sm (vQ y.a) ?_
  refine sm (vQ x.a) ?_
  refine sv (v := (vQ y.a)) (by kernel_rfl) ?_
  refine sv (v := (vP (some ⟨y.a, 4, none⟩))) (by kernel_rfl) ?_
  refine S_list0 (T_store1f (v := (vQ x.a)) rfl rfl z173 rfl H54_ 3 rfl (Nat.le_of_ble_eq_true (by rfl)) ?_)
  intro w56_ S58_ H57_
  have S59_ := Same.trans S51_ S58_
  refine wn (hK55_ _ _ ?_)
  refine C_reg ?_
  refine sm (vQ y.a) ?_
  refine sm (vQ tb) ?_
  refine sv (v := (vQ tb)) (by kernel_rfl) ?_
  refine sv (v := (vP (some ⟨tb, 2, none⟩))) (by kernel_rfl) ?_
  refine sv (v := (vQ sb)) (x_load1 rfl underlying173 rfl ((Holds.rd H57_ 1 rfl) 2 (vQ sb) rfl)) ?_
  have H60_ := ((Holds.bring (Holds.bring (Holds.bring H57_ 4 rfl) 8 rfl) 5 rfl) :)
  have H61_ := Holds.cons_cx (f := (⟨true, y, D⟩ : Fr K)) (x := x.a) H60_
  have H62_ := H61_
  have H64_ := ((Holds.bring (Holds.bring (Holds.bring (Holds.bring H62_ 4 rfl) 1 rfl) 4 rfl) 3 rfl) :)
  refine S_list (T_call (al := [(vP (some ⟨(pa sb ((⟨true, y, D⟩ : Fr K) :: C2)), 0, none⟩)), (vQ sb)]) (pre := [hol (some (x.setmx v1, (rt sb A), sb, y.a)), cx sb (ha sb (some (x.setmx v1, (rt sb A), sb, y.a))) ((⟨true, y, D⟩ : Fr K) :: C2), clf sb 182 sc]) rfl (lcons ((by first | rfl | omega | (simp; done) | (simp; omega)) : (vQ y.a) = (vP (some ⟨(pa sb ((⟨true, y, D⟩ : Fr K) :: C2)), 0, none⟩))) rfl) cb152 (itUpMax R K O sb sc (some (x.setmx v1, (rt sb A), sb, y.a)) ((⟨true, y, D⟩ : Fr K) :: C2) (COk.cons hy_ hD_ hCO2) (fun z hz => by cases hz; exact hvv1)) H64_ ?_)
  rintro v63_ p68_ w65_ ⟨rfl, rfl⟩ S67_ H66_
  have S69_ := Same.trans S59_ S67_
  have H70_ : Holds w65_ (ro R :: hol (some (x.setmx v1, (rt sb A), sb, y.a)) :: cx sb x.a (upC O (some v1) ((⟨true, y, D⟩ : Fr K) :: C2)) :: clf sb 182 sc :: cl tb 185 [(vQ (ra y.a C2)), (vI .i64 cnt), (vQ sb)] :: tr sb x.a A :: tr sb y.a (Tr.lf : Tr K) :: F) := (H66_)
  have H71_ := H70_
  rw [upC_cons] at H71_
  have hraC3 := fun z => ra_upT (O := O) (some v1) (⟨true, y, D⟩ : Fr K) C2 z
  have hpaC3 := pa_upT (O := O) sb C2 (some v1) (⟨true, y, D⟩ : Fr K)
  have hvv2 := VOk.u (O := O) (R := R) (h := (some v1)) (f := (⟨true, y, D⟩ : Fr K)) (VOk.so_ hvv1) hy_ hD_
  have hCO3 := COk.upT (O := O) (R := R) (h := (some v1)) (f := (⟨true, y, D⟩ : Fr K)) (C := C2) hCO2 (VOk.so_ hvv1) hy_ hD_
  obtain ⟨v2, hv2e⟩ : ∃ z, z = upV O (some v1) (⟨true, y, D⟩ : Fr K) := ⟨_, rfl⟩
  obtain ⟨C3, hC3e⟩ : ∃ z, z = upT O (some v1) (⟨true, y, D⟩ : Fr K) C2 := ⟨_, rfl⟩
  rw [← hv2e, ← hC3e] at H71_; rw [← hv2e] at hvv2; rw [← hC3e] at hCO3 hraC3 hpaC3
  have H72_ := H71_
  have H73_ := ((Holds.bring H72_ 2 rfl) :)
  have H74_ := Holds.cx_cons H73_
  have H75_ := H74_
  refine wpList_nil ?_
  refine R_0 rfl ?_
  have H76_ : Holds w65_ (tr sb x.a (Tr.lf : Tr K) :: clf y.a 182 [y.b, y.e, y.v, v2.1, (vQ x.a), (vQ (rt sb D)), (vQ (pa sb C3)), (vI .i64 y.c)] :: tr sb y.a D :: cx sb y.a C3 :: ro R :: clf x.a 182 [x.b, x.e, x.v, v1.1, (vQ (rt sb A)), (vQ sb), (vQ y.a), (vI .i64 x.c)] :: clf sb 182 sc :: cl tb 185 [(vQ (ra y.a C2)), (vI .i64 cnt), (vQ sb)] :: tr sb x.a A :: tr sb y.a (Tr.lf : Tr K) :: F) := Holds.lf_tr H75_
  have H77_ := ((Holds.bring (Holds.bring H76_ 8 rfl) 6 rfl) :)
  have H78_ := Holds.nd_tr (n := x.setmx v1) (a := A) (b := (Tr.lf : Tr K)) H77_
  have H79_ := ((Holds.bring (Holds.bring (Holds.bring H78_ 2 rfl) 1 rfl) 2 rfl) :)
  have H80_ := Holds.nd_tr (n := y.setmx v2) (a := (Tr.nd (x.setmx v1) A (Tr.lf : Tr K))) (b := D) H79_
  have H81_ := H80_; rw [hpaC3, hpaC2, hpaC1, hraC2, hraC1] at H81_; subst hC3e; subst hv2e; subst hC2e; subst hC1e; subst hv1e
  have H82_ := H81_
  have H83_ := Holds.pkF H82_ [2, 3, 0, 0, 0] 1
  exact ⟨_, _, rfl, ⟨rfl, rfl⟩, S69_, H83_⟩
 ·skip
  have H84_ : Holds w (ro R :: cl tb 185 [(vQ (ra x.a C)), (vI .i64 cnt), (vQ sb)] :: tr sb (pa sb C) (Tr.nd x A (Tr.nd y (Tr.nd f3_n f3_l f3_r) D)) :: cx sb x.a C :: clf sb 182 sc :: F) := (H)
  have H85_ := ((Holds.bring H84_ 2 rfl) :)
  have H86_ := Holds.tr_nd H85_
  have H87_ := ((Holds.bring H86_ 2 rfl) :)
  have H88_ := Holds.tr_nd H87_
  have H89_ := ((Holds.bring H88_ 1 rfl) :)
  have H90_ := Holds.tr_nd H89_
  obtain ⟨hx_, hA_, hB_, hy_, hD_⟩ : NOk O R x ∧ TOk O R A ∧ TOk O R (Tr.nd f3_n f3_l f3_r) ∧ NOk O R y ∧ TOk O R D := by obtain ⟨a1, a2, a3⟩ := hT; obtain ⟨b1, b2, b3⟩ := a3; exact ⟨a1, a2, b2, b1, b3⟩
  refine A_start (S := fun w => (Rd f3_n.a [f3_n.b, f3_n.e, f3_n.v, f3_n.mx, (vQ (rt sb f3_l)), (vQ (rt sb f3_r)), (vQ y.a), (vI .i64 f3_n.c)] w ∧ Blk w f3_n.a) ∧ RtRd w (rt sb f3_l) (rmx f3_l) ∧ RtRd w (rt sb f3_r) (rmx f3_r) ∧ (Rd y.a [y.b, y.e, y.v, y.mx, (vQ f3_n.a), (vQ (rt sb D)), (vQ x.a), (vI .i64 y.c)] w ∧ Blk w y.a) ∧ RtRd w (rt sb D) (rmx D) ∧ (Rd x.a [x.b, x.e, x.v, x.mx, (vQ (rt sb A)), (vQ y.a), (vQ (pa sb C)), (vI .i64 x.c)] w ∧ Blk w x.a) ∧ RtRd w (rt sb A) (rmx A) ∧ Rd tb [(vQ (ra x.a C)), (vI .i64 cnt), (vQ sb)] w ∧ Sub R (hp w)) (N := 9) foll rfl rfl ?_
  have H91_ := Holds.drew_ H90_
  have hq92_ := And.intro ((And.intro (Holds.rdf H91_ 0 rfl) (Holds.blk H91_ 0 rfl))) (And.intro (Holds.tr_rd H91_ 1 rfl 10 rfl) (And.intro (Holds.tr_rd H91_ 2 rfl 10 rfl) (And.intro ((And.intro (Holds.rdf H91_ 3 rfl) (Holds.blk H91_ 3 rfl))) (And.intro (Holds.tr_rd H91_ 4 rfl 10 rfl) (And.intro ((And.intro (Holds.rdf H91_ 5 rfl) (Holds.blk H91_ 5 rfl))) (And.intro (Holds.tr_rd H91_ 6 rfl 10 rfl) (And.intro (Holds.rd H91_ 8 rfl) ((Holds.ro_at H91_ 7 rfl)))))))))
  refine A_tk 0 (v := (vQ x.a)) rfl (by kernel_rfl) (fun w hS => x_move rfl) hq92_ ?_
  refine A_tk 1 (v := (vQ x.a)) rfl (by kernel_rfl) (fun w hS => by kernel_rfl) hq92_ ?_
  refine A_tk 2 (v := (vP (some ⟨x.a, 5, none⟩))) rfl (by kernel_rfl) (fun w hS => by kernel_rfl) hq92_ ?_
  refine A_tk 3 (v := (vQ y.a)) rfl (by kernel_rfl) (fun w hS => x_load1 rfl underlying173 rfl (hS.2.2.2.2.2.1.1 5 (vQ y.a) rfl)) hq92_ ?_
  refine A_tk 4 (v := (vQ tb)) rfl (by kernel_rfl) (fun w hS => x_move rfl) hq92_ ?_
  refine A_tk 5 (v := (vQ tb)) rfl (by kernel_rfl) (fun w hS => by kernel_rfl) hq92_ ?_
  refine A_tk 6 (v := (vP (some ⟨tb, 2, none⟩))) rfl (by kernel_rfl) (fun w hS => by kernel_rfl) hq92_ ?_
  refine A_tk 7 (v := (vQ sb)) rfl (by kernel_rfl) (fun w hS => x_load1 rfl underlying173 rfl (hS.2.2.2.2.2.2.2.1 2 (vQ sb) rfl)) hq92_ ?_
  have hpc93_ : y.a ≠ sb := Holds.ne_f H91_ 3 rfl 10 rfl (by decide)
  refine A_ready (i := 8) (rs := []) (by kernel_rfl) ?_
  refine AllR.cons ?_ AllR.nil
  refine A_op (ls' := #[true, true, true, true, true, true, true, true, true]) rfl (by kernel_rfl) (T_val (v := (vB false)) (x_cast (x_eqPN rfl rfl underlying173 z182 (by decide) (Holds.blk H91_ 3 rfl) (Holds.blk H91_ 10 rfl)) (congrArg vB (decide_eq_false hpc93_))) ?_)
  refine ⟨⟨(And.intro (Holds.rdf H91_ 0 rfl) (Holds.blk H91_ 0 rfl)), Holds.tr_rd H91_ 1 rfl 10 rfl, Holds.tr_rd H91_ 2 rfl 10 rfl, (And.intro (Holds.rdf H91_ 3 rfl) (Holds.blk H91_ 3 rfl)), Holds.tr_rd H91_ 4 rfl 10 rfl, (And.intro (Holds.rdf H91_ 5 rfl) (Holds.blk H91_ 5 rfl)), Holds.tr_rd H91_ 6 rfl 10 rfl, Holds.rd H91_ 8 rfl, (Holds.ro_at H91_ 7 rfl)⟩, ?_⟩
  refine A_done (by kernel_rfl) ?_
  refine (X_then (hK2_ _ _ ?_))
  refine C_condF rfl ?_
  refine C_skip (X_then (hK1_ _ _ ?_))
  refine cR fun _ hK94_ => ?_
  refine sm (vQ x.a) ?_
  refine sv (v := (vQ x.a)) (by kernel_rfl) ?_
  refine sv (v := (vP (some ⟨x.a, 5, none⟩))) (by kernel_rfl) ?_
  refine sv (v := (vQ y.a)) (x_load1 rfl underlying173 rfl ((Holds.rdf H91_ 5 rfl) 5 (vQ y.a) rfl)) ?_
  refine sv (v := (vQ y.a)) (x_assign rfl) ?_
  refine wn (hK94_ _ _ ?_)
  refine cR fun _ hK95_ => ?_
  refine sm (vQ x.a) ?_
  refine sm (vQ y.a) ?_
  refine sv (v := (vQ y.a)) (by kernel_rfl) ?_
  refine sv (v := (vP (some ⟨y.a, 4, none⟩))) (by kernel_rfl) ?_
  refine sv (v := (vQ f3_n.a)) (x_load1 rfl underlying173 rfl ((Holds.rdf H91_ 3 rfl) 4 (vQ f3_n.a) rfl)) ?_
  refine sv (v := (vQ x.a)) (by kernel_rfl) ?_
  refine sv (v := (vP (some ⟨x.a, 5, none⟩))) (by kernel_rfl) ?_
  refine S_list0 (T_store1f (v := (vQ f3_n.a)) rfl rfl z173 rfl H91_ 5 rfl (Nat.le_of_ble_eq_true (by rfl)) ?_)
  intro w96_ S98_ H97_
  have S99_ := Same.trans (Same.trans (Same.refl w) (Same.drew _)) S98_
  refine wn (hK95_ _ _ ?_)
  refine C_seq (fun _ hK100_ => ?_)
  refine C_seq (fun _ hK101_ => ?_)
  refine A_start (S := fun w => (Rd f3_n.a [f3_n.b, f3_n.e, f3_n.v, f3_n.mx, (vQ (rt sb f3_l)), (vQ (rt sb f3_r)), (vQ y.a), (vI .i64 f3_n.c)] w ∧ Blk w f3_n.a) ∧ RtRd w (rt sb f3_l) (rmx f3_l) ∧ RtRd w (rt sb f3_r) (rmx f3_r) ∧ (Rd y.a [y.b, y.e, y.v, y.mx, (vQ f3_n.a), (vQ (rt sb D)), (vQ x.a), (vI .i64 y.c)] w ∧ Blk w y.a) ∧ RtRd w (rt sb D) (rmx D) ∧ (Rd x.a [x.b, x.e, x.v, x.mx, (vQ (rt sb A)), (vQ f3_n.a), (vQ (pa sb C)), (vI .i64 x.c)] w ∧ Blk w x.a) ∧ RtRd w (rt sb A) (rmx A) ∧ Rd tb [(vQ (ra x.a C)), (vI .i64 cnt), (vQ sb)] w ∧ Sub R (hp w)) (N := 9) foll rfl rfl ?_
  have H102_ := Holds.drew_ H97_
  have hq103_ := And.intro ((And.intro (Holds.rdf H102_ 0 rfl) (Holds.blk H102_ 0 rfl))) (And.intro (Holds.tr_rd H102_ 1 rfl 10 rfl) (And.intro (Holds.tr_rd H102_ 2 rfl 10 rfl) (And.intro ((And.intro (Holds.rdf H102_ 3 rfl) (Holds.blk H102_ 3 rfl))) (And.intro (Holds.tr_rd H102_ 4 rfl 10 rfl) (And.intro ((And.intro (Holds.rdf H102_ 5 rfl) (Holds.blk H102_ 5 rfl))) (And.intro (Holds.tr_rd H102_ 6 rfl 10 rfl) (And.intro (Holds.rd H102_ 8 rfl) ((Holds.ro_at H102_ 7 rfl)))))))))
  refine A_tk 0 (v := (vQ y.a)) rfl (by kernel_rfl) (fun w hS => x_move rfl) hq103_ ?_
  refine A_tk 1 (v := (vQ y.a)) rfl (by kernel_rfl) (fun w hS => by kernel_rfl) hq103_ ?_
  refine A_tk 2 (v := (vP (some ⟨y.a, 4, none⟩))) rfl (by kernel_rfl) (fun w hS => by kernel_rfl) hq103_ ?_
  refine A_tk 3 (v := (vQ f3_n.a)) rfl (by kernel_rfl) (fun w hS => x_load1 rfl underlying173 rfl (hS.2.2.2.1.1 4 (vQ f3_n.a) rfl)) hq103_ ?_
  refine A_tk 4 (v := (vQ tb)) rfl (by kernel_rfl) (fun w hS => x_move rfl) hq103_ ?_
  refine A_tk 5 (v := (vQ tb)) rfl (by kernel_rfl) (fun w hS => by kernel_rfl) hq103_ ?_
  refine A_tk 6 (v := (vP (some ⟨tb, 2, none⟩))) rfl (by kernel_rfl) (fun w hS => by kernel_rfl) hq103_ ?_
  refine A_tk 7 (v := (vQ sb)) rfl (by kernel_rfl) (fun w hS => x_load1 rfl underlying173 rfl (hS.2.2.2.2.2.2.2.1 2 (vQ sb) rfl)) hq103_ ?_
  have hpc104_ : f3_n.a ≠ sb := Holds.ne_f H102_ 0 rfl 10 rfl (by decide)
  refine A_ready (i := 8) (rs := []) (by kernel_rfl) ?_
  refine AllR.cons ?_ AllR.nil
  refine A_op (ls' := #[true, true, true, true, true, true, true, true, true]) rfl (by kernel_rfl) (T_val (v := (vB true)) (x_cast (x_nePN rfl rfl underlying173 z182 (by decide) (Holds.blk H102_ 0 rfl) (Holds.blk H102_ 10 rfl)) (congrArg vB (decide_eq_true hpc104_))) ?_)
  refine ⟨⟨(And.intro (Holds.rdf H102_ 0 rfl) (Holds.blk H102_ 0 rfl)), Holds.tr_rd H102_ 1 rfl 10 rfl, Holds.tr_rd H102_ 2 rfl 10 rfl, (And.intro (Holds.rdf H102_ 3 rfl) (Holds.blk H102_ 3 rfl)), Holds.tr_rd H102_ 4 rfl 10 rfl, (And.intro (Holds.rdf H102_ 5 rfl) (Holds.blk H102_ 5 rfl)), Holds.tr_rd H102_ 6 rfl 10 rfl, Holds.rd H102_ 8 rfl, (Holds.ro_at H102_ 7 rfl)⟩, ?_⟩
  refine A_done (by kernel_rfl) ?_
  refine (X_then (hK101_ _ _ ?_))
  refine C_condT rfl ?_
  refine C_reg ?_
  refine sm (vQ y.a) ?_
  refine sv (v := (vQ y.a)) (by kernel_rfl) ?_
  refine sv (v := (vP (some ⟨y.a, 4, none⟩))) (by kernel_rfl) ?_
  refine sv (v := (vQ f3_n.a)) (x_load1 rfl underlying173 rfl ((Holds.rdf H102_ 3 rfl) 4 (vQ f3_n.a) rfl)) ?_
  refine sm (vQ x.a) ?_
  refine sv (v := (vQ f3_n.a)) (by kernel_rfl) ?_
  refine sv (v := (vP (some ⟨f3_n.a, 6, none⟩))) (by kernel_rfl) ?_
  refine S_list0 (T_store1f (v := (vQ x.a)) rfl rfl z173 rfl H102_ 0 rfl (Nat.le_of_ble_eq_true (by rfl)) ?_)
  intro w105_ S107_ H106_
  have S108_ := Same.trans (Same.trans S99_ (Same.drew _)) S107_
  refine wn (hK100_ _ _ ?_)
  refine cR fun _ hK109_ => ?_
  refine sm (vQ x.a) ?_
  refine sm (vQ tb) ?_
  refine sv (v := (vQ tb)) (by kernel_rfl) ?_
  refine sv (v := (vP (some ⟨tb, 2, none⟩))) (by kernel_rfl) ?_
  refine sv (v := (vQ sb)) (x_load1 rfl underlying173 rfl ((Holds.rd H106_ 8 rfl) 2 (vQ sb) rfl)) ?_
  have H110_ := ((Holds.bring (Holds.bring (Holds.bring H106_ 9 rfl) 7 rfl) 7 rfl) :)
  have H111_ := Holds.cons_cx (f := (⟨false, x, A⟩ : Fr K)) (x := f3_n.a) H110_
  have H112_ := H111_
  have H113_ := H112_
  have H115_ := ((Holds.bring (Holds.bring (Holds.bring (Holds.bring H113_ 8 rfl) 1 rfl) 2 rfl) 7 rfl) :)
  refine S_list (T_call (al := [(vP (some ⟨(pa sb ((⟨false, x, A⟩ : Fr K) :: C)), 0, none⟩)), (vQ sb)]) (pre := [hol (some (f3_n, (rt sb f3_l), (rt sb f3_r), x.a)), cx sb (ha sb (some (f3_n, (rt sb f3_l), (rt sb f3_r), x.a))) ((⟨false, x, A⟩ : Fr K) :: C), clf sb 182 sc]) rfl (lcons ((by first | rfl | omega | (simp; done) | (simp; omega)) : (vQ x.a) = (vP (some ⟨(pa sb ((⟨false, x, A⟩ : Fr K) :: C)), 0, none⟩))) rfl) cb152 (itUpMax R K O sb sc (some (f3_n, (rt sb f3_l), (rt sb f3_r), x.a)) ((⟨false, x, A⟩ : Fr K) :: C) (COk.cons hx_ hA_ hC) (TOk.mx hB_)) H115_ ?_)
  rintro v114_ p119_ w116_ ⟨rfl, rfl⟩ S118_ H117_
  have S120_ := Same.trans S108_ S118_
  have H121_ : Holds w116_ (ro R :: hol (some (f3_n, (rt sb f3_l), (rt sb f3_r), x.a)) :: cx sb f3_n.a (upC O (rmx (Tr.nd f3_n f3_l f3_r)) ((⟨false, x, A⟩ : Fr K) :: C)) :: clf sb 182 sc :: tr sb f3_n.a f3_l :: tr sb f3_n.a f3_r :: clf y.a 182 [y.b, y.e, y.v, y.mx, (vQ f3_n.a), (vQ (rt sb D)), (vQ x.a), (vI .i64 y.c)] :: tr sb y.a D :: cl tb 185 [(vQ (ra x.a C)), (vI .i64 cnt), (vQ sb)] :: F) := (H117_)
  have H122_ := H121_
  rw [upC_cons] at H122_
  have hraC1 := fun z => ra_upT (O := O) (rmx (Tr.nd f3_n f3_l f3_r)) (⟨false, x, A⟩ : Fr K) C z
  have hpaC1 := pa_upT (O := O) sb C (rmx (Tr.nd f3_n f3_l f3_r)) (⟨false, x, A⟩ : Fr K)
  have hvv1 := VOk.u (O := O) (R := R) (h := (rmx (Tr.nd f3_n f3_l f3_r))) (f := (⟨false, x, A⟩ : Fr K)) (TOk.mx hB_) hx_ hA_
  have hCO1 := COk.upT (O := O) (R := R) (h := (rmx (Tr.nd f3_n f3_l f3_r))) (f := (⟨false, x, A⟩ : Fr K)) (C := C) hC (TOk.mx hB_) hx_ hA_
  obtain ⟨v1, hv1e⟩ : ∃ z, z = upV O (rmx (Tr.nd f3_n f3_l f3_r)) (⟨false, x, A⟩ : Fr K) := ⟨_, rfl⟩
  obtain ⟨C1, hC1e⟩ : ∃ z, z = upT O (rmx (Tr.nd f3_n f3_l f3_r)) (⟨false, x, A⟩ : Fr K) C := ⟨_, rfl⟩
  rw [← hv1e, ← hC1e] at H122_; rw [← hv1e] at hvv1; rw [← hC1e] at hCO1 hraC1 hpaC1
  have H123_ := H122_
  have H124_ := ((Holds.bring H123_ 2 rfl) :)
  have H125_ := Holds.cx_cons H124_
  have H126_ : Holds w116_ (clf x.a 182 [x.b, x.e, x.v, v1.1, (vQ (rt sb A)), (vQ f3_n.a), (vQ (pa sb C1)), (vI .i64 x.c)] :: tr sb x.a A :: cx sb x.a C1 :: ro R :: clf f3_n.a 182 [f3_n.b, f3_n.e, f3_n.v, f3_n.mx, (vQ (rt sb f3_l)), (vQ (rt sb f3_r)), (vQ x.a), (vI .i64 f3_n.c)] :: clf sb 182 sc :: tr sb f3_n.a f3_l :: tr sb f3_n.a f3_r :: clf y.a 182 [y.b, y.e, y.v, y.mx, (vQ f3_n.a), (vQ (rt sb D)), (vQ x.a), (vI .i64 y.c)] :: tr sb y.a D :: cl tb 185 [(vQ (ra x.a C)), (vI .i64 cnt), (vQ sb)] :: F) := (H125_)
  have H127_ := H126_; rw [show ra x.a C = ra x.a C1 from (hraC1 _).symm] at H127_
  have H128_ := H127_
  refine wn (hK109_ _ _ ?_)
  refine cR fun _ hK129_ => ?_
  refine sm (vQ tb) ?_
  refine sm (vQ x.a) ?_
  refine sm (vQ y.a) ?_
  have H130_ := H128_
  have H132_ := ((Holds.bring (Holds.bring (Holds.bring (Holds.bring (Holds.bring (Holds.bring H130_ 5 rfl) 3 rfl) 8 rfl) 3 rfl) 10 rfl) 6 rfl) :)
  refine S_list (T_call (al := [(vQ tb), (vQ ((x.setmx v1).a)), (vQ y.a)]) (pre := [cl tb 185 [(vQ (ra (x.setmx v1).a C1)), (vI .i64 cnt), (vQ sb)], clf ((x.setmx v1).a) 182 [((x.setmx v1).b), ((x.setmx v1).e), ((x.setmx v1).v), ((x.setmx v1).mx), (vQ (rt sb A)), (vQ f3_n.a), (vQ (pa sb C1)), (vI .i64 ((x.setmx v1).c))], clf y.a 182 [y.b, y.e, y.v, y.mx, (vQ f3_n.a), (vQ (rt sb D)), (vQ x.a), (vI .i64 y.c)], cx sb ((x.setmx v1).a) C1, clf sb 182 sc]) rfl (lcons rfl (lcons ((by first | rfl | omega | (simp; done) | (simp; omega)) : (vQ x.a) = (vQ ((x.setmx v1).a))) rfl)) cb177 (itRepl R K O tb sb cnt sc (x.setmx v1) y (rt sb A) f3_n.a f3_n.a (rt sb D) x.a C1 (hCO1) (hy_)) H132_ ?_)
  rintro v131_ p136_ w133_ ⟨rfl, rfl⟩ S135_ H134_
  have S137_ := Same.trans S120_ S135_
  have H138_ : Holds w133_ (ro R :: cl tb 185 [(vQ (ra y.a C1)), (vI .i64 cnt), (vQ sb)] :: clf x.a 182 [x.b, x.e, x.v, v1.1, (vQ (rt sb A)), (vQ f3_n.a), (vQ y.a), (vI .i64 x.c)] :: clf y.a 182 [y.b, y.e, y.v, y.mx, (vQ f3_n.a), (vQ (rt sb D)), (vQ (pa sb C1)), (vI .i64 y.c)] :: cx sb y.a (upC O (some (y.mx, y.km)) C1) :: clf sb 182 sc :: tr sb x.a A :: clf f3_n.a 182 [f3_n.b, f3_n.e, f3_n.v, f3_n.mx, (vQ (rt sb f3_l)), (vQ (rt sb f3_r)), (vQ x.a), (vI .i64 f3_n.c)] :: tr sb f3_n.a f3_l :: tr sb f3_n.a f3_r :: tr sb y.a D :: F) := (H134_)
  have hraC2 := fun z => ra_upC O C1 z (some (y.mx, y.km))
  have hpaC2 := pa_upC (O := O) sb C1 (some (y.mx, y.km))
  have hCO2 := COk.up (O := O) (R := R) (h := some (y.mx, y.km)) hCO1 (fun z hz => by cases hz; exact hy_.m)
  obtain ⟨C2, hC2e⟩ : ∃ z, z = upC O (some (y.mx, y.km)) C1 := ⟨_, rfl⟩
  have H139_ := H138_; rw [← hC2e] at H139_; rw [← hC2e] at hraC2 hpaC2 hCO2; rw [← hpaC2] at H139_; rw [← hraC2] at H139_
  have H140_ := H139_
  refine wn (hK129_ _ _ ?_)
  refine cR fun _ hK141_ => ?_
  refine sm (vQ y.a) ?_
  refine sm (vQ x.a) ?_
  refine sv (v := (vQ y.a)) (by kernel_rfl) ?_
  refine sv (v := (vP (some ⟨y.a, 4, none⟩))) (by kernel_rfl) ?_
  refine S_list0 (T_store1f (v := (vQ x.a)) rfl rfl z173 rfl H140_ 3 rfl (Nat.le_of_ble_eq_true (by rfl)) ?_)
  intro w142_ S144_ H143_
  have S145_ := Same.trans S137_ S144_
  refine wn (hK141_ _ _ ?_)
  refine C_reg ?_
  refine sm (vQ y.a) ?_
  refine sm (vQ tb) ?_
  refine sv (v := (vQ tb)) (by kernel_rfl) ?_
  refine sv (v := (vP (some ⟨tb, 2, none⟩))) (by kernel_rfl) ?_
  refine sv (v := (vQ sb)) (x_load1 rfl underlying173 rfl ((Holds.rd H143_ 1 rfl) 2 (vQ sb) rfl)) ?_
  have H146_ := ((Holds.bring (Holds.bring (Holds.bring H143_ 4 rfl) 10 rfl) 5 rfl) :)
  have H147_ := Holds.cons_cx (f := (⟨true, y, D⟩ : Fr K)) (x := x.a) H146_
  have H148_ := H147_
  have H150_ := ((Holds.bring (Holds.bring (Holds.bring (Holds.bring H148_ 4 rfl) 1 rfl) 4 rfl) 3 rfl) :)
  refine S_list (T_call (al := [(vP (some ⟨(pa sb ((⟨true, y, D⟩ : Fr K) :: C2)), 0, none⟩)), (vQ sb)]) (pre := [hol (some (x.setmx v1, (rt sb A), f3_n.a, y.a)), cx sb (ha sb (some (x.setmx v1, (rt sb A), f3_n.a, y.a))) ((⟨true, y, D⟩ : Fr K) :: C2), clf sb 182 sc]) rfl (lcons ((by first | rfl | omega | (simp; done) | (simp; omega)) : (vQ y.a) = (vP (some ⟨(pa sb ((⟨true, y, D⟩ : Fr K) :: C2)), 0, none⟩))) rfl) cb152 (itUpMax R K O sb sc (some (x.setmx v1, (rt sb A), f3_n.a, y.a)) ((⟨true, y, D⟩ : Fr K) :: C2) (COk.cons hy_ hD_ hCO2) (fun z hz => by cases hz; exact hvv1)) H150_ ?_)
  rintro v149_ p154_ w151_ ⟨rfl, rfl⟩ S153_ H152_
  have S155_ := Same.trans S145_ S153_
  have H156_ : Holds w151_ (ro R :: hol (some (x.setmx v1, (rt sb A), f3_n.a, y.a)) :: cx sb x.a (upC O (some v1) ((⟨true, y, D⟩ : Fr K) :: C2)) :: clf sb 182 sc :: cl tb 185 [(vQ (ra y.a C2)), (vI .i64 cnt), (vQ sb)] :: tr sb x.a A :: clf f3_n.a 182 [f3_n.b, f3_n.e, f3_n.v, f3_n.mx, (vQ (rt sb f3_l)), (vQ (rt sb f3_r)), (vQ x.a), (vI .i64 f3_n.c)] :: tr sb f3_n.a f3_l :: tr sb f3_n.a f3_r :: F) := (H152_)
  have H157_ := H156_
  rw [upC_cons] at H157_
  have hraC3 := fun z => ra_upT (O := O) (some v1) (⟨true, y, D⟩ : Fr K) C2 z
  have hpaC3 := pa_upT (O := O) sb C2 (some v1) (⟨true, y, D⟩ : Fr K)
  have hvv2 := VOk.u (O := O) (R := R) (h := (some v1)) (f := (⟨true, y, D⟩ : Fr K)) (VOk.so_ hvv1) hy_ hD_
  have hCO3 := COk.upT (O := O) (R := R) (h := (some v1)) (f := (⟨true, y, D⟩ : Fr K)) (C := C2) hCO2 (VOk.so_ hvv1) hy_ hD_
  obtain ⟨v2, hv2e⟩ : ∃ z, z = upV O (some v1) (⟨true, y, D⟩ : Fr K) := ⟨_, rfl⟩
  obtain ⟨C3, hC3e⟩ : ∃ z, z = upT O (some v1) (⟨true, y, D⟩ : Fr K) C2 := ⟨_, rfl⟩
  rw [← hv2e, ← hC3e] at H157_; rw [← hv2e] at hvv2; rw [← hC3e] at hCO3 hraC3 hpaC3
  have H158_ := H157_
  have H159_ := ((Holds.bring H158_ 2 rfl) :)
  have H160_ := Holds.cx_cons H159_
  have H161_ := H160_
  refine wpList_nil ?_
  refine R_0 rfl ?_
  have H162_ := ((Holds.bring (Holds.bring (Holds.bring H161_ 10 rfl) 10 rfl) 10 rfl) :)
  have H163_ := Holds.nd_tr (n := f3_n) H162_
  have H164_ := ((Holds.bring (Holds.bring H163_ 8 rfl) 6 rfl) :)
  have H165_ := Holds.nd_tr (n := x.setmx v1) (a := A) (b := (Tr.nd f3_n f3_l f3_r)) H164_
  have H166_ := ((Holds.bring (Holds.bring (Holds.bring H165_ 2 rfl) 1 rfl) 2 rfl) :)
  have H167_ := Holds.nd_tr (n := y.setmx v2) (a := (Tr.nd (x.setmx v1) A (Tr.nd f3_n f3_l f3_r))) (b := D) H166_
  have H168_ := H167_; rw [hpaC3, hpaC2, hpaC1, hraC2, hraC1] at H168_; subst hC3e; subst hv2e; subst hC2e; subst hC1e; subst hv1e
  have H169_ := H168_
  have H170_ := Holds.pkF H169_ [2, 3, 0, 0, 0] 0
  exact ⟨_, _, rfl, ⟨rfl, rfl⟩, S155_, H170_⟩

set_option maxHeartbeats 8000000 in
theorem itRotR (R : HP) (K : Type) (O : KO K) (tb sb : Nat) (cnt : Int) (sc : List Value) (x y : ND K) (A B D : Tr K) (C : List (Fr K)) (hC : COk O R C) (hT : TOk O R (Tr.nd x (Tr.nd y D B) A)) :
    Tri Tryz.prog 176 #[(vQ tb), (vQ x.a)] R [cl tb 185 [(vQ (ra x.a C)), (vI .i64 cnt), (vQ sb)], tr sb (pa sb C) (Tr.nd x (Tr.nd y D B) A), cx sb x.a C, clf sb 182 sc] (fun v__ post__ => v__ = (vT #[]) ∧ post__ = [cl tb 185 [(vQ (ra y.a C)), (vI .i64 cnt), (vQ sb)], tr sb (pa sb C) (rTr O false x y A B D), cx sb y.a (rC3 O false x y A B D C), clf sb 182 sc]) := by
 refine Tri.into (n := 61) (al := [(vQ tb), (vQ x.a)]) func176 rfl ntmps176 rfl rfl fun w F H => ?_
 refine C_seq (fun _ hK1_ => ?_)
 refine C_seq (fun _ hK2_ => ?_)
 rcases B with _ | ⟨f3_n, f3_l, f3_r⟩
 ·skip
  have H4_ : Holds w (ro R :: cl tb 185 [(vQ (ra x.a C)), (vI .i64 cnt), (vQ sb)] :: tr sb (pa sb C) (Tr.nd x (Tr.nd y D (Tr.lf : Tr K)) A) :: cx sb x.a C :: clf sb 182 sc :: F) := (H)
  have H5_ := ((Holds.bring H4_ 2 rfl) :)
  have H6_ := Holds.tr_nd H5_
  have H7_ := ((Holds.bring H6_ 1 rfl) :)
  have H8_ := Holds.tr_nd H7_
  obtain ⟨hx_, hA_, hB_, hy_, hD_⟩ : NOk O R x ∧ TOk O R A ∧ TOk O R (Tr.lf : Tr K) ∧ NOk O R y ∧ TOk O R D := by obtain ⟨a1, a2, a3⟩ := hT; obtain ⟨b1, b2, b3⟩ := a2; exact ⟨a1, a3, b3, b1, b2⟩
  refine A_start (S := fun w => (Rd y.a [y.b, y.e, y.v, y.mx, (vQ (rt sb D)), (vQ sb), (vQ x.a), (vI .i64 y.c)] w ∧ Blk w y.a) ∧ RtRd w (rt sb D) (rmx D) ∧ RtRd w (rt sb (Tr.lf : Tr K)) (rmx (Tr.lf : Tr K)) ∧ (Rd x.a [x.b, x.e, x.v, x.mx, (vQ y.a), (vQ (rt sb A)), (vQ (pa sb C)), (vI .i64 x.c)] w ∧ Blk w x.a) ∧ RtRd w (rt sb A) (rmx A) ∧ Rd tb [(vQ (ra x.a C)), (vI .i64 cnt), (vQ sb)] w ∧ Sub R (hp w)) (N := 9) foll rfl rfl ?_
  have H9_ := Holds.drew_ H8_
  have hq10_ := And.intro ((And.intro (Holds.rdf H9_ 0 rfl) (Holds.blk H9_ 0 rfl))) (And.intro (Holds.tr_rd H9_ 1 rfl 8 rfl) (And.intro (Holds.tr_rd H9_ 2 rfl 8 rfl) (And.intro ((And.intro (Holds.rdf H9_ 3 rfl) (Holds.blk H9_ 3 rfl))) (And.intro (Holds.tr_rd H9_ 4 rfl 8 rfl) (And.intro (Holds.rd H9_ 6 rfl) ((Holds.ro_at H9_ 5 rfl)))))))
  refine A_tk 0 (v := (vQ x.a)) rfl (by kernel_rfl) (fun w hS => x_move rfl) hq10_ ?_
  refine A_tk 1 (v := (vQ x.a)) rfl (by kernel_rfl) (fun w hS => by kernel_rfl) hq10_ ?_
  refine A_tk 2 (v := (vP (some ⟨x.a, 4, none⟩))) rfl (by kernel_rfl) (fun w hS => by kernel_rfl) hq10_ ?_
  refine A_tk 3 (v := (vQ y.a)) rfl (by kernel_rfl) (fun w hS => x_load1 rfl underlying173 rfl (hS.2.2.2.1.1 4 (vQ y.a) rfl)) hq10_ ?_
  refine A_tk 4 (v := (vQ tb)) rfl (by kernel_rfl) (fun w hS => x_move rfl) hq10_ ?_
  refine A_tk 5 (v := (vQ tb)) rfl (by kernel_rfl) (fun w hS => by kernel_rfl) hq10_ ?_
  refine A_tk 6 (v := (vP (some ⟨tb, 2, none⟩))) rfl (by kernel_rfl) (fun w hS => by kernel_rfl) hq10_ ?_
  refine A_tk 7 (v := (vQ sb)) rfl (by kernel_rfl) (fun w hS => x_load1 rfl underlying173 rfl (hS.2.2.2.2.2.1 2 (vQ sb) rfl)) hq10_ ?_
  have hpc11_ : y.a ≠ sb := Holds.ne_f H9_ 0 rfl 8 rfl (by decide)
  refine A_ready (i := 8) (rs := []) (by kernel_rfl) ?_
  refine AllR.cons ?_ AllR.nil
  refine A_op (ls' := #[true, true, true, true, true, true, true, true, true]) rfl (by kernel_rfl) (T_val (v := (vB false)) (x_cast (x_eqPN rfl rfl underlying173 z182 (by decide) (Holds.blk H9_ 0 rfl) (Holds.blk H9_ 8 rfl)) (congrArg vB (decide_eq_false hpc11_))) ?_)
  refine ⟨⟨(And.intro (Holds.rdf H9_ 0 rfl) (Holds.blk H9_ 0 rfl)), Holds.tr_rd H9_ 1 rfl 8 rfl, Holds.tr_rd H9_ 2 rfl 8 rfl, (And.intro (Holds.rdf H9_ 3 rfl) (Holds.blk H9_ 3 rfl)), Holds.tr_rd H9_ 4 rfl 8 rfl, Holds.rd H9_ 6 rfl, (Holds.ro_at H9_ 5 rfl)⟩, ?_⟩
  refine A_done (by kernel_rfl) ?_
  refine (X_then (hK2_ _ _ ?_))
  refine C_condF rfl ?_
  refine C_skip (X_then (hK1_ _ _ ?_))
  refine cR fun _ hK12_ => ?_
  refine sm (vQ x.a) ?_
  refine sv (v := (vQ x.a)) (by kernel_rfl) ?_
  refine sv (v := (vP (some ⟨x.a, 4, none⟩))) (by kernel_rfl) ?_
  refine sv (v := (vQ y.a)) (x_load1 rfl underlying173 rfl ((Holds.rdf H9_ 3 rfl) 4 (vQ y.a) rfl)) ?_
  refine sv (v := (vQ y.a)) (x_assign rfl) ?_
  refine wn (hK12_ _ _ ?_)
  refine cR fun _ hK13_ => ?_
  refine sm (vQ x.a) ?_
  refine sm (vQ y.a) ?_
  refine sv (v := (vQ y.a)) (by kernel_rfl) ?_
  refine sv (v := (vP (some ⟨y.a, 5, none⟩))) (by kernel_rfl) ?_
  refine sv (v := (vQ sb)) (x_load1 rfl underlying173 rfl ((Holds.rdf H9_ 0 rfl) 5 (vQ sb) rfl)) ?_
  refine sv (v := (vQ x.a)) (by kernel_rfl) ?_
  refine sv (v := (vP (some ⟨x.a, 4, none⟩))) (by kernel_rfl) ?_
  refine S_list0 (T_store1f (v := (vQ sb)) rfl rfl z173 rfl H9_ 3 rfl (Nat.le_of_ble_eq_true (by rfl)) ?_)
  intro w14_ S16_ H15_
  have S17_ := Same.trans (Same.trans (Same.refl w) (Same.drew _)) S16_
  refine wn (hK13_ _ _ ?_)
  refine C_seq (fun _ hK18_ => ?_)
  refine C_seq (fun _ hK19_ => ?_)
  refine A_start (S := fun w => (Rd y.a [y.b, y.e, y.v, y.mx, (vQ (rt sb D)), (vQ sb), (vQ x.a), (vI .i64 y.c)] w ∧ Blk w y.a) ∧ RtRd w (rt sb D) (rmx D) ∧ RtRd w (rt sb (Tr.lf : Tr K)) (rmx (Tr.lf : Tr K)) ∧ (Rd x.a [x.b, x.e, x.v, x.mx, (vQ sb), (vQ (rt sb A)), (vQ (pa sb C)), (vI .i64 x.c)] w ∧ Blk w x.a) ∧ RtRd w (rt sb A) (rmx A) ∧ Rd tb [(vQ (ra x.a C)), (vI .i64 cnt), (vQ sb)] w ∧ Sub R (hp w)) (N := 9) foll rfl rfl ?_
  have H20_ := Holds.drew_ H15_
  have hq21_ := And.intro ((And.intro (Holds.rdf H20_ 0 rfl) (Holds.blk H20_ 0 rfl))) (And.intro (Holds.tr_rd H20_ 1 rfl 8 rfl) (And.intro (Holds.tr_rd H20_ 2 rfl 8 rfl) (And.intro ((And.intro (Holds.rdf H20_ 3 rfl) (Holds.blk H20_ 3 rfl))) (And.intro (Holds.tr_rd H20_ 4 rfl 8 rfl) (And.intro (Holds.rd H20_ 6 rfl) ((Holds.ro_at H20_ 5 rfl)))))))
  refine A_tk 0 (v := (vQ y.a)) rfl (by kernel_rfl) (fun w hS => x_move rfl) hq21_ ?_
  refine A_tk 1 (v := (vQ y.a)) rfl (by kernel_rfl) (fun w hS => by kernel_rfl) hq21_ ?_
  refine A_tk 2 (v := (vP (some ⟨y.a, 5, none⟩))) rfl (by kernel_rfl) (fun w hS => by kernel_rfl) hq21_ ?_
  refine A_tk 3 (v := (vQ sb)) rfl (by kernel_rfl) (fun w hS => x_load1 rfl underlying173 rfl (hS.1.1 5 (vQ sb) rfl)) hq21_ ?_
  refine A_tk 4 (v := (vQ tb)) rfl (by kernel_rfl) (fun w hS => x_move rfl) hq21_ ?_
  refine A_tk 5 (v := (vQ tb)) rfl (by kernel_rfl) (fun w hS => by kernel_rfl) hq21_ ?_
  refine A_tk 6 (v := (vP (some ⟨tb, 2, none⟩))) rfl (by kernel_rfl) (fun w hS => by kernel_rfl) hq21_ ?_
  refine A_tk 7 (v := (vQ sb)) rfl (by kernel_rfl) (fun w hS => x_load1 rfl underlying173 rfl (hS.2.2.2.2.2.1 2 (vQ sb) rfl)) hq21_ ?_
  refine A_tk 8 (v := (vB false)) rfl (by kernel_rfl) (fun w hS => x_neP rfl rfl underlying173 z182) hq21_ ?_
  refine A_done (by kernel_rfl) ?_
  refine (X_then (hK19_ _ _ ?_))
  refine C_condF rfl ?_
  refine C_skip (X_then (hK18_ _ _ ?_))
  refine cR fun _ hK22_ => ?_
  refine sm (vQ x.a) ?_
  refine sm (vQ tb) ?_
  refine sv (v := (vQ tb)) (by kernel_rfl) ?_
  refine sv (v := (vP (some ⟨tb, 2, none⟩))) (by kernel_rfl) ?_
  refine sv (v := (vQ sb)) (x_load1 rfl underlying173 rfl ((Holds.rd H20_ 6 rfl) 2 (vQ sb) rfl)) ?_
  have H23_ := ((Holds.bring (Holds.bring (Holds.bring H20_ 7 rfl) 5 rfl) 5 rfl) :)
  have H24_ := Holds.cons_cx (f := (⟨true, x, A⟩ : Fr K)) (x := sb) H23_
  have H25_ : Holds w14_.drew (hol (none : Option (ND K × Nat × Nat × Nat)) :: cx sb sb ((⟨true, x, A⟩ : Fr K) :: C) :: clf y.a 182 [y.b, y.e, y.v, y.mx, (vQ (rt sb D)), (vQ sb), (vQ x.a), (vI .i64 y.c)] :: tr sb y.a D :: tr sb y.a (Tr.lf : Tr K) :: ro R :: cl tb 185 [(vQ (ra x.a C)), (vI .i64 cnt), (vQ sb)] :: clf sb 182 sc :: F) := Holds.hol_none H24_
  have H26_ := H25_
  have H28_ := ((Holds.bring (Holds.bring (Holds.bring (Holds.bring H26_ 7 rfl) 2 rfl) 2 rfl) 6 rfl) :)
  refine S_list (T_call (al := [(vP (some ⟨(pa sb ((⟨true, x, A⟩ : Fr K) :: C)), 0, none⟩)), (vQ sb)]) (pre := [hol (none : Option (ND K × Nat × Nat × Nat)), cx sb (ha sb (none : Option (ND K × Nat × Nat × Nat))) ((⟨true, x, A⟩ : Fr K) :: C), clf sb 182 sc]) rfl (lcons ((by first | rfl | omega | (simp; done) | (simp; omega)) : (vQ x.a) = (vP (some ⟨(pa sb ((⟨true, x, A⟩ : Fr K) :: C)), 0, none⟩))) rfl) cb152 (itUpMax R K O sb sc (none : Option (ND K × Nat × Nat × Nat)) ((⟨true, x, A⟩ : Fr K) :: C) (COk.cons hx_ hA_ hC) (fun z hz => by cases hz)) H28_ ?_)
  rintro v27_ p32_ w29_ ⟨rfl, rfl⟩ S31_ H30_
  have S33_ := Same.trans (Same.trans S17_ (Same.drew _)) S31_
  have H34_ : Holds w29_ (ro R :: hol (none : Option (ND K × Nat × Nat × Nat)) :: cx sb sb (upC O (rmx (Tr.lf : Tr K)) ((⟨true, x, A⟩ : Fr K) :: C)) :: clf sb 182 sc :: clf y.a 182 [y.b, y.e, y.v, y.mx, (vQ (rt sb D)), (vQ sb), (vQ x.a), (vI .i64 y.c)] :: tr sb y.a D :: tr sb y.a (Tr.lf : Tr K) :: cl tb 185 [(vQ (ra x.a C)), (vI .i64 cnt), (vQ sb)] :: F) := (H30_)
  have H35_ := H34_
  rw [upC_cons] at H35_
  have hraC1 := fun z => ra_upT (O := O) (rmx (Tr.lf : Tr K)) (⟨true, x, A⟩ : Fr K) C z
  have hpaC1 := pa_upT (O := O) sb C (rmx (Tr.lf : Tr K)) (⟨true, x, A⟩ : Fr K)
  have hvv1 := VOk.u (O := O) (R := R) (h := (rmx (Tr.lf : Tr K))) (f := (⟨true, x, A⟩ : Fr K)) (TOk.mx hB_) hx_ hA_
  have hCO1 := COk.upT (O := O) (R := R) (h := (rmx (Tr.lf : Tr K))) (f := (⟨true, x, A⟩ : Fr K)) (C := C) hC (TOk.mx hB_) hx_ hA_
  obtain ⟨v1, hv1e⟩ : ∃ z, z = upV O (rmx (Tr.lf : Tr K)) (⟨true, x, A⟩ : Fr K) := ⟨_, rfl⟩
  obtain ⟨C1, hC1e⟩ : ∃ z, z = upT O (rmx (Tr.lf : Tr K)) (⟨true, x, A⟩ : Fr K) C := ⟨_, rfl⟩
  rw [← hv1e, ← hC1e] at H35_; rw [← hv1e] at hvv1; rw [← hC1e] at hCO1 hraC1 hpaC1
  have H36_ := H35_
  have H37_ := ((Holds.bring H36_ 2 rfl) :)
  have H38_ := Holds.cx_cons H37_
  have H39_ := H38_
  have H40_ := Holds.pkF H39_ [0, 0, 0, 0, 1, 1, 1, 1, 1] 1
  have H41_ := H40_; rw [show ra x.a C = ra x.a C1 from (hraC1 _).symm] at H41_
  have H42_ := H41_
  refine wn (hK22_ _ _ ?_)
  refine cR fun _ hK43_ => ?_
  refine sm (vQ tb) ?_
  refine sm (vQ x.a) ?_
  refine sm (vQ y.a) ?_
  have H44_ := H42_
  have H46_ := ((Holds.bring (Holds.bring (Holds.bring (Holds.bring (Holds.bring (Holds.bring H44_ 4 rfl) 3 rfl) 5 rfl) 3 rfl) 8 rfl) 6 rfl) :)
  refine S_list (T_call (al := [(vQ tb), (vQ ((x.setmx v1).a)), (vQ y.a)]) (pre := [cl tb 185 [(vQ (ra (x.setmx v1).a C1)), (vI .i64 cnt), (vQ sb)], clf ((x.setmx v1).a) 182 [((x.setmx v1).b), ((x.setmx v1).e), ((x.setmx v1).v), ((x.setmx v1).mx), (vQ sb), (vQ (rt sb A)), (vQ (pa sb C1)), (vI .i64 ((x.setmx v1).c))], clf y.a 182 [y.b, y.e, y.v, y.mx, (vQ (rt sb D)), (vQ sb), (vQ x.a), (vI .i64 y.c)], cx sb ((x.setmx v1).a) C1, clf sb 182 sc]) rfl (lcons rfl (lcons ((by first | rfl | omega | (simp; done) | (simp; omega)) : (vQ x.a) = (vQ ((x.setmx v1).a))) rfl)) cb177 (itRepl R K O tb sb cnt sc (x.setmx v1) y sb (rt sb A) (rt sb D) sb x.a C1 (hCO1) (hy_)) H46_ ?_)
  rintro v45_ p50_ w47_ ⟨rfl, rfl⟩ S49_ H48_
  have S51_ := Same.trans S33_ S49_
  have H52_ : Holds w47_ (ro R :: cl tb 185 [(vQ (ra y.a C1)), (vI .i64 cnt), (vQ sb)] :: clf x.a 182 [x.b, x.e, x.v, v1.1, (vQ sb), (vQ (rt sb A)), (vQ y.a), (vI .i64 x.c)] :: clf y.a 182 [y.b, y.e, y.v, y.mx, (vQ (rt sb D)), (vQ sb), (vQ (pa sb C1)), (vI .i64 y.c)] :: cx sb y.a (upC O (some (y.mx, y.km)) C1) :: clf sb 182 sc :: tr sb x.a A :: tr sb y.a D :: tr sb y.a (Tr.lf : Tr K) :: F) := (H48_)
  have hraC2 := fun z => ra_upC O C1 z (some (y.mx, y.km))
  have hpaC2 := pa_upC (O := O) sb C1 (some (y.mx, y.km))
  have hCO2 := COk.up (O := O) (R := R) (h := some (y.mx, y.km)) hCO1 (fun z hz => by cases hz; exact hy_.m)
  obtain ⟨C2, hC2e⟩ : ∃ z, z = upC O (some (y.mx, y.km)) C1 := ⟨_, rfl⟩
  have H53_ := H52_; rw [← hC2e] at H53_; rw [← hC2e] at hraC2 hpaC2 hCO2; rw [← hpaC2] at H53_; rw [← hraC2] at H53_
  have H54_ := H53_
  refine wn (hK43_ _ _ ?_)
  refine cR fun _ hK55_ => ?_
  refine sm (vQ y.a) ?_
  refine sm (vQ x.a) ?_
  refine sv (v := (vQ y.a)) (by kernel_rfl) ?_
  refine sv (v := (vP (some ⟨y.a, 5, none⟩))) (by kernel_rfl) ?_
  refine S_list0 (T_store1f (v := (vQ x.a)) rfl rfl z173 rfl H54_ 3 rfl (Nat.le_of_ble_eq_true (by rfl)) ?_)
  intro w56_ S58_ H57_
  have S59_ := Same.trans S51_ S58_
  refine wn (hK55_ _ _ ?_)
  refine C_reg ?_
  refine sm (vQ y.a) ?_
  refine sm (vQ tb) ?_
  refine sv (v := (vQ tb)) (by kernel_rfl) ?_
  refine sv (v := (vP (some ⟨tb, 2, none⟩))) (by kernel_rfl) ?_
  refine sv (v := (vQ sb)) (x_load1 rfl underlying173 rfl ((Holds.rd H57_ 1 rfl) 2 (vQ sb) rfl)) ?_
  have H60_ := ((Holds.bring (Holds.bring (Holds.bring H57_ 4 rfl) 7 rfl) 5 rfl) :)
  have H61_ := Holds.cons_cx (f := (⟨false, y, D⟩ : Fr K)) (x := x.a) H60_
  have H62_ := H61_
  have H64_ := ((Holds.bring (Holds.bring (Holds.bring (Holds.bring H62_ 4 rfl) 1 rfl) 4 rfl) 3 rfl) :)
  refine S_list (T_call (al := [(vP (some ⟨(pa sb ((⟨false, y, D⟩ : Fr K) :: C2)), 0, none⟩)), (vQ sb)]) (pre := [hol (some (x.setmx v1, sb, (rt sb A), y.a)), cx sb (ha sb (some (x.setmx v1, sb, (rt sb A), y.a))) ((⟨false, y, D⟩ : Fr K) :: C2), clf sb 182 sc]) rfl (lcons ((by first | rfl | omega | (simp; done) | (simp; omega)) : (vQ y.a) = (vP (some ⟨(pa sb ((⟨false, y, D⟩ : Fr K) :: C2)), 0, none⟩))) rfl) cb152 (itUpMax R K O sb sc (some (x.setmx v1, sb, (rt sb A), y.a)) ((⟨false, y, D⟩ : Fr K) :: C2) (COk.cons hy_ hD_ hCO2) (fun z hz => by cases hz; exact hvv1)) H64_ ?_)
  rintro v63_ p68_ w65_ ⟨rfl, rfl⟩ S67_ H66_
  have S69_ := Same.trans S59_ S67_
  have H70_ : Holds w65_ (ro R :: hol (some (x.setmx v1, sb, (rt sb A), y.a)) :: cx sb x.a (upC O (some v1) ((⟨false, y, D⟩ : Fr K) :: C2)) :: clf sb 182 sc :: cl tb 185 [(vQ (ra y.a C2)), (vI .i64 cnt), (vQ sb)] :: tr sb x.a A :: tr sb y.a (Tr.lf : Tr K) :: F) := (H66_)
  have H71_ := H70_
  rw [upC_cons] at H71_
  have hraC3 := fun z => ra_upT (O := O) (some v1) (⟨false, y, D⟩ : Fr K) C2 z
  have hpaC3 := pa_upT (O := O) sb C2 (some v1) (⟨false, y, D⟩ : Fr K)
  have hvv2 := VOk.u (O := O) (R := R) (h := (some v1)) (f := (⟨false, y, D⟩ : Fr K)) (VOk.so_ hvv1) hy_ hD_
  have hCO3 := COk.upT (O := O) (R := R) (h := (some v1)) (f := (⟨false, y, D⟩ : Fr K)) (C := C2) hCO2 (VOk.so_ hvv1) hy_ hD_
  obtain ⟨v2, hv2e⟩ : ∃ z, z = upV O (some v1) (⟨false, y, D⟩ : Fr K) := ⟨_, rfl⟩
  obtain ⟨C3, hC3e⟩ : ∃ z, z = upT O (some v1) (⟨false, y, D⟩ : Fr K) C2 := ⟨_, rfl⟩
  rw [← hv2e, ← hC3e] at H71_; rw [← hv2e] at hvv2; rw [← hC3e] at hCO3 hraC3 hpaC3
  have H72_ := H71_
  have H73_ := ((Holds.bring H72_ 2 rfl) :)
  have H74_ := Holds.cx_cons H73_
  have H75_ := H74_
  refine wpList_nil ?_
  refine R_0 rfl ?_
  have H76_ : Holds w65_ (tr sb x.a (Tr.lf : Tr K) :: clf y.a 182 [y.b, y.e, y.v, v2.1, (vQ (rt sb D)), (vQ x.a), (vQ (pa sb C3)), (vI .i64 y.c)] :: tr sb y.a D :: cx sb y.a C3 :: ro R :: clf x.a 182 [x.b, x.e, x.v, v1.1, (vQ sb), (vQ (rt sb A)), (vQ y.a), (vI .i64 x.c)] :: clf sb 182 sc :: cl tb 185 [(vQ (ra y.a C2)), (vI .i64 cnt), (vQ sb)] :: tr sb x.a A :: tr sb y.a (Tr.lf : Tr K) :: F) := Holds.lf_tr H75_
  have H77_ := ((Holds.bring (Holds.bring (Holds.bring H76_ 8 rfl) 1 rfl) 6 rfl) :)
  have H78_ := Holds.nd_tr (n := x.setmx v1) (a := (Tr.lf : Tr K)) (b := A) H77_
  have H79_ := ((Holds.bring (Holds.bring H78_ 2 rfl) 2 rfl) :)
  have H80_ := Holds.nd_tr (n := y.setmx v2) (a := D) (b := (Tr.nd (x.setmx v1) (Tr.lf : Tr K) A)) H79_
  have H81_ := H80_; rw [hpaC3, hpaC2, hpaC1, hraC2, hraC1] at H81_; subst hC3e; subst hv2e; subst hC2e; subst hC1e; subst hv1e
  have H82_ := H81_
  have H83_ := Holds.pkF H82_ [2, 3, 0, 0, 0] 1
  exact ⟨_, _, rfl, ⟨rfl, rfl⟩, S69_, H83_⟩
 ·skip
  have H84_ : Holds w (ro R :: cl tb 185 [(vQ (ra x.a C)), (vI .i64 cnt), (vQ sb)] :: tr sb (pa sb C) (Tr.nd x (Tr.nd y D (Tr.nd f3_n f3_l f3_r)) A) :: cx sb x.a C :: clf sb 182 sc :: F) := (H)
  have H85_ := ((Holds.bring H84_ 2 rfl) :)
  have H86_ := Holds.tr_nd H85_
  have H87_ := ((Holds.bring H86_ 1 rfl) :)
  have H88_ := Holds.tr_nd H87_
  have H89_ := ((Holds.bring H88_ 2 rfl) :)
  have H90_ := Holds.tr_nd H89_
  obtain ⟨hx_, hA_, hB_, hy_, hD_⟩ : NOk O R x ∧ TOk O R A ∧ TOk O R (Tr.nd f3_n f3_l f3_r) ∧ NOk O R y ∧ TOk O R D := by obtain ⟨a1, a2, a3⟩ := hT; obtain ⟨b1, b2, b3⟩ := a2; exact ⟨a1, a3, b3, b1, b2⟩
  refine A_start (S := fun w => (Rd f3_n.a [f3_n.b, f3_n.e, f3_n.v, f3_n.mx, (vQ (rt sb f3_l)), (vQ (rt sb f3_r)), (vQ y.a), (vI .i64 f3_n.c)] w ∧ Blk w f3_n.a) ∧ RtRd w (rt sb f3_l) (rmx f3_l) ∧ RtRd w (rt sb f3_r) (rmx f3_r) ∧ (Rd y.a [y.b, y.e, y.v, y.mx, (vQ (rt sb D)), (vQ f3_n.a), (vQ x.a), (vI .i64 y.c)] w ∧ Blk w y.a) ∧ RtRd w (rt sb D) (rmx D) ∧ (Rd x.a [x.b, x.e, x.v, x.mx, (vQ y.a), (vQ (rt sb A)), (vQ (pa sb C)), (vI .i64 x.c)] w ∧ Blk w x.a) ∧ RtRd w (rt sb A) (rmx A) ∧ Rd tb [(vQ (ra x.a C)), (vI .i64 cnt), (vQ sb)] w ∧ Sub R (hp w)) (N := 9) foll rfl rfl ?_
  have H91_ := Holds.drew_ H90_
  have hq92_ := And.intro ((And.intro (Holds.rdf H91_ 0 rfl) (Holds.blk H91_ 0 rfl))) (And.intro (Holds.tr_rd H91_ 1 rfl 10 rfl) (And.intro (Holds.tr_rd H91_ 2 rfl 10 rfl) (And.intro ((And.intro (Holds.rdf H91_ 3 rfl) (Holds.blk H91_ 3 rfl))) (And.intro (Holds.tr_rd H91_ 4 rfl 10 rfl) (And.intro ((And.intro (Holds.rdf H91_ 5 rfl) (Holds.blk H91_ 5 rfl))) (And.intro (Holds.tr_rd H91_ 6 rfl 10 rfl) (And.intro (Holds.rd H91_ 8 rfl) ((Holds.ro_at H91_ 7 rfl)))))))))
  refine A_tk 0 (v := (vQ x.a)) rfl (by kernel_rfl) (fun w hS => x_move rfl) hq92_ ?_
  refine A_tk 1 (v := (vQ x.a)) rfl (by kernel_rfl) (fun w hS => by kernel_rfl) hq92_ ?_
  refine A_tk 2 (v := (vP (some ⟨x.a, 4, none⟩))) rfl (by kernel_rfl) (fun w hS => by kernel_rfl) hq92_ ?_
  refine A_tk 3 (v := (vQ y.a)) rfl (by kernel_rfl) (fun w hS => x_load1 rfl underlying173 rfl (hS.2.2.2.2.2.1.1 4 (vQ y.a) rfl)) hq92_ ?_
  refine A_tk 4 (v := (vQ tb)) rfl (by kernel_rfl) (fun w hS => x_move rfl) hq92_ ?_
  refine A_tk 5 (v := (vQ tb)) rfl (by kernel_rfl) (fun w hS => by kernel_rfl) hq92_ ?_
  refine A_tk 6 (v := (vP (some ⟨tb, 2, none⟩))) rfl (by kernel_rfl) (fun w hS => by kernel_rfl) hq92_ ?_
  refine A_tk 7 (v := (vQ sb)) rfl (by kernel_rfl) (fun w hS => x_load1 rfl underlying173 rfl (hS.2.2.2.2.2.2.2.1 2 (vQ sb) rfl)) hq92_ ?_
  have hpc93_ : y.a ≠ sb := Holds.ne_f H91_ 3 rfl 10 rfl (by decide)
  refine A_ready (i := 8) (rs := []) (by kernel_rfl) ?_
  refine AllR.cons ?_ AllR.nil
  refine A_op (ls' := #[true, true, true, true, true, true, true, true, true]) rfl (by kernel_rfl) (T_val (v := (vB false)) (x_cast (x_eqPN rfl rfl underlying173 z182 (by decide) (Holds.blk H91_ 3 rfl) (Holds.blk H91_ 10 rfl)) (congrArg vB (decide_eq_false hpc93_))) ?_)
  refine ⟨⟨(And.intro (Holds.rdf H91_ 0 rfl) (Holds.blk H91_ 0 rfl)), Holds.tr_rd H91_ 1 rfl 10 rfl, Holds.tr_rd H91_ 2 rfl 10 rfl, (And.intro (Holds.rdf H91_ 3 rfl) (Holds.blk H91_ 3 rfl)), Holds.tr_rd H91_ 4 rfl 10 rfl, (And.intro (Holds.rdf H91_ 5 rfl) (Holds.blk H91_ 5 rfl)), Holds.tr_rd H91_ 6 rfl 10 rfl, Holds.rd H91_ 8 rfl, (Holds.ro_at H91_ 7 rfl)⟩, ?_⟩
  refine A_done (by kernel_rfl) ?_
  refine (X_then (hK2_ _ _ ?_))
  refine C_condF rfl ?_
  refine C_skip (X_then (hK1_ _ _ ?_))
  refine cR fun _ hK94_ => ?_
  refine sm (vQ x.a) ?_
  refine sv (v := (vQ x.a)) (by kernel_rfl) ?_
  refine sv (v := (vP (some ⟨x.a, 4, none⟩))) (by kernel_rfl) ?_
  refine sv (v := (vQ y.a)) (x_load1 rfl underlying173 rfl ((Holds.rdf H91_ 5 rfl) 4 (vQ y.a) rfl)) ?_
  refine sv (v := (vQ y.a)) (x_assign rfl) ?_
  refine wn (hK94_ _ _ ?_)
  refine cR fun _ hK95_ => ?_
  refine sm (vQ x.a) ?_
  refine sm (vQ y.a) ?_
  refine sv (v := (vQ y.a)) (by kernel_rfl) ?_
  refine sv (v := (vP (some ⟨y.a, 5, none⟩))) (by kernel_rfl) ?_
  refine sv (v := (vQ f3_n.a)) (x_load1 rfl underlying173 rfl ((Holds.rdf H91_ 3 rfl) 5 (vQ f3_n.a) rfl)) ?_
  refine sv (v := (vQ x.a)) (by kernel_rfl) ?_
  refine sv (v := (vP (some ⟨x.a, 4, none⟩))) (by kernel_rfl) ?_
  refine S_list0 (T_store1f (v := (vQ f3_n.a)) rfl rfl z173 rfl H91_ 5 rfl (Nat.le_of_ble_eq_true (by rfl)) ?_)
  intro w96_ S98_ H97_
  have S99_ := Same.trans (Same.trans (Same.refl w) (Same.drew _)) S98_
  refine wn (hK95_ _ _ ?_)
  refine C_seq (fun _ hK100_ => ?_)
  refine C_seq (fun _ hK101_ => ?_)
  refine A_start (S := fun w => (Rd f3_n.a [f3_n.b, f3_n.e, f3_n.v, f3_n.mx, (vQ (rt sb f3_l)), (vQ (rt sb f3_r)), (vQ y.a), (vI .i64 f3_n.c)] w ∧ Blk w f3_n.a) ∧ RtRd w (rt sb f3_l) (rmx f3_l) ∧ RtRd w (rt sb f3_r) (rmx f3_r) ∧ (Rd y.a [y.b, y.e, y.v, y.mx, (vQ (rt sb D)), (vQ f3_n.a), (vQ x.a), (vI .i64 y.c)] w ∧ Blk w y.a) ∧ RtRd w (rt sb D) (rmx D) ∧ (Rd x.a [x.b, x.e, x.v, x.mx, (vQ f3_n.a), (vQ (rt sb A)), (vQ (pa sb C)), (vI .i64 x.c)] w ∧ Blk w x.a) ∧ RtRd w (rt sb A) (rmx A) ∧ Rd tb [(vQ (ra x.a C)), (vI .i64 cnt), (vQ sb)] w ∧ Sub R (hp w)) (N := 9) foll rfl rfl ?_
  have H102_ := Holds.drew_ H97_
  have hq103_ := And.intro ((And.intro (Holds.rdf H102_ 0 rfl) (Holds.blk H102_ 0 rfl))) (And.intro (Holds.tr_rd H102_ 1 rfl 10 rfl) (And.intro (Holds.tr_rd H102_ 2 rfl 10 rfl) (And.intro ((And.intro (Holds.rdf H102_ 3 rfl) (Holds.blk H102_ 3 rfl))) (And.intro (Holds.tr_rd H102_ 4 rfl 10 rfl) (And.intro ((And.intro (Holds.rdf H102_ 5 rfl) (Holds.blk H102_ 5 rfl))) (And.intro (Holds.tr_rd H102_ 6 rfl 10 rfl) (And.intro (Holds.rd H102_ 8 rfl) ((Holds.ro_at H102_ 7 rfl)))))))))
  refine A_tk 0 (v := (vQ y.a)) rfl (by kernel_rfl) (fun w hS => x_move rfl) hq103_ ?_
  refine A_tk 1 (v := (vQ y.a)) rfl (by kernel_rfl) (fun w hS => by kernel_rfl) hq103_ ?_
  refine A_tk 2 (v := (vP (some ⟨y.a, 5, none⟩))) rfl (by kernel_rfl) (fun w hS => by kernel_rfl) hq103_ ?_
  refine A_tk 3 (v := (vQ f3_n.a)) rfl (by kernel_rfl) (fun w hS => x_load1 rfl underlying173 rfl (hS.2.2.2.1.1 5 (vQ f3_n.a) rfl)) hq103_ ?_
  refine A_tk 4 (v := (vQ tb)) rfl (by kernel_rfl) (fun w hS => x_move rfl) hq103_ ?_
  refine A_tk 5 (v := (vQ tb)) rfl (by kernel_rfl) (fun w hS => by kernel_rfl) hq103_ ?_
  refine A_tk 6 (v := (vP (some ⟨tb, 2, none⟩))) rfl (by kernel_rfl) (fun w hS => by kernel_rfl) hq103_ ?_
  refine A_tk 7 (v := (vQ sb)) rfl (by kernel_rfl) (fun w hS => x_load1 rfl underlying173 rfl (hS.2.2.2.2.2.2.2.1 2 (vQ sb) rfl)) hq103_ ?_
  have hpc104_ : f3_n.a ≠ sb := Holds.ne_f H102_ 0 rfl 10 rfl (by decide)
  refine A_ready (i := 8) (rs := []) (by kernel_rfl) ?_
  refine AllR.cons ?_ AllR.nil
  refine A_op (ls' := #[true, true, true, true, true, true, true, true, true]) rfl (by kernel_rfl) (T_val (v := (vB true)) (x_cast (x_nePN rfl rfl underlying173 z182 (by decide) (Holds.blk H102_ 0 rfl) (Holds.blk H102_ 10 rfl)) (congrArg vB (decide_eq_true hpc104_))) ?_)
  refine ⟨⟨(And.intro (Holds.rdf H102_ 0 rfl) (Holds.blk H102_ 0 rfl)), Holds.tr_rd H102_ 1 rfl 10 rfl, Holds.tr_rd H102_ 2 rfl 10 rfl, (And.intro (Holds.rdf H102_ 3 rfl) (Holds.blk H102_ 3 rfl)), Holds.tr_rd H102_ 4 rfl 10 rfl, (And.intro (Holds.rdf H102_ 5 rfl) (Holds.blk H102_ 5 rfl)), Holds.tr_rd H102_ 6 rfl 10 rfl, Holds.rd H102_ 8 rfl, (Holds.ro_at H102_ 7 rfl)⟩, ?_⟩
  refine A_done (by kernel_rfl) ?_
  refine (X_then (hK101_ _ _ ?_))
  refine C_condT rfl ?_
  refine C_reg ?_
  refine sm (vQ y.a) ?_
  refine sv (v := (vQ y.a)) (by kernel_rfl) ?_
  refine sv (v := (vP (some ⟨y.a, 5, none⟩))) (by kernel_rfl) ?_
  refine sv (v := (vQ f3_n.a)) (x_load1 rfl underlying173 rfl ((Holds.rdf H102_ 3 rfl) 5 (vQ f3_n.a) rfl)) ?_
  refine sm (vQ x.a) ?_
  refine sv (v := (vQ f3_n.a)) (by kernel_rfl) ?_
  refine sv (v := (vP (some ⟨f3_n.a, 6, none⟩))) (by kernel_rfl) ?_
  refine S_list0 (T_store1f (v := (vQ x.a)) rfl rfl z173 rfl H102_ 0 rfl (Nat.le_of_ble_eq_true (by rfl)) ?_)
  intro w105_ S107_ H106_
  have S108_ := Same.trans (Same.trans S99_ (Same.drew _)) S107_
  refine wn (hK100_ _ _ ?_)
  refine cR fun _ hK109_ => ?_
  refine sm (vQ x.a) ?_
  refine sm (vQ tb) ?_
  refine sv (v := (vQ tb)) (by kernel_rfl) ?_
  refine sv (v := (vP (some ⟨tb, 2, none⟩))) (by kernel_rfl) ?_
  refine sv (v := (vQ sb)) (x_load1 rfl underlying173 rfl ((Holds.rd H106_ 8 rfl) 2 (vQ sb) rfl)) ?_
  have H110_ := ((Holds.bring (Holds.bring (Holds.bring H106_ 9 rfl) 7 rfl) 7 rfl) :)
  have H111_ := Holds.cons_cx (f := (⟨true, x, A⟩ : Fr K)) (x := f3_n.a) H110_
  have H112_ := H111_
  have H113_ := H112_
  have H115_ := ((Holds.bring (Holds.bring (Holds.bring (Holds.bring H113_ 8 rfl) 1 rfl) 2 rfl) 7 rfl) :)
  refine S_list (T_call (al := [(vP (some ⟨(pa sb ((⟨true, x, A⟩ : Fr K) :: C)), 0, none⟩)), (vQ sb)]) (pre := [hol (some (f3_n, (rt sb f3_l), (rt sb f3_r), x.a)), cx sb (ha sb (some (f3_n, (rt sb f3_l), (rt sb f3_r), x.a))) ((⟨true, x, A⟩ : Fr K) :: C), clf sb 182 sc]) rfl (lcons ((by first | rfl | omega | (simp; done) | (simp; omega)) : (vQ x.a) = (vP (some ⟨(pa sb ((⟨true, x, A⟩ : Fr K) :: C)), 0, none⟩))) rfl) cb152 (itUpMax R K O sb sc (some (f3_n, (rt sb f3_l), (rt sb f3_r), x.a)) ((⟨true, x, A⟩ : Fr K) :: C) (COk.cons hx_ hA_ hC) (TOk.mx hB_)) H115_ ?_)
  rintro v114_ p119_ w116_ ⟨rfl, rfl⟩ S118_ H117_
  have S120_ := Same.trans S108_ S118_
  have H121_ : Holds w116_ (ro R :: hol (some (f3_n, (rt sb f3_l), (rt sb f3_r), x.a)) :: cx sb f3_n.a (upC O (rmx (Tr.nd f3_n f3_l f3_r)) ((⟨true, x, A⟩ : Fr K) :: C)) :: clf sb 182 sc :: tr sb f3_n.a f3_l :: tr sb f3_n.a f3_r :: clf y.a 182 [y.b, y.e, y.v, y.mx, (vQ (rt sb D)), (vQ f3_n.a), (vQ x.a), (vI .i64 y.c)] :: tr sb y.a D :: cl tb 185 [(vQ (ra x.a C)), (vI .i64 cnt), (vQ sb)] :: F) := (H117_)
  have H122_ := H121_
  rw [upC_cons] at H122_
  have hraC1 := fun z => ra_upT (O := O) (rmx (Tr.nd f3_n f3_l f3_r)) (⟨true, x, A⟩ : Fr K) C z
  have hpaC1 := pa_upT (O := O) sb C (rmx (Tr.nd f3_n f3_l f3_r)) (⟨true, x, A⟩ : Fr K)
  have hvv1 := VOk.u (O := O) (R := R) (h := (rmx (Tr.nd f3_n f3_l f3_r))) (f := (⟨true, x, A⟩ : Fr K)) (TOk.mx hB_) hx_ hA_
  have hCO1 := COk.upT (O := O) (R := R) (h := (rmx (Tr.nd f3_n f3_l f3_r))) (f := (⟨true, x, A⟩ : Fr K)) (C := C) hC (TOk.mx hB_) hx_ hA_
  obtain ⟨v1, hv1e⟩ : ∃ z, z = upV O (rmx (Tr.nd f3_n f3_l f3_r)) (⟨true, x, A⟩ : Fr K) := ⟨_, rfl⟩
  obtain ⟨C1, hC1e⟩ : ∃ z, z = upT O (rmx (Tr.nd f3_n f3_l f3_r)) (⟨true, x, A⟩ : Fr K) C := ⟨_, rfl⟩
  rw [← hv1e, ← hC1e] at H122_; rw [← hv1e] at hvv1; rw [← hC1e] at hCO1 hraC1 hpaC1
  have H123_ := H122_
  have H124_ := ((Holds.bring H123_ 2 rfl) :)
  have H125_ := Holds.cx_cons H124_
  have H126_ : Holds w116_ (clf x.a 182 [x.b, x.e, x.v, v1.1, (vQ f3_n.a), (vQ (rt sb A)), (vQ (pa sb C1)), (vI .i64 x.c)] :: tr sb x.a A :: cx sb x.a C1 :: ro R :: clf f3_n.a 182 [f3_n.b, f3_n.e, f3_n.v, f3_n.mx, (vQ (rt sb f3_l)), (vQ (rt sb f3_r)), (vQ x.a), (vI .i64 f3_n.c)] :: clf sb 182 sc :: tr sb f3_n.a f3_l :: tr sb f3_n.a f3_r :: clf y.a 182 [y.b, y.e, y.v, y.mx, (vQ (rt sb D)), (vQ f3_n.a), (vQ x.a), (vI .i64 y.c)] :: tr sb y.a D :: cl tb 185 [(vQ (ra x.a C)), (vI .i64 cnt), (vQ sb)] :: F) := (H125_)
  have H127_ := H126_; rw [show ra x.a C = ra x.a C1 from (hraC1 _).symm] at H127_
  have H128_ := H127_
  refine wn (hK109_ _ _ ?_)
  refine cR fun _ hK129_ => ?_
  refine sm (vQ tb) ?_
  refine sm (vQ x.a) ?_
  refine sm (vQ y.a) ?_
  have H130_ := H128_
  have H132_ := ((Holds.bring (Holds.bring (Holds.bring (Holds.bring (Holds.bring (Holds.bring H130_ 5 rfl) 3 rfl) 8 rfl) 3 rfl) 10 rfl) 6 rfl) :)
  refine S_list (T_call (al := [(vQ tb), (vQ ((x.setmx v1).a)), (vQ y.a)]) (pre := [cl tb 185 [(vQ (ra (x.setmx v1).a C1)), (vI .i64 cnt), (vQ sb)], clf ((x.setmx v1).a) 182 [((x.setmx v1).b), ((x.setmx v1).e), ((x.setmx v1).v), ((x.setmx v1).mx), (vQ f3_n.a), (vQ (rt sb A)), (vQ (pa sb C1)), (vI .i64 ((x.setmx v1).c))], clf y.a 182 [y.b, y.e, y.v, y.mx, (vQ (rt sb D)), (vQ f3_n.a), (vQ x.a), (vI .i64 y.c)], cx sb ((x.setmx v1).a) C1, clf sb 182 sc]) rfl (lcons rfl (lcons ((by first | rfl | omega | (simp; done) | (simp; omega)) : (vQ x.a) = (vQ ((x.setmx v1).a))) rfl)) cb177 (itRepl R K O tb sb cnt sc (x.setmx v1) y f3_n.a (rt sb A) (rt sb D) f3_n.a x.a C1 (hCO1) (hy_)) H132_ ?_)
  rintro v131_ p136_ w133_ ⟨rfl, rfl⟩ S135_ H134_
  have S137_ := Same.trans S120_ S135_
  have H138_ : Holds w133_ (ro R :: cl tb 185 [(vQ (ra y.a C1)), (vI .i64 cnt), (vQ sb)] :: clf x.a 182 [x.b, x.e, x.v, v1.1, (vQ f3_n.a), (vQ (rt sb A)), (vQ y.a), (vI .i64 x.c)] :: clf y.a 182 [y.b, y.e, y.v, y.mx, (vQ (rt sb D)), (vQ f3_n.a), (vQ (pa sb C1)), (vI .i64 y.c)] :: cx sb y.a (upC O (some (y.mx, y.km)) C1) :: clf sb 182 sc :: tr sb x.a A :: clf f3_n.a 182 [f3_n.b, f3_n.e, f3_n.v, f3_n.mx, (vQ (rt sb f3_l)), (vQ (rt sb f3_r)), (vQ x.a), (vI .i64 f3_n.c)] :: tr sb f3_n.a f3_l :: tr sb f3_n.a f3_r :: tr sb y.a D :: F) := (H134_)
  have hraC2 := fun z => ra_upC O C1 z (some (y.mx, y.km))
  have hpaC2 := pa_upC (O := O) sb C1 (some (y.mx, y.km))
  have hCO2 := COk.up (O := O) (R := R) (h := some (y.mx, y.km)) hCO1 (fun z hz => by cases hz; exact hy_.m)
  obtain ⟨C2, hC2e⟩ : ∃ z, z = upC O (some (y.mx, y.km)) C1 := ⟨_, rfl⟩
  have H139_ := H138_; rw [← hC2e] at H139_; rw [← hC2e] at hraC2 hpaC2 hCO2; rw [← hpaC2] at H139_; rw [← hraC2] at H139_
  have H140_ := H139_
  refine wn (hK129_ _ _ ?_)
  refine cR fun _ hK141_ => ?_
  refine sm (vQ y.a) ?_
  refine sm (vQ x.a) ?_
  refine sv (v := (vQ y.a)) (by kernel_rfl) ?_
  refine sv (v := (vP (some ⟨y.a, 5, none⟩))) (by kernel_rfl) ?_
  refine S_list0 (T_store1f (v := (vQ x.a)) rfl rfl z173 rfl H140_ 3 rfl (Nat.le_of_ble_eq_true (by rfl)) ?_)
  intro w142_ S144_ H143_
  have S145_ := Same.trans S137_ S144_
  refine wn (hK141_ _ _ ?_)
  refine C_reg ?_
  refine sm (vQ y.a) ?_
  refine sm (vQ tb) ?_
  refine sv (v := (vQ tb)) (by kernel_rfl) ?_
  refine sv (v := (vP (some ⟨tb, 2, none⟩))) (by kernel_rfl) ?_
  refine sv (v := (vQ sb)) (x_load1 rfl underlying173 rfl ((Holds.rd H143_ 1 rfl) 2 (vQ sb) rfl)) ?_
  have H146_ := ((Holds.bring (Holds.bring (Holds.bring H143_ 4 rfl) 10 rfl) 5 rfl) :)
  have H147_ := Holds.cons_cx (f := (⟨false, y, D⟩ : Fr K)) (x := x.a) H146_
  have H148_ := H147_
  have H150_ := ((Holds.bring (Holds.bring (Holds.bring (Holds.bring H148_ 4 rfl) 1 rfl) 4 rfl) 3 rfl) :)
  refine S_list (T_call (al := [(vP (some ⟨(pa sb ((⟨false, y, D⟩ : Fr K) :: C2)), 0, none⟩)), (vQ sb)]) (pre := [hol (some (x.setmx v1, f3_n.a, (rt sb A), y.a)), cx sb (ha sb (some (x.setmx v1, f3_n.a, (rt sb A), y.a))) ((⟨false, y, D⟩ : Fr K) :: C2), clf sb 182 sc]) rfl (lcons ((by first | rfl | omega | (simp; done) | (simp; omega)) : (vQ y.a) = (vP (some ⟨(pa sb ((⟨false, y, D⟩ : Fr K) :: C2)), 0, none⟩))) rfl) cb152 (itUpMax R K O sb sc (some (x.setmx v1, f3_n.a, (rt sb A), y.a)) ((⟨false, y, D⟩ : Fr K) :: C2) (COk.cons hy_ hD_ hCO2) (fun z hz => by cases hz; exact hvv1)) H150_ ?_)
  rintro v149_ p154_ w151_ ⟨rfl, rfl⟩ S153_ H152_
  have S155_ := Same.trans S145_ S153_
  have H156_ : Holds w151_ (ro R :: hol (some (x.setmx v1, f3_n.a, (rt sb A), y.a)) :: cx sb x.a (upC O (some v1) ((⟨false, y, D⟩ : Fr K) :: C2)) :: clf sb 182 sc :: cl tb 185 [(vQ (ra y.a C2)), (vI .i64 cnt), (vQ sb)] :: tr sb x.a A :: clf f3_n.a 182 [f3_n.b, f3_n.e, f3_n.v, f3_n.mx, (vQ (rt sb f3_l)), (vQ (rt sb f3_r)), (vQ x.a), (vI .i64 f3_n.c)] :: tr sb f3_n.a f3_l :: tr sb f3_n.a f3_r :: F) := (H152_)
  have H157_ := H156_
  rw [upC_cons] at H157_
  have hraC3 := fun z => ra_upT (O := O) (some v1) (⟨false, y, D⟩ : Fr K) C2 z
  have hpaC3 := pa_upT (O := O) sb C2 (some v1) (⟨false, y, D⟩ : Fr K)
  have hvv2 := VOk.u (O := O) (R := R) (h := (some v1)) (f := (⟨false, y, D⟩ : Fr K)) (VOk.so_ hvv1) hy_ hD_
  have hCO3 := COk.upT (O := O) (R := R) (h := (some v1)) (f := (⟨false, y, D⟩ : Fr K)) (C := C2) hCO2 (VOk.so_ hvv1) hy_ hD_
  obtain ⟨v2, hv2e⟩ : ∃ z, z = upV O (some v1) (⟨false, y, D⟩ : Fr K) := ⟨_, rfl⟩
  obtain ⟨C3, hC3e⟩ : ∃ z, z = upT O (some v1) (⟨false, y, D⟩ : Fr K) C2 := ⟨_, rfl⟩
  rw [← hv2e, ← hC3e] at H157_; rw [← hv2e] at hvv2; rw [← hC3e] at hCO3 hraC3 hpaC3
  have H158_ := H157_
  have H159_ := ((Holds.bring H158_ 2 rfl) :)
  have H160_ := Holds.cx_cons H159_
  have H161_ := H160_
  refine wpList_nil ?_
  refine R_0 rfl ?_
  have H162_ := ((Holds.bring (Holds.bring (Holds.bring H161_ 10 rfl) 10 rfl) 10 rfl) :)
  have H163_ := Holds.nd_tr (n := f3_n) H162_
  have H164_ := ((Holds.bring (Holds.bring (Holds.bring H163_ 8 rfl) 1 rfl) 6 rfl) :)
  have H165_ := Holds.nd_tr (n := x.setmx v1) (a := (Tr.nd f3_n f3_l f3_r)) (b := A) H164_
  have H166_ := ((Holds.bring (Holds.bring H165_ 2 rfl) 2 rfl) :)
  have H167_ := Holds.nd_tr (n := y.setmx v2) (a := D) (b := (Tr.nd (x.setmx v1) (Tr.nd f3_n f3_l f3_r) A)) H166_
  have H168_ := H167_; rw [hpaC3, hpaC2, hpaC1, hraC2, hraC1] at H168_; subst hC3e; subst hv2e; subst hC2e; subst hC1e; subst hv1e
  have H169_ := H168_
  have H170_ := Holds.pkF H169_ [2, 3, 0, 0, 0] 0
  exact ⟨_, _, rfl, ⟨rfl, rfl⟩, S155_, H170_⟩
end Go.Proofs.YtlnihndjepjagaaGreat
set_option linter.unusedVariables false
set_option linter.unusedSimpArgs false
namespace Go.Proofs.YtlnihndjepjagaaGreat
open Go Go.RowKit Gw Tryz
open Go.Value renaming int → vI, bool → vB, slice → vS, pointer → vP, agg → vA, tuple → vT

section
variable {K : Type}
def ND.er (n : ND K) : ND K := { n with mx := n.b, km := n.kb, c := 0 }
def ND.setc (n : ND K) (c : Int) : ND K := { n with c := c }
def ino : Tr K → List (ND K) | .lf => [] | .nd n a b => ino a ++ n.er :: ino b
def inl : List (Fr K) → List (ND K) | [] => [] | f :: C => if f.d then inl C else inl C ++ ino f.o ++ [f.n.er]
def inr : List (Fr K) → List (ND K) | [] => [] | f :: C => if f.d then f.n.er :: (ino f.o ++ inr C) else inr C
theorem ino_fill (f : Fr K) (t : Tr K) : ino (f.fill t) = if f.d then ino t ++ f.n.er :: ino f.o else ino f.o ++ f.n.er :: ino t := by
  obtain ⟨d, n, o⟩ := f
  cases d <;> rfl
theorem ino_plug : ∀ (C : List (Fr K)) (t : Tr K), ino (plug C t) = inl C ++ ino t ++ inr C
  | [], t => by simp [plug, inl, inr]
  | f :: C, t => by
    rw [plug, ino_plug C, ino_fill, inl, inr]
    split <;> simp
theorem er_setmx (n : ND K) (m : Value × K) : (n.setmx m).er = n.er := rfl
theorem rt_plug (sb : Nat) : ∀ (C : List (Fr K)) (n : ND K) (a b : Tr K), rt sb (plug C (.nd n a b)) = ra n.a C
  | [], n, a, b => rfl
  | ⟨d, m, o⟩ :: C, n, a, b => by
    rw [plug, ra]
    cases d <;> exact rt_plug sb C m _ _
variable (O : KO K)
theorem in_upC : ∀ (C : List (Fr K)) (h : Option (Value × K)), inl (upC O h C) = inl C ∧ inr (upC O h C) = inr C
  | [], h => by rw [upC_nil]; exact ⟨rfl, rfl⟩
  | f :: C, h => by
    rw [upC_cons]
    have ih : inl (upT O h f C) = inl C ∧ inr (upT O h f C) = inr C := by
      unfold upT
      split
      · exact ⟨rfl, rfl⟩
      · exact in_upC C _
    have e1 : (f.setmx (upV O h f)).n.er = f.n.er := rfl
    have e2 : (f.setmx (upV O h f)).d = f.d := rfl
    have e3 : (f.setmx (upV O h f)).o = f.o := rfl
    refine ⟨?_, ?_⟩
    · rw [inl, inl, ih.1, e1, e2, e3]
    · rw [inr, inr, ih.2, e1, e2, e3]
theorem in_upT (h : Option (Value × K)) (f : Fr K) (C : List (Fr K)) : inl (upT O h f C) = inl C ∧ inr (upT O h f C) = inr C := by
  unfold upT
  split
  · exact ⟨rfl, rfl⟩
  · exact in_upC O C _
def rOr (d : Bool) (x y : ND K) (A B D : Tr K) : Tr K := (⟨!d, x, A⟩ : Fr K).fill ((⟨d, y, D⟩ : Fr K).fill B)
theorem in_rC3 (d : Bool) (x y : ND K) (A B D : Tr K) (C : List (Fr K)) : inl (rC3 O d x y A B D C) = inl C ∧ inr (rC3 O d x y A B D C) = inr C := by
  have h1 := in_upT O (rmx B) ⟨!d, x, A⟩ C
  have h2 := in_upC O (rC1 O d x A B C) (some (y.mx, y.km))
  have h3 := in_upT O (some (rV1 O d x A B)) ⟨d, y, D⟩ (rC2 O d x y A B C)
  exact ⟨h3.1.trans (h2.1.trans h1.1), h3.2.trans (h2.2.trans h1.2)⟩
theorem ino_rTr (d : Bool) (x y : ND K) (A B D : Tr K) : ino (rTr O d x y A B D) = ino (rOr d x y A B D) := by
  cases d <;> simp [rTr, rTx, rOr, ino_fill, er_setmx]
/-! ### Each greatest end is right -/
def LocT : Tr K → Prop | .lf => True | .nd n a b => O.cm n.km (pick O (pick O (n.e, n.ke) (rmx a)) (rmx b)).2 = 0 ∧ LocT a ∧ LocT b
def LocC : Option (Value × K) → List (Fr K) → Prop | _, [] => True | h, f :: C => O.cm f.n.km (fmx O h f).2 = 0 ∧ LocT O f.o ∧ LocC (some (f.n.mx, f.n.km)) C
def LocS : List (Fr K) → Prop | [] => True | f :: C => LocT O f.o ∧ LocC O (some (f.n.mx, f.n.km)) C
variable {O}
theorem LocC.s {h : Option (Value × K)} {C : List (Fr K)} (hc : LocC O h C) : LocS O C := by
  cases C with
  | nil => trivial
  | cons f C => exact hc.2
theorem LocC.up : ∀ {C : List (Fr K)} {h : Option (Value × K)}, LocS O C → LocC O h (upC O h C)
  | [], h, _ => by rw [upC_nil]; trivial
  | f :: C, h, hs => by
    by_cases hc : O.cm f.n.km (fmx O h f).2 = 0
    · rw [upC_stop rfl hc]; exact ⟨hc, hs.1, hs.2⟩
    · rw [upC_go rfl hc]
      exact ⟨O.refl _, hs.1, LocC.up (LocC.s hs.2)⟩
theorem LocC.cons {h : Option (Value × K)} {f : Fr K} {C : List (Fr K)} (hs : LocS O (f :: C)) : LocC O h (f.setmx (upV O h f) :: upT O h f C) := by
  rw [← upC_cons]; exact LocC.up hs
theorem loc_fill {h : Option (Value × K)} {f : Fr K} {t : Tr K} (hh : rmx t = h) (h1 : O.cm f.n.km (fmx O h f).2 = 0) (h2 : LocT O f.o) (ht : LocT O t) : LocT O (f.fill t) := by
  subst hh
  obtain ⟨d, n, o⟩ := f
  cases d
  · exact ⟨h1, h2, ht⟩
  · exact ⟨h1, ht, h2⟩
theorem loc_unfill {f : Fr K} {t : Tr K} (h : LocT O (f.fill t)) : O.cm f.n.km (fmx O (rmx t) f).2 = 0 ∧ LocT O f.o ∧ LocT O t := by
  obtain ⟨d, n, o⟩ := f
  cases d
  · exact ⟨h.1, h.2.1, h.2.2⟩
  · exact ⟨h.1, h.2.2, h.2.1⟩
theorem rmx_fill (f : Fr K) (t : Tr K) : rmx (f.fill t) = some (f.n.mx, f.n.km) := by
  obtain ⟨d, n, o⟩ := f
  cases d <;> rfl
theorem loc_rot {d : Bool} {x y : ND K} {A B D : Tr K} {C : List (Fr K)} (hT : LocT O (rOr d x y A B D)) (hC : LocC O (some (x.mx, x.km)) C) :
    LocT O (rTr O d x y A B D) ∧ LocC O (some (rV2 O d x y A B D)) (rC3 O d x y A B D C) := by
  obtain ⟨h1, h2, h3⟩ := loc_unfill hT
  obtain ⟨h4, h5, h6⟩ := loc_unfill h3
  have a1 : LocC O (rmx B) _ := LocC.cons (h := rmx B) (f := ⟨!d, x, A⟩) (C := C) ⟨h2, hC⟩
  have a2 : LocC O (some (y.mx, y.km)) (rC2 O d x y A B C) := LocC.up (LocC.s a1.2.2)
  have a3 : LocC O (some (rV1 O d x A B)) _ := LocC.cons (h := some (rV1 O d x A B)) (f := ⟨d, y, D⟩) (C := rC2 O d x y A B C) ⟨h5, a2⟩
  exact ⟨loc_fill (rmx_fill _ _) a3.1 a3.2.1 (loc_fill rfl a1.1 a1.2.1 h6), a3.2.2⟩
theorem rmx_rTr (d : Bool) (x y : ND K) (A B D : Tr K) : rmx (rTr O d x y A B D) = some (rV2 O d x y A B D) := rmx_fill _ _
theorem loc_unplug : ∀ {C : List (Fr K)} {t : Tr K}, LocT O (plug C t) → LocT O t ∧ LocC O (rmx t) C
  | [], t, h => ⟨h, trivial⟩
  | f :: C, t, h => by
    have ih := loc_unplug (C := C) (t := f.fill t) h
    obtain ⟨h1, h2, h3⟩ := loc_unfill ih.1
    exact ⟨h3, h1, h2, by rw [← rmx_fill f t]; exact ih.2⟩
end

end Go.Proofs.YtlnihndjepjagaaGreat
set_option linter.unusedVariables false
set_option linter.unusedSimpArgs false
namespace Go.Proofs.YtlnihndjepjagaaGreat
open Go Go.RowKit Gw Tryz
open Go.Value renaming int → vI, bool → vB, slice → vS, pointer → vP, agg → vA, tuple → vT

section
variable {K : Type}
def topB : List (Fr K) → Prop | [] => True | f :: C => (C = [] → f.n.c = 0) ∧ topB C
variable (O : KO K)
theorem top_upC : ∀ (C : List (Fr K)) (h : Option (Value × K)), (upC O h C = [] ↔ C = []) ∧ (topB (upC O h C) ↔ topB C)
  | [], h => by rw [upC_nil]; exact ⟨Iff.rfl, Iff.rfl⟩
  | f :: C, h => by
    rw [upC_cons]
    have ih : (upT O h f C = [] ↔ C = []) ∧ (topB (upT O h f C) ↔ topB C) := by
      unfold upT
      split
      · exact ⟨Iff.rfl, Iff.rfl⟩
      · exact top_upC C _
    refine ⟨by simp, ?_⟩
    show ((upT O h f C = [] → f.n.c = 0) ∧ topB (upT O h f C)) ↔ ((C = [] → f.n.c = 0) ∧ topB C)
    rw [ih.1, ih.2]
theorem top_upT (h : Option (Value × K)) (f : Fr K) (C : List (Fr K)) : topB (upT O h f C) ↔ topB C := by
  unfold upT
  split
  · exact Iff.rfl
  · exact (top_upC O C _).2
theorem top_rC3 (d : Bool) (x y : ND K) (A B D : Tr K) (C : List (Fr K)) : topB (rC3 O d x y A B D C) ↔ topB C :=
  (top_upT O _ _ _).trans ((top_upC O _ _).2.trans (top_upT O _ _ _))
theorem rC3_cons (d : Bool) (x y : ND K) (A B D : Tr K) (f : Fr K) (C : List (Fr K)) : ∃ m C', rC3 O d x y A B D (f :: C) = f.setmx m :: C' := by
  have h1 : ∀ (h : Option (Value × K)) (g f : Fr K) (C : List (Fr K)), ∃ m C', upT O h g (f :: C) = f.setmx m :: C' := by
    intro h g f C
    unfold upT
    split
    · exact ⟨(f.n.mx, f.n.km), C, rfl⟩
    · exact ⟨_, _, upC_cons O _ f C⟩
  obtain ⟨m1, C1, e1⟩ := h1 (rmx B) ⟨!d, x, A⟩ f C
  obtain ⟨m3, C3, e3⟩ := h1 (some (rV1 O d x A B)) ⟨d, y, D⟩ ((f.setmx m1).setmx (upV O (some (y.mx, y.km)) (f.setmx m1))) (upT O (some (y.mx, y.km)) (f.setmx m1) C1)
  refine ⟨m3, C3, ?_⟩
  unfold rC3 rC2 rC1
  rw [e1, upC_cons, e3]
  rfl
variable {O} {R : HP}
theorem NOk.setc {n : ND K} (h : NOk O R n) (c : Int) : NOk O R (n.setc c) := ⟨h.b, h.e, h.m, h.v⟩
theorem TOk.fill {f : Fr K} {t : Tr K} (h1 : NOk O R f.n) (h2 : TOk O R f.o) (h3 : TOk O R t) : TOk O R (f.fill t) := by
  obtain ⟨d, n, o⟩ := f
  cases d
  · exact ⟨h1, h2, h3⟩
  · exact ⟨h1, h3, h2⟩
theorem TOk.unfill {f : Fr K} {t : Tr K} (h : TOk O R (f.fill t)) : NOk O R f.n ∧ TOk O R f.o ∧ TOk O R t := by
  obtain ⟨d, n, o⟩ := f
  cases d
  · exact ⟨h.1, h.2.1, h.2.2⟩
  · exact ⟨h.1, h.2.2, h.2.1⟩
theorem rot_ok {d : Bool} {x y : ND K} {A B D : Tr K} {C : List (Fr K)} (hT : TOk O R (rOr d x y A B D)) (hC : COk O R C) : TOk O R (rTr O d x y A B D) ∧ COk O R (rC3 O d x y A B D C) := by
  obtain ⟨h1, h2, h3⟩ := TOk.unfill hT
  obtain ⟨h4, h5, h6⟩ := TOk.unfill h3
  have v1 : O.Val R (rV1 O d x A B).1 (rV1 O d x A B).2 := VOk.u (f := ⟨!d, x, A⟩) h6.mx h1 h2
  have v2 : O.Val R (rV2 O d x y A B D).1 (rV2 O d x y A B D).2 := VOk.u (f := ⟨d, y, D⟩) (VOk.so_ v1) h4 h5
  have c1 : COk O R (rC1 O d x A B C) := COk.upT (f := ⟨!d, x, A⟩) hC h6.mx h1 h2
  have c2 : COk O R (rC2 O d x y A B C) := COk.up c1 (fun z hz => by cases hz; exact h4.m)
  exact ⟨TOk.fill (f := ⟨d, y.setmx _, D⟩) (h4.setmx v2) h5 (TOk.fill (f := ⟨!d, x.setmx _, A⟩) (h1.setmx v1) h2 h6), COk.upT (f := ⟨d, y, D⟩) c2 (VOk.so_ v1) h4 h5⟩
variable (O R) in
structure FxI (L : List (ND K)) (C : List (Fr K)) (t : Tr K) : Prop where
  tk : TOk O R t
  ck : COk O R C
  lt : LocT O t
  lc : LocC O (rmx t) C
  top : topB C
  ino : inl C ++ ino t ++ inr C = L
variable {L : List (ND K)} {C : List (Fr K)} {t : Tr K} {f : Fr K}
theorem FxI.up (h : FxI O R L (f :: C) t) : FxI O R L C (f.fill t) where
  tk := TOk.fill (h.ck f (List.mem_cons_self ..)).1 (h.ck f (List.mem_cons_self ..)).2 h.tk
  ck := fun g hg => h.ck g (List.mem_cons_of_mem _ hg)
  lt := loc_fill rfl h.lc.1 h.lc.2.1 h.lt
  lc := by rw [rmx_fill]; exact h.lc.2.2
  top := h.top.2
  ino := by
    rw [← h.ino, ino_fill, inl, inr]
    split <;> simp
theorem FxI.down (h : FxI O R L C (f.fill t)) (hc : C = [] → f.n.c = 0) : FxI O R L (f :: C) t where
  tk := (TOk.unfill h.tk).2.2
  ck := COk.cons (TOk.unfill h.tk).1 (TOk.unfill h.tk).2.1 h.ck
  lt := (loc_unfill h.lt).2.2
  lc := ⟨(loc_unfill h.lt).1, (loc_unfill h.lt).2.1, by rw [← rmx_fill f t]; exact h.lc⟩
  top := ⟨hc, h.top⟩
  ino := by
    rw [← h.ino, ino_fill, inl, inr]
    split <;> simp
theorem FxI.col {n : ND K} {a b : Tr K} (c : Int) (h : FxI O R L C (.nd n a b)) : FxI O R L C (.nd (n.setc c) a b) where
  tk := ⟨h.tk.1.setc c, h.tk.2⟩
  ck := h.ck
  lt := h.lt
  lc := h.lc
  top := h.top
  ino := h.ino
theorem FxI.colo {n u : ND K} {a b : Tr K} {d : Bool} (c : Int) (h : FxI O R L (⟨d, n, .nd u a b⟩ :: C) t) : FxI O R L (⟨d, n, .nd (u.setc c) a b⟩ :: C) t where
  tk := h.tk
  ck := by
    have h1 := h.ck _ (List.mem_cons_self ..)
    exact COk.cons (f := ⟨d, n, .nd (u.setc c) a b⟩) h1.1 ⟨h1.2.1.setc c, h1.2.2⟩ fun g hg => h.ck g (List.mem_cons_of_mem _ hg)
  lt := h.lt
  lc := h.lc
  top := h.top
  ino := h.ino
theorem FxI.rot {d : Bool} {x y : ND K} {A B D : Tr K} (h : FxI O R L C (rOr d x y A B D)) : FxI O R L (rC3 O d x y A B D C) (rTr O d x y A B D) := by
  have hr : rmx (rOr d x y A B D) = some (x.mx, x.km) := rmx_fill _ _
  have h1 := loc_rot h.lt (by rw [← hr]; exact h.lc)
  have h2 := rot_ok h.tk h.ck
  refine ⟨h2.1, h2.2, h1.1, by rw [rmx_rTr]; exact h1.2, (top_rC3 O d x y A B D C).2 h.top, ?_⟩
  rw [(in_rC3 O d x y A B D C).1, (in_rC3 O d x y A B D C).2, ino_rTr]
  exact h.ino
end

end Go.Proofs.YtlnihndjepjagaaGreat
set_option linter.unusedVariables false
set_option linter.unusedSimpArgs false
namespace Go.Proofs.YtlnihndjepjagaaGreat
open Go Go.RowKit Gw Tryz
open Go.Value renaming int → vI, bool → vB, slice → vS, pointer → vP, agg → vA, tuple → vT

section
variable {K : Type} {O : KO K} {R : HP} {L : List (ND K)}
theorem FxI.plug : ∀ {C : List (Fr K)} {t : Tr K}, FxI O R L C t → FxI O R L [] (Go.Proofs.YtlnihndjepjagaaGreat.plug C t)
  | [], t, h => h
  | f :: C, t, h => FxI.plug (C := C) (t := f.fill t) h.up
theorem plug_nd : ∀ (C : List (Fr K)) (n : ND K) (a b : Tr K), ∃ m u v, plug C (.nd n a b) = .nd m u v
  | [], n, a, b => ⟨n, a, b, rfl⟩
  | ⟨d, m, o⟩ :: C, n, a, b => by
    rw [plug]
    cases d <;> exact plug_nd C m _ _
def blackT : Tr K → Prop | .lf => True | .nd n _ _ => n.c = 0
theorem top_plug : ∀ {C : List (Fr K)} {t : Tr K}, blackT (plug C t) → topB C
  | [], t, _ => trivial
  | f :: C, t, h => by
    refine ⟨fun e => ?_, top_plug (C := C) (t := f.fill t) h⟩
    subst e
    obtain ⟨d, n, o⟩ := f
    cases d <;> exact h
theorem ra_rC3 (d : Bool) (x y : ND K) (A B D : Tr K) (C : List (Fr K)) (z : Nat) : ra z (rC3 O d x y A B D C) = ra z C :=
  (ra_upT _ _ _ _).trans ((ra_upC O _ _ _).trans (ra_upT _ _ _ _))
theorem pa_rC3 (sb : Nat) (d : Bool) (x y : ND K) (A B D : Tr K) (C : List (Fr K)) : pa sb (rC3 O d x y A B D C) = pa sb C :=
  (pa_upT sb _ _ _).trans ((pa_upC sb _ _).trans (pa_upT sb _ _ _))
end
section
variable {K : Type} {O : KO K}
theorem upC_len : ∀ (C : List (Fr K)) (h : Option (Value × K)), (upC O h C).length = C.length
  | [], h => by rw [upC_nil]
  | f :: C, h => by
    rw [upC_cons]
    have : (upT O h f C).length = C.length := by
      unfold upT
      split
      · rfl
      · exact upC_len C _
    simp [this]
theorem upT_len (h : Option (Value × K)) (f : Fr K) (C : List (Fr K)) : (upT O h f C).length = C.length := by
  unfold upT
  split
  · rfl
  · exact upC_len C _
theorem rC3_len (d : Bool) (x y : ND K) (A B D : Tr K) (C : List (Fr K)) : (rC3 O d x y A B D C).length = C.length := by
  unfold rC3 rC2 rC1
  rw [upT_len, upC_len, upT_len]
end

end Go.Proofs.YtlnihndjepjagaaGreat
