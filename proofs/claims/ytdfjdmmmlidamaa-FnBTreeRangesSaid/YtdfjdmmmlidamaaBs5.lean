/- Words, and proved steps, on which the proof leans. -/
import Derived.Test.YtdfjdmmmlidamaaBs4
set_option linter.unusedVariables false
set_option linter.unusedSimpArgs false
namespace Go.Proofs.Ytdfjdmmmlidamaa
open Go Go.RowKit Gw Try
open Go.Value renaming int → vI, bool → vB, slice → vS, pointer → vP, agg → vA, tuple → vT

set_option maxHeartbeats 1600000 in
theorem btL45 (R : HP) (r : TR) (T : Option (Sigma BT)) (ob pb : Nat) (q : BO)  (hT : tOk T) (hn : (tel T).length ≤ 100000) :
    Tri Try.prog 45 #[(vP (some ⟨r.tb, 0, none⟩)), (Value.func (.func 44) #[] #[(vP (some ⟨ob, 0, none⟩)), (vP (some ⟨pb, 0, none⟩))])] R [treeP r T, outP ob pb q ([] : List EL)] (fun v__ post__ => ∃ (O' : List EL), v__ = (vT #[]) ∧ post__ = [treeP r T, outP ob pb q O'] ∧ (O' = (runA (stA false zE) q.most (selA false zE (tel T)) []).1)) := by
 refine Tri.into (n := 17) (al := [(vP (some ⟨r.tb, 0, none⟩)), (Value.func (.func 44) #[] #[(vP (some ⟨ob, 0, none⟩)), (vP (some ⟨pb, 0, none⟩))])]) func45 rfl ntmps45 rfl rfl fun w F H => ?_
 refine C_seq (fun _ hK1_ => ?_)
 refine cR fun _ hK2_ => ?_
 rcases T with _ | ⟨z, t⟩
 ·skip
  have H3_ : Holds w (ro R :: treeP r none :: outP ob pb q ([] : List EL) :: F) := H
  have H4_ := ((Holds.bring H3_ 1 rfl) :)
  have H5_ := Holds.t0_out H4_
  refine sm (vP (some ⟨r.tb, 0, none⟩)) ?_
  refine sv (v := (vP (some ⟨r.tb, 0, none⟩))) (by kernel_rfl) ?_
  refine sv (v := (vP (some ⟨r.tb, 2, none⟩))) (by kernel_rfl) ?_
  refine sv (v := (vP none)) (x_load1 rfl underlying59 rfl ((Holds.rd H5_ 0 rfl) 2 (vP none) rfl)) ?_
  refine sv (v := (vB true)) (by kernel_rfl) ?_
  refine wn (hK2_ _ _ ?_)
  refine C_condT rfl ?_
  refine C_ret (X_thenR ?_)
  refine R_0r rfl ?_
  have H6_ := Holds.t0_in H5_
  have H7_ := Holds.pkF H6_ [1, 0, 0] 0
  exact ⟨_, _, rfl, ⟨([] : List EL), rfl, rfl, (rfl)⟩, (Same.refl w), H7_⟩
 ·skip
  have H8_ : Holds w (ro R :: treeP r (some ⟨z, t⟩) :: outP ob pb q ([] : List EL) :: F) := H
  have H9_ := ((Holds.bring H8_ 1 rfl) :)
  have H10_ := Holds.t1_out H9_
  refine sm (vP (some ⟨r.tb, 0, none⟩)) ?_
  refine sv (v := (vP (some ⟨r.tb, 0, none⟩))) (by kernel_rfl) ?_
  refine sv (v := (vP (some ⟨r.tb, 2, none⟩))) (by kernel_rfl) ?_
  refine sv (v := (vP (some ⟨t.a, 0, none⟩))) (x_load1 rfl underlying59 rfl ((Holds.rd H10_ 0 rfl) 2 (vP (some ⟨t.a, 0, none⟩)) rfl)) ?_
  refine sv (v := (vB false)) (by kernel_rfl) ?_
  refine wn (hK2_ _ _ ?_)
  refine C_condF rfl ?_
  refine C_skip (X_then (hK1_ _ _ ?_))
  refine A_start (S := fun w => Rd r.tb [(vI .i64 (r.d : Int)), (vI .i64 (List.length t.el : Int)), (vP (some ⟨t.a, 0, none⟩)), (vP (some ⟨r.c, 0, none⟩))] w ∧ Rd r.c [(vP (some ⟨r.fl, 0, none⟩)), (Value.func (.func 16) #[] #[])] w ∧ Rd r.fl [(vS r.fa 0 r.fc)] w ∧ Sub R (hp w)) (N := 8) foll rfl rfl ?_
  have H11_ := Holds.drew_ H10_
  have hq12_ := And.intro (Holds.rd H11_ 0 rfl) (And.intro (Holds.rd H11_ 1 rfl) (And.intro (Holds.rd H11_ 2 rfl) ((Holds.ro_at H11_ 4 rfl))))
  refine A_tk 0 (v := (vP (some ⟨r.tb, 0, none⟩))) rfl (by kernel_rfl) (fun w hS => x_move rfl) hq12_ ?_
  refine A_tk 1 (v := (vP (some ⟨r.tb, 0, none⟩))) rfl (by kernel_rfl) (fun w hS => by kernel_rfl) hq12_ ?_
  refine A_tk 2 (v := (vP (some ⟨r.tb, 2, none⟩))) rfl (by kernel_rfl) (fun w hS => by kernel_rfl) hq12_ ?_
  refine A_tk 3 (v := (vP (some ⟨t.a, 0, none⟩))) rfl (by kernel_rfl) (fun w hS => x_load1 rfl underlying59 rfl (hS.1 2 (vP (some ⟨t.a, 0, none⟩)) rfl)) hq12_ ?_
  refine A_tk 6 (v := (Value.func (.func 44) #[] #[(vP (some ⟨ob, 0, none⟩)), (vP (some ⟨pb, 0, none⟩))])) rfl (by kernel_rfl) (fun w hS => x_move rfl) hq12_ ?_
  refine A_ready (i := 4) (rs := []) (by kernel_rfl) ?_
  refine AllR.cons ?_ AllR.nil
  refine A_op (ls' := #[true, true, true, true, true, false, true, false]) rfl (by kernel_rfl) (T_callW (al := []) rfl rfl cb64 (Calls.into (n := 2) func64 rfl ntmps64 rfl rfl ?_))
  refine cR fun _ hK13_ => ?_
  refine S_list (T_alloc z105 H11_ ?_)
  intro b14_ w15_ S17_ H16_
  have S18_ := Same.trans (Same.trans (Same.refl w) (Same.drew _)) S17_
  refine wn (hK13_ _ _ ?_)
  refine cR fun _ hK19_ => ?_
  refine sv (v := (vA #[(vI .i64 0), (vI .i64 0), (vB false)])) (by kernel_rfl) ?_
  refine S_list0 (T_storeN (vs := [(vI .i64 0), (vI .i64 0), (vB false)]) rfl rfl z105 rfl (by simp [Value.oneCell']) H16_ 0 rfl (Nat.le_of_ble_eq_true (by rfl)) ?_)
  intro w20_ S22_ H21_
  have S23_ := Same.trans S18_ S22_
  refine wn (hK19_ _ _ ?_)
  refine C_ret ?_
  refine R_any (v := (vA #[(vI .i64 0), (vI .i64 0), (vB false)])) (run_results1 rfl ⟨_, rfl, load_resN underlying105 rfl z105 rfl (vs := [(vI .i64 0), (vI .i64 0), (vB false)]) (Holds.cl_cells H21_ 0 rfl 0 rfl)⟩) ⟨_, rfl, ?_⟩
  refine ⟨⟨Holds.rd H21_ 1 rfl, Holds.rd H21_ 2 rfl, Holds.rd H21_ 3 rfl, (Holds.ro_at H21_ 5 rfl)⟩, ?_⟩
  refine A_ready (i := 5) (rs := []) (by kernel_rfl) ?_
  refine AllR.cons ?_ AllR.nil
  refine A_op (ls' := #[true, true, true, true, true, true, true, false]) rfl (by kernel_rfl) (T_callW (al := []) rfl rfl cb64 (Calls.into (n := 2) func64 rfl ntmps64 rfl rfl ?_))
  refine cR fun _ hK24_ => ?_
  refine S_list (T_alloc z105 H21_ ?_)
  intro b25_ w26_ S28_ H27_
  have S29_ := Same.trans S23_ S28_
  refine wn (hK24_ _ _ ?_)
  refine cR fun _ hK30_ => ?_
  refine sv (v := (vA #[(vI .i64 0), (vI .i64 0), (vB false)])) (by kernel_rfl) ?_
  refine S_list0 (T_storeN (vs := [(vI .i64 0), (vI .i64 0), (vB false)]) rfl rfl z105 rfl (by simp [Value.oneCell']) H27_ 0 rfl (Nat.le_of_ble_eq_true (by rfl)) ?_)
  intro w31_ S33_ H32_
  have S34_ := Same.trans S29_ S33_
  refine wn (hK30_ _ _ ?_)
  refine C_ret ?_
  refine R_any (v := (vA #[(vI .i64 0), (vI .i64 0), (vB false)])) (run_results1 rfl ⟨_, rfl, load_resN underlying105 rfl z105 rfl (vs := [(vI .i64 0), (vI .i64 0), (vB false)]) (Holds.cl_cells H32_ 0 rfl 0 rfl)⟩) ⟨_, rfl, ?_⟩
  refine ⟨⟨Holds.rd H32_ 2 rfl, Holds.rd H32_ 3 rfl, Holds.rd H32_ 4 rfl, (Holds.ro_at H32_ 6 rfl)⟩, ?_⟩
  refine A_ready (i := 7) (rs := []) (by kernel_rfl) ?_
  refine AllR.cons ?_ AllR.nil
  have H40_ := ((Holds.bring (Holds.bring (Holds.bring (Holds.bring H32_ 7 rfl) 4 rfl) 6 rfl) 7 rfl) :)
  refine A_op (ls' := #[true, true, true, true, true, true, true, true]) rfl (by kernel_rfl) (T_call (al := [(vP (some ⟨t.a, 0, none⟩)), (vI .i64 1), (vA #[(vI .i64 zE.key), (vI .i64 zE.val), (vB false)]), (vA #[(vI .i64 zE.key), (vI .i64 zE.val), (vB false)]), (vB false), (vB false), (Value.func (.func 44) #[] #[(vP (some ⟨ob, 0, none⟩)), (vP (some ⟨pb, 0, none⟩))])]) (pre := [btp r.c t, cl r.c 58 [(vP (some ⟨r.fl, 0, none⟩)), (Value.func (.func 16) #[] #[])], outP ob pb q ([] : List EL)]) rfl (lcons rfl (lcons rfl (lcons (congrArg (fun l => vA (List.toArray l)) (lcons (congrArg (vI .i64) ((by first | rfl | omega | (simp; done) | (simp; omega)) : 0 = zE.key)) (lcons (congrArg (vI .i64) ((by first | rfl | omega | (simp; done) | (simp; omega)) : 0 = zE.val)) rfl))) (lcons (congrArg (fun l => vA (List.toArray l)) (lcons (congrArg (vI .i64) ((by first | rfl | omega | (simp; done) | (simp; omega)) : 0 = zE.key)) (lcons (congrArg (vI .i64) ((by first | rfl | omega | (simp; done) | (simp; omega)) : 0 = zE.val)) rfl))) rfl)))) cb63 (itA R r.c r.fl z t zE zE false false false ob pb q ([] : List EL) (hT.1) (hT.2) (hn) (by have hn__ : t.el.length ≤ 100000 := hn; simp only [List.length_nil]; omega)) H40_ ?_)
  rintro v35_ p44_ w41_ ⟨h36_, ok37_, O38_, rfl, rfl, he39_⟩ S43_ H42_
  have S45_ := Same.trans S34_ S43_
  refine ⟨⟨Holds.rd H42_ 6 rfl, Holds.rd H42_ 2 rfl, Holds.rd H42_ 7 rfl, (Holds.ro_at H42_ 0 rfl)⟩, ?_⟩
  refine A_done (by kernel_rfl) ?_
  refine R_0 rfl ?_
  have H46_ := ((Holds.bring (Holds.bring (Holds.bring (Holds.bring H42_ 1 rfl) 7 rfl) 3 rfl) 7 rfl) :)
  have H47_ := Holds.t1_in (t := t) H46_
  have H48_ := Holds.pkF H47_ [1, 0, 0] 2
  exact ⟨_, _, rfl, ⟨O38_, rfl, rfl, ((congrArg Prod.fst he39_).symm)⟩, S45_, H48_⟩

set_option maxHeartbeats 1600000 in
theorem btL46 (R : HP) (r : TR) (T : Option (Sigma BT)) (ob pb : Nat) (q : BO) (e1 : EL) (e2 : EL)  (hT : tOk T) (hn : (tel T).length ≤ 100000) :
    Tri Try.prog 46 #[(vP (some ⟨r.tb, 0, none⟩)), (vA #[(vI .i64 e1.key), (vI .i64 e1.val)]), (vA #[(vI .i64 e2.key), (vI .i64 e2.val)]), (Value.func (.func 44) #[] #[(vP (some ⟨ob, 0, none⟩)), (vP (some ⟨pb, 0, none⟩))])] R [treeP r T, outP ob pb q ([] : List EL)] (fun v__ post__ => ∃ (O' : List EL), v__ = (vT #[]) ∧ post__ = [treeP r T, outP ob pb q O'] ∧ (O' = (runA (stA true e2) q.most (selA true e1 (tel T)) []).1)) := by
 refine Tri.into (n := 23) (al := [(vP (some ⟨r.tb, 0, none⟩)), (vA #[(vI .i64 e1.key), (vI .i64 e1.val)]), (vA #[(vI .i64 e2.key), (vI .i64 e2.val)]), (Value.func (.func 44) #[] #[(vP (some ⟨ob, 0, none⟩)), (vP (some ⟨pb, 0, none⟩))])]) func46 rfl ntmps46 rfl rfl fun w F H => ?_
 refine cR fun _ hK1_ => ?_
 rcases T with _ | ⟨z, t⟩
 ·skip
  have H2_ : Holds w (ro R :: treeP r none :: outP ob pb q ([] : List EL) :: F) := H
  have H3_ := ((Holds.bring H2_ 1 rfl) :)
  have H4_ := Holds.t0_out H3_
  refine S_list (T_box (v := (vA #[(vI .i64 e1.key), (vI .i64 e1.val)])) rfl H4_ ?_)
  intro b5_ w6_ S8_ H7_
  have S9_ := Same.trans (Same.refl w) S8_
  refine S_list (T_box (v := (vA #[(vI .i64 e2.key), (vI .i64 e2.val)])) rfl H7_ ?_)
  intro b10_ w11_ S13_ H12_
  have S14_ := Same.trans S9_ S13_
  refine wn (hK1_ _ _ ?_)
  refine C_seq (fun _ hK15_ => ?_)
  refine cR fun _ hK16_ => ?_
  refine sm (vP (some ⟨r.tb, 0, none⟩)) ?_
  refine sv (v := (vP (some ⟨r.tb, 0, none⟩))) (by kernel_rfl) ?_
  refine sv (v := (vP (some ⟨r.tb, 2, none⟩))) (by kernel_rfl) ?_
  refine sv (v := (vP none)) (x_load1 rfl underlying59 rfl ((Holds.rd H12_ 2 rfl) 2 (vP none) rfl)) ?_
  refine sv (v := (vB true)) (by kernel_rfl) ?_
  refine wn (hK16_ _ _ ?_)
  refine C_condT rfl ?_
  refine C_ret (X_thenR ?_)
  refine R_0r rfl ?_
  have H17_ := ((Holds.bring (Holds.bring (Holds.bring H12_ 4 rfl) 4 rfl) 4 rfl) :)
  have H18_ := Holds.t0_in H17_
  have H19_ := Holds.pkF H18_ [3, 0, 2] 2
  exact ⟨_, _, rfl, ⟨([] : List EL), rfl, rfl, (rfl)⟩, S14_, H19_⟩
 ·skip
  have H20_ : Holds w (ro R :: treeP r (some ⟨z, t⟩) :: outP ob pb q ([] : List EL) :: F) := H
  have H21_ := ((Holds.bring H20_ 1 rfl) :)
  have H22_ := Holds.t1_out H21_
  refine S_list (T_box (v := (vA #[(vI .i64 e1.key), (vI .i64 e1.val)])) rfl H22_ ?_)
  intro b23_ w24_ S26_ H25_
  have S27_ := Same.trans (Same.refl w) S26_
  refine S_list (T_box (v := (vA #[(vI .i64 e2.key), (vI .i64 e2.val)])) rfl H25_ ?_)
  intro b28_ w29_ S31_ H30_
  have S32_ := Same.trans S27_ S31_
  refine wn (hK1_ _ _ ?_)
  refine C_seq (fun _ hK33_ => ?_)
  refine cR fun _ hK34_ => ?_
  refine sm (vP (some ⟨r.tb, 0, none⟩)) ?_
  refine sv (v := (vP (some ⟨r.tb, 0, none⟩))) (by kernel_rfl) ?_
  refine sv (v := (vP (some ⟨r.tb, 2, none⟩))) (by kernel_rfl) ?_
  refine sv (v := (vP (some ⟨t.a, 0, none⟩))) (x_load1 rfl underlying59 rfl ((Holds.rd H30_ 2 rfl) 2 (vP (some ⟨t.a, 0, none⟩)) rfl)) ?_
  refine sv (v := (vB false)) (by kernel_rfl) ?_
  refine wn (hK34_ _ _ ?_)
  refine C_condF rfl ?_
  refine C_skip (X_then (hK33_ _ _ ?_))
  refine A_start (S := fun w => Rd b28_ [(vI .i64 e2.key), (vI .i64 e2.val)] w ∧ Rd b23_ [(vI .i64 e1.key), (vI .i64 e1.val)] w ∧ Rd r.tb [(vI .i64 (r.d : Int)), (vI .i64 (List.length t.el : Int)), (vP (some ⟨t.a, 0, none⟩)), (vP (some ⟨r.c, 0, none⟩))] w ∧ Rd r.c [(vP (some ⟨r.fl, 0, none⟩)), (Value.func (.func 16) #[] #[])] w ∧ Rd r.fl [(vS r.fa 0 r.fc)] w ∧ Sub R (hp w)) (N := 10) foll rfl rfl ?_
  have H35_ := Holds.drew_ H30_
  have hq36_ := And.intro (Holds.rd H35_ 0 rfl) (And.intro (Holds.rd H35_ 1 rfl) (And.intro (Holds.rd H35_ 2 rfl) (And.intro (Holds.rd H35_ 3 rfl) (And.intro (Holds.rd H35_ 4 rfl) ((Holds.ro_at H35_ 6 rfl))))))
  refine A_tk 0 (v := (vP (some ⟨r.tb, 0, none⟩))) rfl (by kernel_rfl) (fun w hS => x_move rfl) hq36_ ?_
  refine A_tk 1 (v := (vP (some ⟨r.tb, 0, none⟩))) rfl (by kernel_rfl) (fun w hS => by kernel_rfl) hq36_ ?_
  refine A_tk 2 (v := (vP (some ⟨r.tb, 2, none⟩))) rfl (by kernel_rfl) (fun w hS => by kernel_rfl) hq36_ ?_
  refine A_tk 3 (v := (vP (some ⟨t.a, 0, none⟩))) rfl (by kernel_rfl) (fun w hS => x_load1 rfl underlying59 rfl (hS.2.2.1 2 (vP (some ⟨t.a, 0, none⟩)) rfl)) hq36_ ?_
  refine A_tk 4 (v := (vA #[(vI .i64 e1.key), (vI .i64 e1.val)])) rfl (by kernel_rfl) (fun w hS => x_loadN (vs := [(vI .i64 e1.key), (vI .i64 e1.val)]) rfl underlying24 rfl z24 rfl (Rd.cells hS.2.1 0 rfl)) hq36_ ?_
  refine A_tk 6 (v := (vA #[(vI .i64 e2.key), (vI .i64 e2.val)])) rfl (by kernel_rfl) (fun w hS => x_loadN (vs := [(vI .i64 e2.key), (vI .i64 e2.val)]) rfl underlying24 rfl z24 rfl (Rd.cells hS.1 0 rfl)) hq36_ ?_
  refine A_tk 8 (v := (Value.func (.func 44) #[] #[(vP (some ⟨ob, 0, none⟩)), (vP (some ⟨pb, 0, none⟩))])) rfl (by kernel_rfl) (fun w hS => x_move rfl) hq36_ ?_
  refine A_ready (i := 5) (rs := []) (by kernel_rfl) ?_
  refine AllR.cons ?_ AllR.nil
  refine A_op (ls' := #[true, true, true, true, true, true, true, false, true, false]) rfl (by kernel_rfl) (T_callW (al := [(vA #[(vI .i64 e1.key), (vI .i64 e1.val)])]) rfl rfl cb65 (Calls.into (n := 5) func65 rfl ntmps65 rfl rfl ?_))
  refine cR fun _ hK37_ => ?_
  refine S_list (T_box (v := (vA #[(vI .i64 e1.key), (vI .i64 e1.val)])) rfl H35_ ?_)
  intro b38_ w39_ S41_ H40_
  have S42_ := Same.trans (Same.trans S32_ (Same.drew _)) S41_
  refine S_list (T_alloc z105 H40_ ?_)
  intro b43_ w44_ S46_ H45_
  have S47_ := Same.trans S42_ S46_
  refine wn (hK37_ _ _ ?_)
  refine cR fun _ hK48_ => ?_
  refine sv (v := (vA #[(vI .i64 e1.key), (vI .i64 e1.val)])) (x_loadN (vs := [(vI .i64 e1.key), (vI .i64 e1.val)]) rfl underlying24 rfl z24 rfl (Rd.cells (Holds.rd H45_ 1 rfl) 0 rfl)) ?_
  refine sv (v := (vA #[(vI .i64 e1.key), (vI .i64 e1.val), (vB true)])) (by kernel_rfl) ?_
  refine S_list0 (T_storeN (vs := [(vI .i64 e1.key), (vI .i64 e1.val), (vB true)]) rfl rfl z105 rfl (by simp [Value.oneCell']) H45_ 0 rfl (Nat.le_of_ble_eq_true (by rfl)) ?_)
  intro w49_ S51_ H50_
  have S52_ := Same.trans S47_ S51_
  refine wn (hK48_ _ _ ?_)
  refine C_ret ?_
  refine R_any (v := (vA #[(vI .i64 e1.key), (vI .i64 e1.val), (vB true)])) (run_results1 rfl ⟨_, rfl, load_resN underlying105 rfl z105 rfl (vs := [(vI .i64 e1.key), (vI .i64 e1.val), (vB true)]) (Holds.cl_cells H50_ 0 rfl 0 rfl)⟩) ⟨_, rfl, ?_⟩
  refine ⟨⟨Holds.rd H50_ 2 rfl, Holds.rd H50_ 3 rfl, Holds.rd H50_ 4 rfl, Holds.rd H50_ 5 rfl, Holds.rd H50_ 6 rfl, (Holds.ro_at H50_ 8 rfl)⟩, ?_⟩
  refine A_ready (i := 7) (rs := []) (by kernel_rfl) ?_
  refine AllR.cons ?_ AllR.nil
  refine A_op (ls' := #[true, true, true, true, true, true, true, true, true, false]) rfl (by kernel_rfl) (T_callW (al := [(vA #[(vI .i64 e2.key), (vI .i64 e2.val)])]) rfl rfl cb65 (Calls.into (n := 5) func65 rfl ntmps65 rfl rfl ?_))
  refine cR fun _ hK53_ => ?_
  refine S_list (T_box (v := (vA #[(vI .i64 e2.key), (vI .i64 e2.val)])) rfl H50_ ?_)
  intro b54_ w55_ S57_ H56_
  have S58_ := Same.trans S52_ S57_
  refine S_list (T_alloc z105 H56_ ?_)
  intro b59_ w60_ S62_ H61_
  have S63_ := Same.trans S58_ S62_
  refine wn (hK53_ _ _ ?_)
  refine cR fun _ hK64_ => ?_
  refine sv (v := (vA #[(vI .i64 e2.key), (vI .i64 e2.val)])) (x_loadN (vs := [(vI .i64 e2.key), (vI .i64 e2.val)]) rfl underlying24 rfl z24 rfl (Rd.cells (Holds.rd H61_ 1 rfl) 0 rfl)) ?_
  refine sv (v := (vA #[(vI .i64 e2.key), (vI .i64 e2.val), (vB true)])) (by kernel_rfl) ?_
  refine S_list0 (T_storeN (vs := [(vI .i64 e2.key), (vI .i64 e2.val), (vB true)]) rfl rfl z105 rfl (by simp [Value.oneCell']) H61_ 0 rfl (Nat.le_of_ble_eq_true (by rfl)) ?_)
  intro w65_ S67_ H66_
  have S68_ := Same.trans S63_ S67_
  refine wn (hK64_ _ _ ?_)
  refine C_ret ?_
  refine R_any (v := (vA #[(vI .i64 e2.key), (vI .i64 e2.val), (vB true)])) (run_results1 rfl ⟨_, rfl, load_resN underlying105 rfl z105 rfl (vs := [(vI .i64 e2.key), (vI .i64 e2.val), (vB true)]) (Holds.cl_cells H66_ 0 rfl 0 rfl)⟩) ⟨_, rfl, ?_⟩
  refine ⟨⟨Holds.rd H66_ 4 rfl, Holds.rd H66_ 5 rfl, Holds.rd H66_ 6 rfl, Holds.rd H66_ 7 rfl, Holds.rd H66_ 8 rfl, (Holds.ro_at H66_ 10 rfl)⟩, ?_⟩
  refine A_ready (i := 9) (rs := []) (by kernel_rfl) ?_
  refine AllR.cons ?_ AllR.nil
  have H74_ := ((Holds.bring (Holds.bring (Holds.bring (Holds.bring H66_ 11 rfl) 8 rfl) 10 rfl) 11 rfl) :)
  refine A_op (ls' := #[true, true, true, true, true, true, true, true, true, true]) rfl (by kernel_rfl) (T_call (al := [(vP (some ⟨t.a, 0, none⟩)), (vI .i64 1), (vA #[(vI .i64 e1.key), (vI .i64 e1.val), (vB true)]), (vA #[(vI .i64 e2.key), (vI .i64 e2.val), (vB true)]), (vB true), (vB false), (Value.func (.func 44) #[] #[(vP (some ⟨ob, 0, none⟩)), (vP (some ⟨pb, 0, none⟩))])]) (pre := [btp r.c t, cl r.c 58 [(vP (some ⟨r.fl, 0, none⟩)), (Value.func (.func 16) #[] #[])], outP ob pb q ([] : List EL)]) rfl rfl cb63 (itA R r.c r.fl z t e1 e2 true true false ob pb q ([] : List EL) (hT.1) (hT.2) (hn) (by have hn__ : t.el.length ≤ 100000 := hn; simp only [List.length_nil]; omega)) H74_ ?_)
  rintro v69_ p78_ w75_ ⟨h70_, ok71_, O72_, rfl, rfl, he73_⟩ S77_ H76_
  have S79_ := Same.trans S68_ S77_
  refine ⟨⟨Holds.rd H76_ 8 rfl, Holds.rd H76_ 9 rfl, Holds.rd H76_ 10 rfl, Holds.rd H76_ 2 rfl, Holds.rd H76_ 11 rfl, (Holds.ro_at H76_ 0 rfl)⟩, ?_⟩
  refine A_done (by kernel_rfl) ?_
  refine R_0 rfl ?_
  have H80_ := ((Holds.bring (Holds.bring (Holds.bring (Holds.bring H76_ 1 rfl) 11 rfl) 3 rfl) 11 rfl) :)
  have H81_ := Holds.t1_in (t := t) H80_
  have H82_ := Holds.pkF H81_ [1, 0, 0] 6
  exact ⟨_, _, rfl, ⟨O72_, rfl, rfl, ((congrArg Prod.fst he73_).symm)⟩, S79_, H82_⟩

set_option maxHeartbeats 1600000 in
theorem btL47 (R : HP) (r : TR) (T : Option (Sigma BT)) (ob pb : Nat) (q : BO) (e1 : EL)  (hT : tOk T) (hn : (tel T).length ≤ 100000) :
    Tri Try.prog 47 #[(vP (some ⟨r.tb, 0, none⟩)), (vA #[(vI .i64 e1.key), (vI .i64 e1.val)]), (Value.func (.func 44) #[] #[(vP (some ⟨ob, 0, none⟩)), (vP (some ⟨pb, 0, none⟩))])] R [treeP r T, outP ob pb q ([] : List EL)] (fun v__ post__ => ∃ (O' : List EL), v__ = (vT #[]) ∧ post__ = [treeP r T, outP ob pb q O'] ∧ (O' = (runA (stA true e1) q.most (selA false zE (tel T)) []).1)) := by
 refine Tri.into (n := 20) (al := [(vP (some ⟨r.tb, 0, none⟩)), (vA #[(vI .i64 e1.key), (vI .i64 e1.val)]), (Value.func (.func 44) #[] #[(vP (some ⟨ob, 0, none⟩)), (vP (some ⟨pb, 0, none⟩))])]) func47 rfl ntmps47 rfl rfl fun w F H => ?_
 refine cR fun _ hK1_ => ?_
 rcases T with _ | ⟨z, t⟩
 ·skip
  have H2_ : Holds w (ro R :: treeP r none :: outP ob pb q ([] : List EL) :: F) := H
  have H3_ := ((Holds.bring H2_ 1 rfl) :)
  have H4_ := Holds.t0_out H3_
  refine S_list (T_box (v := (vA #[(vI .i64 e1.key), (vI .i64 e1.val)])) rfl H4_ ?_)
  intro b5_ w6_ S8_ H7_
  have S9_ := Same.trans (Same.refl w) S8_
  refine wn (hK1_ _ _ ?_)
  refine C_seq (fun _ hK10_ => ?_)
  refine cR fun _ hK11_ => ?_
  refine sm (vP (some ⟨r.tb, 0, none⟩)) ?_
  refine sv (v := (vP (some ⟨r.tb, 0, none⟩))) (by kernel_rfl) ?_
  refine sv (v := (vP (some ⟨r.tb, 2, none⟩))) (by kernel_rfl) ?_
  refine sv (v := (vP none)) (x_load1 rfl underlying59 rfl ((Holds.rd H7_ 1 rfl) 2 (vP none) rfl)) ?_
  refine sv (v := (vB true)) (by kernel_rfl) ?_
  refine wn (hK11_ _ _ ?_)
  refine C_condT rfl ?_
  refine C_ret (X_thenR ?_)
  refine R_0r rfl ?_
  have H12_ := ((Holds.bring (Holds.bring (Holds.bring H7_ 3 rfl) 3 rfl) 3 rfl) :)
  have H13_ := Holds.t0_in H12_
  have H14_ := Holds.pkF H13_ [2, 0, 1] 1
  exact ⟨_, _, rfl, ⟨([] : List EL), rfl, rfl, (rfl)⟩, S9_, H14_⟩
 ·skip
  have H15_ : Holds w (ro R :: treeP r (some ⟨z, t⟩) :: outP ob pb q ([] : List EL) :: F) := H
  have H16_ := ((Holds.bring H15_ 1 rfl) :)
  have H17_ := Holds.t1_out H16_
  refine S_list (T_box (v := (vA #[(vI .i64 e1.key), (vI .i64 e1.val)])) rfl H17_ ?_)
  intro b18_ w19_ S21_ H20_
  have S22_ := Same.trans (Same.refl w) S21_
  refine wn (hK1_ _ _ ?_)
  refine C_seq (fun _ hK23_ => ?_)
  refine cR fun _ hK24_ => ?_
  refine sm (vP (some ⟨r.tb, 0, none⟩)) ?_
  refine sv (v := (vP (some ⟨r.tb, 0, none⟩))) (by kernel_rfl) ?_
  refine sv (v := (vP (some ⟨r.tb, 2, none⟩))) (by kernel_rfl) ?_
  refine sv (v := (vP (some ⟨t.a, 0, none⟩))) (x_load1 rfl underlying59 rfl ((Holds.rd H20_ 1 rfl) 2 (vP (some ⟨t.a, 0, none⟩)) rfl)) ?_
  refine sv (v := (vB false)) (by kernel_rfl) ?_
  refine wn (hK24_ _ _ ?_)
  refine C_condF rfl ?_
  refine C_skip (X_then (hK23_ _ _ ?_))
  refine A_start (S := fun w => Rd b18_ [(vI .i64 e1.key), (vI .i64 e1.val)] w ∧ Rd r.tb [(vI .i64 (r.d : Int)), (vI .i64 (List.length t.el : Int)), (vP (some ⟨t.a, 0, none⟩)), (vP (some ⟨r.c, 0, none⟩))] w ∧ Rd r.c [(vP (some ⟨r.fl, 0, none⟩)), (Value.func (.func 16) #[] #[])] w ∧ Rd r.fl [(vS r.fa 0 r.fc)] w ∧ Sub R (hp w)) (N := 9) foll rfl rfl ?_
  have H25_ := Holds.drew_ H20_
  have hq26_ := And.intro (Holds.rd H25_ 0 rfl) (And.intro (Holds.rd H25_ 1 rfl) (And.intro (Holds.rd H25_ 2 rfl) (And.intro (Holds.rd H25_ 3 rfl) ((Holds.ro_at H25_ 5 rfl)))))
  refine A_tk 0 (v := (vP (some ⟨r.tb, 0, none⟩))) rfl (by kernel_rfl) (fun w hS => x_move rfl) hq26_ ?_
  refine A_tk 1 (v := (vP (some ⟨r.tb, 0, none⟩))) rfl (by kernel_rfl) (fun w hS => by kernel_rfl) hq26_ ?_
  refine A_tk 2 (v := (vP (some ⟨r.tb, 2, none⟩))) rfl (by kernel_rfl) (fun w hS => by kernel_rfl) hq26_ ?_
  refine A_tk 3 (v := (vP (some ⟨t.a, 0, none⟩))) rfl (by kernel_rfl) (fun w hS => x_load1 rfl underlying59 rfl (hS.2.1 2 (vP (some ⟨t.a, 0, none⟩)) rfl)) hq26_ ?_
  refine A_tk 5 (v := (vA #[(vI .i64 e1.key), (vI .i64 e1.val)])) rfl (by kernel_rfl) (fun w hS => x_loadN (vs := [(vI .i64 e1.key), (vI .i64 e1.val)]) rfl underlying24 rfl z24 rfl (Rd.cells hS.1 0 rfl)) hq26_ ?_
  refine A_tk 7 (v := (Value.func (.func 44) #[] #[(vP (some ⟨ob, 0, none⟩)), (vP (some ⟨pb, 0, none⟩))])) rfl (by kernel_rfl) (fun w hS => x_move rfl) hq26_ ?_
  refine A_ready (i := 4) (rs := []) (by kernel_rfl) ?_
  refine AllR.cons ?_ AllR.nil
  refine A_op (ls' := #[true, true, true, true, true, true, false, true, false]) rfl (by kernel_rfl) (T_callW (al := []) rfl rfl cb64 (Calls.into (n := 2) func64 rfl ntmps64 rfl rfl ?_))
  refine cR fun _ hK27_ => ?_
  refine S_list (T_alloc z105 H25_ ?_)
  intro b28_ w29_ S31_ H30_
  have S32_ := Same.trans (Same.trans S22_ (Same.drew _)) S31_
  refine wn (hK27_ _ _ ?_)
  refine cR fun _ hK33_ => ?_
  refine sv (v := (vA #[(vI .i64 0), (vI .i64 0), (vB false)])) (by kernel_rfl) ?_
  refine S_list0 (T_storeN (vs := [(vI .i64 0), (vI .i64 0), (vB false)]) rfl rfl z105 rfl (by simp [Value.oneCell']) H30_ 0 rfl (Nat.le_of_ble_eq_true (by rfl)) ?_)
  intro w34_ S36_ H35_
  have S37_ := Same.trans S32_ S36_
  refine wn (hK33_ _ _ ?_)
  refine C_ret ?_
  refine R_any (v := (vA #[(vI .i64 0), (vI .i64 0), (vB false)])) (run_results1 rfl ⟨_, rfl, load_resN underlying105 rfl z105 rfl (vs := [(vI .i64 0), (vI .i64 0), (vB false)]) (Holds.cl_cells H35_ 0 rfl 0 rfl)⟩) ⟨_, rfl, ?_⟩
  refine ⟨⟨Holds.rd H35_ 1 rfl, Holds.rd H35_ 2 rfl, Holds.rd H35_ 3 rfl, Holds.rd H35_ 4 rfl, (Holds.ro_at H35_ 6 rfl)⟩, ?_⟩
  refine A_ready (i := 6) (rs := []) (by kernel_rfl) ?_
  refine AllR.cons ?_ AllR.nil
  refine A_op (ls' := #[true, true, true, true, true, true, true, true, false]) rfl (by kernel_rfl) (T_callW (al := [(vA #[(vI .i64 e1.key), (vI .i64 e1.val)])]) rfl rfl cb65 (Calls.into (n := 5) func65 rfl ntmps65 rfl rfl ?_))
  refine cR fun _ hK38_ => ?_
  refine S_list (T_box (v := (vA #[(vI .i64 e1.key), (vI .i64 e1.val)])) rfl H35_ ?_)
  intro b39_ w40_ S42_ H41_
  have S43_ := Same.trans S37_ S42_
  refine S_list (T_alloc z105 H41_ ?_)
  intro b44_ w45_ S47_ H46_
  have S48_ := Same.trans S43_ S47_
  refine wn (hK38_ _ _ ?_)
  refine cR fun _ hK49_ => ?_
  refine sv (v := (vA #[(vI .i64 e1.key), (vI .i64 e1.val)])) (x_loadN (vs := [(vI .i64 e1.key), (vI .i64 e1.val)]) rfl underlying24 rfl z24 rfl (Rd.cells (Holds.rd H46_ 1 rfl) 0 rfl)) ?_
  refine sv (v := (vA #[(vI .i64 e1.key), (vI .i64 e1.val), (vB true)])) (by kernel_rfl) ?_
  refine S_list0 (T_storeN (vs := [(vI .i64 e1.key), (vI .i64 e1.val), (vB true)]) rfl rfl z105 rfl (by simp [Value.oneCell']) H46_ 0 rfl (Nat.le_of_ble_eq_true (by rfl)) ?_)
  intro w50_ S52_ H51_
  have S53_ := Same.trans S48_ S52_
  refine wn (hK49_ _ _ ?_)
  refine C_ret ?_
  refine R_any (v := (vA #[(vI .i64 e1.key), (vI .i64 e1.val), (vB true)])) (run_results1 rfl ⟨_, rfl, load_resN underlying105 rfl z105 rfl (vs := [(vI .i64 e1.key), (vI .i64 e1.val), (vB true)]) (Holds.cl_cells H51_ 0 rfl 0 rfl)⟩) ⟨_, rfl, ?_⟩
  refine ⟨⟨Holds.rd H51_ 3 rfl, Holds.rd H51_ 4 rfl, Holds.rd H51_ 5 rfl, Holds.rd H51_ 6 rfl, (Holds.ro_at H51_ 8 rfl)⟩, ?_⟩
  refine A_ready (i := 8) (rs := []) (by kernel_rfl) ?_
  refine AllR.cons ?_ AllR.nil
  have H59_ := ((Holds.bring (Holds.bring (Holds.bring (Holds.bring H51_ 9 rfl) 6 rfl) 8 rfl) 9 rfl) :)
  refine A_op (ls' := #[true, true, true, true, true, true, true, true, true]) rfl (by kernel_rfl) (T_call (al := [(vP (some ⟨t.a, 0, none⟩)), (vI .i64 1), (vA #[(vI .i64 zE.key), (vI .i64 zE.val), (vB false)]), (vA #[(vI .i64 e1.key), (vI .i64 e1.val), (vB true)]), (vB false), (vB false), (Value.func (.func 44) #[] #[(vP (some ⟨ob, 0, none⟩)), (vP (some ⟨pb, 0, none⟩))])]) (pre := [btp r.c t, cl r.c 58 [(vP (some ⟨r.fl, 0, none⟩)), (Value.func (.func 16) #[] #[])], outP ob pb q ([] : List EL)]) rfl (lcons rfl (lcons rfl (lcons (congrArg (fun l => vA (List.toArray l)) (lcons (congrArg (vI .i64) ((by first | rfl | omega | (simp; done) | (simp; omega)) : 0 = zE.key)) (lcons (congrArg (vI .i64) ((by first | rfl | omega | (simp; done) | (simp; omega)) : 0 = zE.val)) rfl))) rfl))) cb63 (itA R r.c r.fl z t zE e1 false true false ob pb q ([] : List EL) (hT.1) (hT.2) (hn) (by have hn__ : t.el.length ≤ 100000 := hn; simp only [List.length_nil]; omega)) H59_ ?_)
  rintro v54_ p63_ w60_ ⟨h55_, ok56_, O57_, rfl, rfl, he58_⟩ S62_ H61_
  have S64_ := Same.trans S53_ S62_
  refine ⟨⟨Holds.rd H61_ 7 rfl, Holds.rd H61_ 8 rfl, Holds.rd H61_ 2 rfl, Holds.rd H61_ 9 rfl, (Holds.ro_at H61_ 0 rfl)⟩, ?_⟩
  refine A_done (by kernel_rfl) ?_
  refine R_0 rfl ?_
  have H65_ := ((Holds.bring (Holds.bring (Holds.bring (Holds.bring H61_ 1 rfl) 9 rfl) 3 rfl) 9 rfl) :)
  have H66_ := Holds.t1_in (t := t) H65_
  have H67_ := Holds.pkF H66_ [1, 0, 0] 4
  exact ⟨_, _, rfl, ⟨O57_, rfl, rfl, ((congrArg Prod.fst he58_).symm)⟩, S64_, H67_⟩

set_option maxHeartbeats 1600000 in
theorem btL48 (R : HP) (r : TR) (T : Option (Sigma BT)) (ob pb : Nat) (q : BO) (e1 : EL)  (hT : tOk T) (hn : (tel T).length ≤ 100000) :
    Tri Try.prog 48 #[(vP (some ⟨r.tb, 0, none⟩)), (vA #[(vI .i64 e1.key), (vI .i64 e1.val)]), (Value.func (.func 44) #[] #[(vP (some ⟨ob, 0, none⟩)), (vP (some ⟨pb, 0, none⟩))])] R [treeP r T, outP ob pb q ([] : List EL)] (fun v__ post__ => ∃ (O' : List EL), v__ = (vT #[]) ∧ post__ = [treeP r T, outP ob pb q O'] ∧ (O' = (runA (stA false zE) q.most (selA true e1 (tel T)) []).1)) := by
 refine Tri.into (n := 20) (al := [(vP (some ⟨r.tb, 0, none⟩)), (vA #[(vI .i64 e1.key), (vI .i64 e1.val)]), (Value.func (.func 44) #[] #[(vP (some ⟨ob, 0, none⟩)), (vP (some ⟨pb, 0, none⟩))])]) func48 rfl ntmps48 rfl rfl fun w F H => ?_
 refine cR fun _ hK1_ => ?_
 rcases T with _ | ⟨z, t⟩
 ·skip
  have H2_ : Holds w (ro R :: treeP r none :: outP ob pb q ([] : List EL) :: F) := H
  have H3_ := ((Holds.bring H2_ 1 rfl) :)
  have H4_ := Holds.t0_out H3_
  refine S_list (T_box (v := (vA #[(vI .i64 e1.key), (vI .i64 e1.val)])) rfl H4_ ?_)
  intro b5_ w6_ S8_ H7_
  have S9_ := Same.trans (Same.refl w) S8_
  refine wn (hK1_ _ _ ?_)
  refine C_seq (fun _ hK10_ => ?_)
  refine cR fun _ hK11_ => ?_
  refine sm (vP (some ⟨r.tb, 0, none⟩)) ?_
  refine sv (v := (vP (some ⟨r.tb, 0, none⟩))) (by kernel_rfl) ?_
  refine sv (v := (vP (some ⟨r.tb, 2, none⟩))) (by kernel_rfl) ?_
  refine sv (v := (vP none)) (x_load1 rfl underlying59 rfl ((Holds.rd H7_ 1 rfl) 2 (vP none) rfl)) ?_
  refine sv (v := (vB true)) (by kernel_rfl) ?_
  refine wn (hK11_ _ _ ?_)
  refine C_condT rfl ?_
  refine C_ret (X_thenR ?_)
  refine R_0r rfl ?_
  have H12_ := ((Holds.bring (Holds.bring (Holds.bring H7_ 3 rfl) 3 rfl) 3 rfl) :)
  have H13_ := Holds.t0_in H12_
  have H14_ := Holds.pkF H13_ [2, 0, 1] 1
  exact ⟨_, _, rfl, ⟨([] : List EL), rfl, rfl, (rfl)⟩, S9_, H14_⟩
 ·skip
  have H15_ : Holds w (ro R :: treeP r (some ⟨z, t⟩) :: outP ob pb q ([] : List EL) :: F) := H
  have H16_ := ((Holds.bring H15_ 1 rfl) :)
  have H17_ := Holds.t1_out H16_
  refine S_list (T_box (v := (vA #[(vI .i64 e1.key), (vI .i64 e1.val)])) rfl H17_ ?_)
  intro b18_ w19_ S21_ H20_
  have S22_ := Same.trans (Same.refl w) S21_
  refine wn (hK1_ _ _ ?_)
  refine C_seq (fun _ hK23_ => ?_)
  refine cR fun _ hK24_ => ?_
  refine sm (vP (some ⟨r.tb, 0, none⟩)) ?_
  refine sv (v := (vP (some ⟨r.tb, 0, none⟩))) (by kernel_rfl) ?_
  refine sv (v := (vP (some ⟨r.tb, 2, none⟩))) (by kernel_rfl) ?_
  refine sv (v := (vP (some ⟨t.a, 0, none⟩))) (x_load1 rfl underlying59 rfl ((Holds.rd H20_ 1 rfl) 2 (vP (some ⟨t.a, 0, none⟩)) rfl)) ?_
  refine sv (v := (vB false)) (by kernel_rfl) ?_
  refine wn (hK24_ _ _ ?_)
  refine C_condF rfl ?_
  refine C_skip (X_then (hK23_ _ _ ?_))
  refine A_start (S := fun w => Rd b18_ [(vI .i64 e1.key), (vI .i64 e1.val)] w ∧ Rd r.tb [(vI .i64 (r.d : Int)), (vI .i64 (List.length t.el : Int)), (vP (some ⟨t.a, 0, none⟩)), (vP (some ⟨r.c, 0, none⟩))] w ∧ Rd r.c [(vP (some ⟨r.fl, 0, none⟩)), (Value.func (.func 16) #[] #[])] w ∧ Rd r.fl [(vS r.fa 0 r.fc)] w ∧ Sub R (hp w)) (N := 9) foll rfl rfl ?_
  have H25_ := Holds.drew_ H20_
  have hq26_ := And.intro (Holds.rd H25_ 0 rfl) (And.intro (Holds.rd H25_ 1 rfl) (And.intro (Holds.rd H25_ 2 rfl) (And.intro (Holds.rd H25_ 3 rfl) ((Holds.ro_at H25_ 5 rfl)))))
  refine A_tk 0 (v := (vP (some ⟨r.tb, 0, none⟩))) rfl (by kernel_rfl) (fun w hS => x_move rfl) hq26_ ?_
  refine A_tk 1 (v := (vP (some ⟨r.tb, 0, none⟩))) rfl (by kernel_rfl) (fun w hS => by kernel_rfl) hq26_ ?_
  refine A_tk 2 (v := (vP (some ⟨r.tb, 2, none⟩))) rfl (by kernel_rfl) (fun w hS => by kernel_rfl) hq26_ ?_
  refine A_tk 3 (v := (vP (some ⟨t.a, 0, none⟩))) rfl (by kernel_rfl) (fun w hS => x_load1 rfl underlying59 rfl (hS.2.1 2 (vP (some ⟨t.a, 0, none⟩)) rfl)) hq26_ ?_
  refine A_tk 4 (v := (vA #[(vI .i64 e1.key), (vI .i64 e1.val)])) rfl (by kernel_rfl) (fun w hS => x_loadN (vs := [(vI .i64 e1.key), (vI .i64 e1.val)]) rfl underlying24 rfl z24 rfl (Rd.cells hS.1 0 rfl)) hq26_ ?_
  refine A_tk 7 (v := (Value.func (.func 44) #[] #[(vP (some ⟨ob, 0, none⟩)), (vP (some ⟨pb, 0, none⟩))])) rfl (by kernel_rfl) (fun w hS => x_move rfl) hq26_ ?_
  refine A_ready (i := 5) (rs := []) (by kernel_rfl) ?_
  refine AllR.cons ?_ AllR.nil
  refine A_op (ls' := #[true, true, true, true, true, true, false, true, false]) rfl (by kernel_rfl) (T_callW (al := [(vA #[(vI .i64 e1.key), (vI .i64 e1.val)])]) rfl rfl cb65 (Calls.into (n := 5) func65 rfl ntmps65 rfl rfl ?_))
  refine cR fun _ hK27_ => ?_
  refine S_list (T_box (v := (vA #[(vI .i64 e1.key), (vI .i64 e1.val)])) rfl H25_ ?_)
  intro b28_ w29_ S31_ H30_
  have S32_ := Same.trans (Same.trans S22_ (Same.drew _)) S31_
  refine S_list (T_alloc z105 H30_ ?_)
  intro b33_ w34_ S36_ H35_
  have S37_ := Same.trans S32_ S36_
  refine wn (hK27_ _ _ ?_)
  refine cR fun _ hK38_ => ?_
  refine sv (v := (vA #[(vI .i64 e1.key), (vI .i64 e1.val)])) (x_loadN (vs := [(vI .i64 e1.key), (vI .i64 e1.val)]) rfl underlying24 rfl z24 rfl (Rd.cells (Holds.rd H35_ 1 rfl) 0 rfl)) ?_
  refine sv (v := (vA #[(vI .i64 e1.key), (vI .i64 e1.val), (vB true)])) (by kernel_rfl) ?_
  refine S_list0 (T_storeN (vs := [(vI .i64 e1.key), (vI .i64 e1.val), (vB true)]) rfl rfl z105 rfl (by simp [Value.oneCell']) H35_ 0 rfl (Nat.le_of_ble_eq_true (by rfl)) ?_)
  intro w39_ S41_ H40_
  have S42_ := Same.trans S37_ S41_
  refine wn (hK38_ _ _ ?_)
  refine C_ret ?_
  refine R_any (v := (vA #[(vI .i64 e1.key), (vI .i64 e1.val), (vB true)])) (run_results1 rfl ⟨_, rfl, load_resN underlying105 rfl z105 rfl (vs := [(vI .i64 e1.key), (vI .i64 e1.val), (vB true)]) (Holds.cl_cells H40_ 0 rfl 0 rfl)⟩) ⟨_, rfl, ?_⟩
  refine ⟨⟨Holds.rd H40_ 2 rfl, Holds.rd H40_ 3 rfl, Holds.rd H40_ 4 rfl, Holds.rd H40_ 5 rfl, (Holds.ro_at H40_ 7 rfl)⟩, ?_⟩
  refine A_ready (i := 6) (rs := []) (by kernel_rfl) ?_
  refine AllR.cons ?_ AllR.nil
  refine A_op (ls' := #[true, true, true, true, true, true, true, true, false]) rfl (by kernel_rfl) (T_callW (al := []) rfl rfl cb64 (Calls.into (n := 2) func64 rfl ntmps64 rfl rfl ?_))
  refine cR fun _ hK43_ => ?_
  refine S_list (T_alloc z105 H40_ ?_)
  intro b44_ w45_ S47_ H46_
  have S48_ := Same.trans S42_ S47_
  refine wn (hK43_ _ _ ?_)
  refine cR fun _ hK49_ => ?_
  refine sv (v := (vA #[(vI .i64 0), (vI .i64 0), (vB false)])) (by kernel_rfl) ?_
  refine S_list0 (T_storeN (vs := [(vI .i64 0), (vI .i64 0), (vB false)]) rfl rfl z105 rfl (by simp [Value.oneCell']) H46_ 0 rfl (Nat.le_of_ble_eq_true (by rfl)) ?_)
  intro w50_ S52_ H51_
  have S53_ := Same.trans S48_ S52_
  refine wn (hK49_ _ _ ?_)
  refine C_ret ?_
  refine R_any (v := (vA #[(vI .i64 0), (vI .i64 0), (vB false)])) (run_results1 rfl ⟨_, rfl, load_resN underlying105 rfl z105 rfl (vs := [(vI .i64 0), (vI .i64 0), (vB false)]) (Holds.cl_cells H51_ 0 rfl 0 rfl)⟩) ⟨_, rfl, ?_⟩
  refine ⟨⟨Holds.rd H51_ 3 rfl, Holds.rd H51_ 4 rfl, Holds.rd H51_ 5 rfl, Holds.rd H51_ 6 rfl, (Holds.ro_at H51_ 8 rfl)⟩, ?_⟩
  refine A_ready (i := 8) (rs := []) (by kernel_rfl) ?_
  refine AllR.cons ?_ AllR.nil
  have H59_ := ((Holds.bring (Holds.bring (Holds.bring (Holds.bring H51_ 9 rfl) 6 rfl) 8 rfl) 9 rfl) :)
  refine A_op (ls' := #[true, true, true, true, true, true, true, true, true]) rfl (by kernel_rfl) (T_call (al := [(vP (some ⟨t.a, 0, none⟩)), (vI .i64 1), (vA #[(vI .i64 e1.key), (vI .i64 e1.val), (vB true)]), (vA #[(vI .i64 zE.key), (vI .i64 zE.val), (vB false)]), (vB true), (vB false), (Value.func (.func 44) #[] #[(vP (some ⟨ob, 0, none⟩)), (vP (some ⟨pb, 0, none⟩))])]) (pre := [btp r.c t, cl r.c 58 [(vP (some ⟨r.fl, 0, none⟩)), (Value.func (.func 16) #[] #[])], outP ob pb q ([] : List EL)]) rfl (lcons rfl (lcons rfl (lcons rfl (lcons (congrArg (fun l => vA (List.toArray l)) (lcons (congrArg (vI .i64) ((by first | rfl | omega | (simp; done) | (simp; omega)) : 0 = zE.key)) (lcons (congrArg (vI .i64) ((by first | rfl | omega | (simp; done) | (simp; omega)) : 0 = zE.val)) rfl))) rfl)))) cb63 (itA R r.c r.fl z t e1 zE true false false ob pb q ([] : List EL) (hT.1) (hT.2) (hn) (by have hn__ : t.el.length ≤ 100000 := hn; simp only [List.length_nil]; omega)) H59_ ?_)
  rintro v54_ p63_ w60_ ⟨h55_, ok56_, O57_, rfl, rfl, he58_⟩ S62_ H61_
  have S64_ := Same.trans S53_ S62_
  refine ⟨⟨Holds.rd H61_ 7 rfl, Holds.rd H61_ 8 rfl, Holds.rd H61_ 2 rfl, Holds.rd H61_ 9 rfl, (Holds.ro_at H61_ 0 rfl)⟩, ?_⟩
  refine A_done (by kernel_rfl) ?_
  refine R_0 rfl ?_
  have H65_ := ((Holds.bring (Holds.bring (Holds.bring (Holds.bring H61_ 1 rfl) 9 rfl) 3 rfl) 9 rfl) :)
  have H66_ := Holds.t1_in (t := t) H65_
  have H67_ := Holds.pkF H66_ [1, 0, 0] 4
  exact ⟨_, _, rfl, ⟨O57_, rfl, rfl, ((congrArg Prod.fst he58_).symm)⟩, S64_, H67_⟩

set_option maxHeartbeats 1600000 in
theorem btL49 (R : HP) (r : TR) (T : Option (Sigma BT)) (ob pb : Nat) (q : BO)  (hT : tOk T) (hn : (tel T).length ≤ 100000) :
    Tri Try.prog 49 #[(vP (some ⟨r.tb, 0, none⟩)), (Value.func (.func 44) #[] #[(vP (some ⟨ob, 0, none⟩)), (vP (some ⟨pb, 0, none⟩))])] R [treeP r T, outP ob pb q ([] : List EL)] (fun v__ post__ => ∃ (O' : List EL), v__ = (vT #[]) ∧ post__ = [treeP r T, outP ob pb q O'] ∧ (O' = (runA (stD false zE) q.most (selD false zE (tel T)) []).1)) := by
 refine Tri.into (n := 17) (al := [(vP (some ⟨r.tb, 0, none⟩)), (Value.func (.func 44) #[] #[(vP (some ⟨ob, 0, none⟩)), (vP (some ⟨pb, 0, none⟩))])]) func49 rfl ntmps49 rfl rfl fun w F H => ?_
 refine C_seq (fun _ hK1_ => ?_)
 refine cR fun _ hK2_ => ?_
 rcases T with _ | ⟨z, t⟩
 ·skip
  have H3_ : Holds w (ro R :: treeP r none :: outP ob pb q ([] : List EL) :: F) := H
  have H4_ := ((Holds.bring H3_ 1 rfl) :)
  have H5_ := Holds.t0_out H4_
  refine sm (vP (some ⟨r.tb, 0, none⟩)) ?_
  refine sv (v := (vP (some ⟨r.tb, 0, none⟩))) (by kernel_rfl) ?_
  refine sv (v := (vP (some ⟨r.tb, 2, none⟩))) (by kernel_rfl) ?_
  refine sv (v := (vP none)) (x_load1 rfl underlying59 rfl ((Holds.rd H5_ 0 rfl) 2 (vP none) rfl)) ?_
  refine sv (v := (vB true)) (by kernel_rfl) ?_
  refine wn (hK2_ _ _ ?_)
  refine C_condT rfl ?_
  refine C_ret (X_thenR ?_)
  refine R_0r rfl ?_
  have H6_ := Holds.t0_in H5_
  have H7_ := Holds.pkF H6_ [1, 0, 0] 0
  exact ⟨_, _, rfl, ⟨([] : List EL), rfl, rfl, (rfl)⟩, (Same.refl w), H7_⟩
 ·skip
  have H8_ : Holds w (ro R :: treeP r (some ⟨z, t⟩) :: outP ob pb q ([] : List EL) :: F) := H
  have H9_ := ((Holds.bring H8_ 1 rfl) :)
  have H10_ := Holds.t1_out H9_
  refine sm (vP (some ⟨r.tb, 0, none⟩)) ?_
  refine sv (v := (vP (some ⟨r.tb, 0, none⟩))) (by kernel_rfl) ?_
  refine sv (v := (vP (some ⟨r.tb, 2, none⟩))) (by kernel_rfl) ?_
  refine sv (v := (vP (some ⟨t.a, 0, none⟩))) (x_load1 rfl underlying59 rfl ((Holds.rd H10_ 0 rfl) 2 (vP (some ⟨t.a, 0, none⟩)) rfl)) ?_
  refine sv (v := (vB false)) (by kernel_rfl) ?_
  refine wn (hK2_ _ _ ?_)
  refine C_condF rfl ?_
  refine C_skip (X_then (hK1_ _ _ ?_))
  refine A_start (S := fun w => Rd r.tb [(vI .i64 (r.d : Int)), (vI .i64 (List.length t.el : Int)), (vP (some ⟨t.a, 0, none⟩)), (vP (some ⟨r.c, 0, none⟩))] w ∧ Rd r.c [(vP (some ⟨r.fl, 0, none⟩)), (Value.func (.func 16) #[] #[])] w ∧ Rd r.fl [(vS r.fa 0 r.fc)] w ∧ Sub R (hp w)) (N := 8) foll rfl rfl ?_
  have H11_ := Holds.drew_ H10_
  have hq12_ := And.intro (Holds.rd H11_ 0 rfl) (And.intro (Holds.rd H11_ 1 rfl) (And.intro (Holds.rd H11_ 2 rfl) ((Holds.ro_at H11_ 4 rfl))))
  refine A_tk 0 (v := (vP (some ⟨r.tb, 0, none⟩))) rfl (by kernel_rfl) (fun w hS => x_move rfl) hq12_ ?_
  refine A_tk 1 (v := (vP (some ⟨r.tb, 0, none⟩))) rfl (by kernel_rfl) (fun w hS => by kernel_rfl) hq12_ ?_
  refine A_tk 2 (v := (vP (some ⟨r.tb, 2, none⟩))) rfl (by kernel_rfl) (fun w hS => by kernel_rfl) hq12_ ?_
  refine A_tk 3 (v := (vP (some ⟨t.a, 0, none⟩))) rfl (by kernel_rfl) (fun w hS => x_load1 rfl underlying59 rfl (hS.1 2 (vP (some ⟨t.a, 0, none⟩)) rfl)) hq12_ ?_
  refine A_tk 6 (v := (Value.func (.func 44) #[] #[(vP (some ⟨ob, 0, none⟩)), (vP (some ⟨pb, 0, none⟩))])) rfl (by kernel_rfl) (fun w hS => x_move rfl) hq12_ ?_
  refine A_ready (i := 4) (rs := []) (by kernel_rfl) ?_
  refine AllR.cons ?_ AllR.nil
  refine A_op (ls' := #[true, true, true, true, true, false, true, false]) rfl (by kernel_rfl) (T_callW (al := []) rfl rfl cb64 (Calls.into (n := 2) func64 rfl ntmps64 rfl rfl ?_))
  refine cR fun _ hK13_ => ?_
  refine S_list (T_alloc z105 H11_ ?_)
  intro b14_ w15_ S17_ H16_
  have S18_ := Same.trans (Same.trans (Same.refl w) (Same.drew _)) S17_
  refine wn (hK13_ _ _ ?_)
  refine cR fun _ hK19_ => ?_
  refine sv (v := (vA #[(vI .i64 0), (vI .i64 0), (vB false)])) (by kernel_rfl) ?_
  refine S_list0 (T_storeN (vs := [(vI .i64 0), (vI .i64 0), (vB false)]) rfl rfl z105 rfl (by simp [Value.oneCell']) H16_ 0 rfl (Nat.le_of_ble_eq_true (by rfl)) ?_)
  intro w20_ S22_ H21_
  have S23_ := Same.trans S18_ S22_
  refine wn (hK19_ _ _ ?_)
  refine C_ret ?_
  refine R_any (v := (vA #[(vI .i64 0), (vI .i64 0), (vB false)])) (run_results1 rfl ⟨_, rfl, load_resN underlying105 rfl z105 rfl (vs := [(vI .i64 0), (vI .i64 0), (vB false)]) (Holds.cl_cells H21_ 0 rfl 0 rfl)⟩) ⟨_, rfl, ?_⟩
  refine ⟨⟨Holds.rd H21_ 1 rfl, Holds.rd H21_ 2 rfl, Holds.rd H21_ 3 rfl, (Holds.ro_at H21_ 5 rfl)⟩, ?_⟩
  refine A_ready (i := 5) (rs := []) (by kernel_rfl) ?_
  refine AllR.cons ?_ AllR.nil
  refine A_op (ls' := #[true, true, true, true, true, true, true, false]) rfl (by kernel_rfl) (T_callW (al := []) rfl rfl cb64 (Calls.into (n := 2) func64 rfl ntmps64 rfl rfl ?_))
  refine cR fun _ hK24_ => ?_
  refine S_list (T_alloc z105 H21_ ?_)
  intro b25_ w26_ S28_ H27_
  have S29_ := Same.trans S23_ S28_
  refine wn (hK24_ _ _ ?_)
  refine cR fun _ hK30_ => ?_
  refine sv (v := (vA #[(vI .i64 0), (vI .i64 0), (vB false)])) (by kernel_rfl) ?_
  refine S_list0 (T_storeN (vs := [(vI .i64 0), (vI .i64 0), (vB false)]) rfl rfl z105 rfl (by simp [Value.oneCell']) H27_ 0 rfl (Nat.le_of_ble_eq_true (by rfl)) ?_)
  intro w31_ S33_ H32_
  have S34_ := Same.trans S29_ S33_
  refine wn (hK30_ _ _ ?_)
  refine C_ret ?_
  refine R_any (v := (vA #[(vI .i64 0), (vI .i64 0), (vB false)])) (run_results1 rfl ⟨_, rfl, load_resN underlying105 rfl z105 rfl (vs := [(vI .i64 0), (vI .i64 0), (vB false)]) (Holds.cl_cells H32_ 0 rfl 0 rfl)⟩) ⟨_, rfl, ?_⟩
  refine ⟨⟨Holds.rd H32_ 2 rfl, Holds.rd H32_ 3 rfl, Holds.rd H32_ 4 rfl, (Holds.ro_at H32_ 6 rfl)⟩, ?_⟩
  refine A_ready (i := 7) (rs := []) (by kernel_rfl) ?_
  refine AllR.cons ?_ AllR.nil
  have H40_ := ((Holds.bring (Holds.bring (Holds.bring (Holds.bring H32_ 7 rfl) 4 rfl) 6 rfl) 7 rfl) :)
  refine A_op (ls' := #[true, true, true, true, true, true, true, true]) rfl (by kernel_rfl) (T_call (al := [(vP (some ⟨t.a, 0, none⟩)), (vI .i64 (-1)), (vA #[(vI .i64 zE.key), (vI .i64 zE.val), (vB false)]), (vA #[(vI .i64 zE.key), (vI .i64 zE.val), (vB false)]), (vB false), (vB false), (Value.func (.func 44) #[] #[(vP (some ⟨ob, 0, none⟩)), (vP (some ⟨pb, 0, none⟩))])]) (pre := [btp r.c t, cl r.c 58 [(vP (some ⟨r.fl, 0, none⟩)), (Value.func (.func 16) #[] #[])], outP ob pb q ([] : List EL)]) rfl (lcons rfl (lcons rfl (lcons (congrArg (fun l => vA (List.toArray l)) (lcons (congrArg (vI .i64) ((by first | rfl | omega | (simp; done) | (simp; omega)) : 0 = zE.key)) (lcons (congrArg (vI .i64) ((by first | rfl | omega | (simp; done) | (simp; omega)) : 0 = zE.val)) rfl))) (lcons (congrArg (fun l => vA (List.toArray l)) (lcons (congrArg (vI .i64) ((by first | rfl | omega | (simp; done) | (simp; omega)) : 0 = zE.key)) (lcons (congrArg (vI .i64) ((by first | rfl | omega | (simp; done) | (simp; omega)) : 0 = zE.val)) rfl))) rfl)))) cb63 (itD R r.c r.fl z t zE zE false false false ob pb q ([] : List EL) (hT.1) (hT.2) (hn) (by have hn__ : t.el.length ≤ 100000 := hn; simp only [List.length_nil]; omega) (fun h__ => by cases h__)) H40_ ?_)
  rintro v35_ p44_ w41_ ⟨h36_, ok37_, O38_, rfl, rfl, he39_⟩ S43_ H42_
  have S45_ := Same.trans S34_ S43_
  refine ⟨⟨Holds.rd H42_ 6 rfl, Holds.rd H42_ 2 rfl, Holds.rd H42_ 7 rfl, (Holds.ro_at H42_ 0 rfl)⟩, ?_⟩
  refine A_done (by kernel_rfl) ?_
  refine R_0 rfl ?_
  have H46_ := ((Holds.bring (Holds.bring (Holds.bring (Holds.bring H42_ 1 rfl) 7 rfl) 3 rfl) 7 rfl) :)
  have H47_ := Holds.t1_in (t := t) H46_
  have H48_ := Holds.pkF H47_ [1, 0, 0] 2
  exact ⟨_, _, rfl, ⟨O38_, rfl, rfl, ((congrArg Prod.fst he39_).symm)⟩, S45_, H48_⟩

set_option maxHeartbeats 1600000 in
theorem btL50 (R : HP) (r : TR) (T : Option (Sigma BT)) (ob pb : Nat) (q : BO) (e1 : EL) (e2 : EL)  (hT : tOk T) (hn : (tel T).length ≤ 100000) :
    Tri Try.prog 50 #[(vP (some ⟨r.tb, 0, none⟩)), (vA #[(vI .i64 e1.key), (vI .i64 e1.val)]), (vA #[(vI .i64 e2.key), (vI .i64 e2.val)]), (Value.func (.func 44) #[] #[(vP (some ⟨ob, 0, none⟩)), (vP (some ⟨pb, 0, none⟩))])] R [treeP r T, outP ob pb q ([] : List EL)] (fun v__ post__ => ∃ (O' : List EL), v__ = (vT #[]) ∧ post__ = [treeP r T, outP ob pb q O'] ∧ (O' = (runA (stD true e2) q.most (selD true e1 (tel T)) []).1)) := by
 refine Tri.into (n := 23) (al := [(vP (some ⟨r.tb, 0, none⟩)), (vA #[(vI .i64 e1.key), (vI .i64 e1.val)]), (vA #[(vI .i64 e2.key), (vI .i64 e2.val)]), (Value.func (.func 44) #[] #[(vP (some ⟨ob, 0, none⟩)), (vP (some ⟨pb, 0, none⟩))])]) func50 rfl ntmps50 rfl rfl fun w F H => ?_
 refine cR fun _ hK1_ => ?_
 rcases T with _ | ⟨z, t⟩
 ·skip
  have H2_ : Holds w (ro R :: treeP r none :: outP ob pb q ([] : List EL) :: F) := H
  have H3_ := ((Holds.bring H2_ 1 rfl) :)
  have H4_ := Holds.t0_out H3_
  refine S_list (T_box (v := (vA #[(vI .i64 e1.key), (vI .i64 e1.val)])) rfl H4_ ?_)
  intro b5_ w6_ S8_ H7_
  have S9_ := Same.trans (Same.refl w) S8_
  refine S_list (T_box (v := (vA #[(vI .i64 e2.key), (vI .i64 e2.val)])) rfl H7_ ?_)
  intro b10_ w11_ S13_ H12_
  have S14_ := Same.trans S9_ S13_
  refine wn (hK1_ _ _ ?_)
  refine C_seq (fun _ hK15_ => ?_)
  refine cR fun _ hK16_ => ?_
  refine sm (vP (some ⟨r.tb, 0, none⟩)) ?_
  refine sv (v := (vP (some ⟨r.tb, 0, none⟩))) (by kernel_rfl) ?_
  refine sv (v := (vP (some ⟨r.tb, 2, none⟩))) (by kernel_rfl) ?_
  refine sv (v := (vP none)) (x_load1 rfl underlying59 rfl ((Holds.rd H12_ 2 rfl) 2 (vP none) rfl)) ?_
  refine sv (v := (vB true)) (by kernel_rfl) ?_
  refine wn (hK16_ _ _ ?_)
  refine C_condT rfl ?_
  refine C_ret (X_thenR ?_)
  refine R_0r rfl ?_
  have H17_ := ((Holds.bring (Holds.bring (Holds.bring H12_ 4 rfl) 4 rfl) 4 rfl) :)
  have H18_ := Holds.t0_in H17_
  have H19_ := Holds.pkF H18_ [3, 0, 2] 2
  exact ⟨_, _, rfl, ⟨([] : List EL), rfl, rfl, (rfl)⟩, S14_, H19_⟩
 ·skip
  have H20_ : Holds w (ro R :: treeP r (some ⟨z, t⟩) :: outP ob pb q ([] : List EL) :: F) := H
  have H21_ := ((Holds.bring H20_ 1 rfl) :)
  have H22_ := Holds.t1_out H21_
  refine S_list (T_box (v := (vA #[(vI .i64 e1.key), (vI .i64 e1.val)])) rfl H22_ ?_)
  intro b23_ w24_ S26_ H25_
  have S27_ := Same.trans (Same.refl w) S26_
  refine S_list (T_box (v := (vA #[(vI .i64 e2.key), (vI .i64 e2.val)])) rfl H25_ ?_)
  intro b28_ w29_ S31_ H30_
  have S32_ := Same.trans S27_ S31_
  refine wn (hK1_ _ _ ?_)
  refine C_seq (fun _ hK33_ => ?_)
  refine cR fun _ hK34_ => ?_
  refine sm (vP (some ⟨r.tb, 0, none⟩)) ?_
  refine sv (v := (vP (some ⟨r.tb, 0, none⟩))) (by kernel_rfl) ?_
  refine sv (v := (vP (some ⟨r.tb, 2, none⟩))) (by kernel_rfl) ?_
  refine sv (v := (vP (some ⟨t.a, 0, none⟩))) (x_load1 rfl underlying59 rfl ((Holds.rd H30_ 2 rfl) 2 (vP (some ⟨t.a, 0, none⟩)) rfl)) ?_
  refine sv (v := (vB false)) (by kernel_rfl) ?_
  refine wn (hK34_ _ _ ?_)
  refine C_condF rfl ?_
  refine C_skip (X_then (hK33_ _ _ ?_))
  refine A_start (S := fun w => Rd b28_ [(vI .i64 e2.key), (vI .i64 e2.val)] w ∧ Rd b23_ [(vI .i64 e1.key), (vI .i64 e1.val)] w ∧ Rd r.tb [(vI .i64 (r.d : Int)), (vI .i64 (List.length t.el : Int)), (vP (some ⟨t.a, 0, none⟩)), (vP (some ⟨r.c, 0, none⟩))] w ∧ Rd r.c [(vP (some ⟨r.fl, 0, none⟩)), (Value.func (.func 16) #[] #[])] w ∧ Rd r.fl [(vS r.fa 0 r.fc)] w ∧ Sub R (hp w)) (N := 10) foll rfl rfl ?_
  have H35_ := Holds.drew_ H30_
  have hq36_ := And.intro (Holds.rd H35_ 0 rfl) (And.intro (Holds.rd H35_ 1 rfl) (And.intro (Holds.rd H35_ 2 rfl) (And.intro (Holds.rd H35_ 3 rfl) (And.intro (Holds.rd H35_ 4 rfl) ((Holds.ro_at H35_ 6 rfl))))))
  refine A_tk 0 (v := (vP (some ⟨r.tb, 0, none⟩))) rfl (by kernel_rfl) (fun w hS => x_move rfl) hq36_ ?_
  refine A_tk 1 (v := (vP (some ⟨r.tb, 0, none⟩))) rfl (by kernel_rfl) (fun w hS => by kernel_rfl) hq36_ ?_
  refine A_tk 2 (v := (vP (some ⟨r.tb, 2, none⟩))) rfl (by kernel_rfl) (fun w hS => by kernel_rfl) hq36_ ?_
  refine A_tk 3 (v := (vP (some ⟨t.a, 0, none⟩))) rfl (by kernel_rfl) (fun w hS => x_load1 rfl underlying59 rfl (hS.2.2.1 2 (vP (some ⟨t.a, 0, none⟩)) rfl)) hq36_ ?_
  refine A_tk 4 (v := (vA #[(vI .i64 e1.key), (vI .i64 e1.val)])) rfl (by kernel_rfl) (fun w hS => x_loadN (vs := [(vI .i64 e1.key), (vI .i64 e1.val)]) rfl underlying24 rfl z24 rfl (Rd.cells hS.2.1 0 rfl)) hq36_ ?_
  refine A_tk 6 (v := (vA #[(vI .i64 e2.key), (vI .i64 e2.val)])) rfl (by kernel_rfl) (fun w hS => x_loadN (vs := [(vI .i64 e2.key), (vI .i64 e2.val)]) rfl underlying24 rfl z24 rfl (Rd.cells hS.1 0 rfl)) hq36_ ?_
  refine A_tk 8 (v := (Value.func (.func 44) #[] #[(vP (some ⟨ob, 0, none⟩)), (vP (some ⟨pb, 0, none⟩))])) rfl (by kernel_rfl) (fun w hS => x_move rfl) hq36_ ?_
  refine A_ready (i := 5) (rs := []) (by kernel_rfl) ?_
  refine AllR.cons ?_ AllR.nil
  refine A_op (ls' := #[true, true, true, true, true, true, true, false, true, false]) rfl (by kernel_rfl) (T_callW (al := [(vA #[(vI .i64 e1.key), (vI .i64 e1.val)])]) rfl rfl cb65 (Calls.into (n := 5) func65 rfl ntmps65 rfl rfl ?_))
  refine cR fun _ hK37_ => ?_
  refine S_list (T_box (v := (vA #[(vI .i64 e1.key), (vI .i64 e1.val)])) rfl H35_ ?_)
  intro b38_ w39_ S41_ H40_
  have S42_ := Same.trans (Same.trans S32_ (Same.drew _)) S41_
  refine S_list (T_alloc z105 H40_ ?_)
  intro b43_ w44_ S46_ H45_
  have S47_ := Same.trans S42_ S46_
  refine wn (hK37_ _ _ ?_)
  refine cR fun _ hK48_ => ?_
  refine sv (v := (vA #[(vI .i64 e1.key), (vI .i64 e1.val)])) (x_loadN (vs := [(vI .i64 e1.key), (vI .i64 e1.val)]) rfl underlying24 rfl z24 rfl (Rd.cells (Holds.rd H45_ 1 rfl) 0 rfl)) ?_
  refine sv (v := (vA #[(vI .i64 e1.key), (vI .i64 e1.val), (vB true)])) (by kernel_rfl) ?_
  refine S_list0 (T_storeN (vs := [(vI .i64 e1.key), (vI .i64 e1.val), (vB true)]) rfl rfl z105 rfl (by simp [Value.oneCell']) H45_ 0 rfl (Nat.le_of_ble_eq_true (by rfl)) ?_)
  intro w49_ S51_ H50_
  have S52_ := Same.trans S47_ S51_
  refine wn (hK48_ _ _ ?_)
  refine C_ret ?_
  refine R_any (v := (vA #[(vI .i64 e1.key), (vI .i64 e1.val), (vB true)])) (run_results1 rfl ⟨_, rfl, load_resN underlying105 rfl z105 rfl (vs := [(vI .i64 e1.key), (vI .i64 e1.val), (vB true)]) (Holds.cl_cells H50_ 0 rfl 0 rfl)⟩) ⟨_, rfl, ?_⟩
  refine ⟨⟨Holds.rd H50_ 2 rfl, Holds.rd H50_ 3 rfl, Holds.rd H50_ 4 rfl, Holds.rd H50_ 5 rfl, Holds.rd H50_ 6 rfl, (Holds.ro_at H50_ 8 rfl)⟩, ?_⟩
  refine A_ready (i := 7) (rs := []) (by kernel_rfl) ?_
  refine AllR.cons ?_ AllR.nil
  refine A_op (ls' := #[true, true, true, true, true, true, true, true, true, false]) rfl (by kernel_rfl) (T_callW (al := [(vA #[(vI .i64 e2.key), (vI .i64 e2.val)])]) rfl rfl cb65 (Calls.into (n := 5) func65 rfl ntmps65 rfl rfl ?_))
  refine cR fun _ hK53_ => ?_
  refine S_list (T_box (v := (vA #[(vI .i64 e2.key), (vI .i64 e2.val)])) rfl H50_ ?_)
  intro b54_ w55_ S57_ H56_
  have S58_ := Same.trans S52_ S57_
  refine S_list (T_alloc z105 H56_ ?_)
  intro b59_ w60_ S62_ H61_
  have S63_ := Same.trans S58_ S62_
  refine wn (hK53_ _ _ ?_)
  refine cR fun _ hK64_ => ?_
  refine sv (v := (vA #[(vI .i64 e2.key), (vI .i64 e2.val)])) (x_loadN (vs := [(vI .i64 e2.key), (vI .i64 e2.val)]) rfl underlying24 rfl z24 rfl (Rd.cells (Holds.rd H61_ 1 rfl) 0 rfl)) ?_
  refine sv (v := (vA #[(vI .i64 e2.key), (vI .i64 e2.val), (vB true)])) (by kernel_rfl) ?_
  refine S_list0 (T_storeN (vs := [(vI .i64 e2.key), (vI .i64 e2.val), (vB true)]) rfl rfl z105 rfl (by simp [Value.oneCell']) H61_ 0 rfl (Nat.le_of_ble_eq_true (by rfl)) ?_)
  intro w65_ S67_ H66_
  have S68_ := Same.trans S63_ S67_
  refine wn (hK64_ _ _ ?_)
  refine C_ret ?_
  refine R_any (v := (vA #[(vI .i64 e2.key), (vI .i64 e2.val), (vB true)])) (run_results1 rfl ⟨_, rfl, load_resN underlying105 rfl z105 rfl (vs := [(vI .i64 e2.key), (vI .i64 e2.val), (vB true)]) (Holds.cl_cells H66_ 0 rfl 0 rfl)⟩) ⟨_, rfl, ?_⟩
  refine ⟨⟨Holds.rd H66_ 4 rfl, Holds.rd H66_ 5 rfl, Holds.rd H66_ 6 rfl, Holds.rd H66_ 7 rfl, Holds.rd H66_ 8 rfl, (Holds.ro_at H66_ 10 rfl)⟩, ?_⟩
  refine A_ready (i := 9) (rs := []) (by kernel_rfl) ?_
  refine AllR.cons ?_ AllR.nil
  have H74_ := ((Holds.bring (Holds.bring (Holds.bring (Holds.bring H66_ 11 rfl) 8 rfl) 10 rfl) 11 rfl) :)
  refine A_op (ls' := #[true, true, true, true, true, true, true, true, true, true]) rfl (by kernel_rfl) (T_call (al := [(vP (some ⟨t.a, 0, none⟩)), (vI .i64 (-1)), (vA #[(vI .i64 e1.key), (vI .i64 e1.val), (vB true)]), (vA #[(vI .i64 e2.key), (vI .i64 e2.val), (vB true)]), (vB true), (vB false), (Value.func (.func 44) #[] #[(vP (some ⟨ob, 0, none⟩)), (vP (some ⟨pb, 0, none⟩))])]) (pre := [btp r.c t, cl r.c 58 [(vP (some ⟨r.fl, 0, none⟩)), (Value.func (.func 16) #[] #[])], outP ob pb q ([] : List EL)]) rfl rfl cb63 (itD R r.c r.fl z t e1 e2 true true false ob pb q ([] : List EL) (hT.1) (hT.2) (hn) (by have hn__ : t.el.length ≤ 100000 := hn; simp only [List.length_nil]; omega) (fun h__ => by cases h__)) H74_ ?_)
  rintro v69_ p78_ w75_ ⟨h70_, ok71_, O72_, rfl, rfl, he73_⟩ S77_ H76_
  have S79_ := Same.trans S68_ S77_
  refine ⟨⟨Holds.rd H76_ 8 rfl, Holds.rd H76_ 9 rfl, Holds.rd H76_ 10 rfl, Holds.rd H76_ 2 rfl, Holds.rd H76_ 11 rfl, (Holds.ro_at H76_ 0 rfl)⟩, ?_⟩
  refine A_done (by kernel_rfl) ?_
  refine R_0 rfl ?_
  have H80_ := ((Holds.bring (Holds.bring (Holds.bring (Holds.bring H76_ 1 rfl) 11 rfl) 3 rfl) 11 rfl) :)
  have H81_ := Holds.t1_in (t := t) H80_
  have H82_ := Holds.pkF H81_ [1, 0, 0] 6
  exact ⟨_, _, rfl, ⟨O72_, rfl, rfl, ((congrArg Prod.fst he73_).symm)⟩, S79_, H82_⟩

set_option maxHeartbeats 1600000 in
theorem btL51 (R : HP) (r : TR) (T : Option (Sigma BT)) (ob pb : Nat) (q : BO) (e1 : EL)  (hT : tOk T) (hn : (tel T).length ≤ 100000) :
    Tri Try.prog 51 #[(vP (some ⟨r.tb, 0, none⟩)), (vA #[(vI .i64 e1.key), (vI .i64 e1.val)]), (Value.func (.func 44) #[] #[(vP (some ⟨ob, 0, none⟩)), (vP (some ⟨pb, 0, none⟩))])] R [treeP r T, outP ob pb q ([] : List EL)] (fun v__ post__ => ∃ (O' : List EL), v__ = (vT #[]) ∧ post__ = [treeP r T, outP ob pb q O'] ∧ (O' = (runA (stD false zE) q.most (selD true e1 (tel T)) []).1)) := by
 refine Tri.into (n := 20) (al := [(vP (some ⟨r.tb, 0, none⟩)), (vA #[(vI .i64 e1.key), (vI .i64 e1.val)]), (Value.func (.func 44) #[] #[(vP (some ⟨ob, 0, none⟩)), (vP (some ⟨pb, 0, none⟩))])]) func51 rfl ntmps51 rfl rfl fun w F H => ?_
 refine cR fun _ hK1_ => ?_
 rcases T with _ | ⟨z, t⟩
 ·skip
  have H2_ : Holds w (ro R :: treeP r none :: outP ob pb q ([] : List EL) :: F) := H
  have H3_ := ((Holds.bring H2_ 1 rfl) :)
  have H4_ := Holds.t0_out H3_
  refine S_list (T_box (v := (vA #[(vI .i64 e1.key), (vI .i64 e1.val)])) rfl H4_ ?_)
  intro b5_ w6_ S8_ H7_
  have S9_ := Same.trans (Same.refl w) S8_
  refine wn (hK1_ _ _ ?_)
  refine C_seq (fun _ hK10_ => ?_)
  refine cR fun _ hK11_ => ?_
  refine sm (vP (some ⟨r.tb, 0, none⟩)) ?_
  refine sv (v := (vP (some ⟨r.tb, 0, none⟩))) (by kernel_rfl) ?_
  refine sv (v := (vP (some ⟨r.tb, 2, none⟩))) (by kernel_rfl) ?_
  refine sv (v := (vP none)) (x_load1 rfl underlying59 rfl ((Holds.rd H7_ 1 rfl) 2 (vP none) rfl)) ?_
  refine sv (v := (vB true)) (by kernel_rfl) ?_
  refine wn (hK11_ _ _ ?_)
  refine C_condT rfl ?_
  refine C_ret (X_thenR ?_)
  refine R_0r rfl ?_
  have H12_ := ((Holds.bring (Holds.bring (Holds.bring H7_ 3 rfl) 3 rfl) 3 rfl) :)
  have H13_ := Holds.t0_in H12_
  have H14_ := Holds.pkF H13_ [2, 0, 1] 1
  exact ⟨_, _, rfl, ⟨([] : List EL), rfl, rfl, (rfl)⟩, S9_, H14_⟩
 ·skip
  have H15_ : Holds w (ro R :: treeP r (some ⟨z, t⟩) :: outP ob pb q ([] : List EL) :: F) := H
  have H16_ := ((Holds.bring H15_ 1 rfl) :)
  have H17_ := Holds.t1_out H16_
  refine S_list (T_box (v := (vA #[(vI .i64 e1.key), (vI .i64 e1.val)])) rfl H17_ ?_)
  intro b18_ w19_ S21_ H20_
  have S22_ := Same.trans (Same.refl w) S21_
  refine wn (hK1_ _ _ ?_)
  refine C_seq (fun _ hK23_ => ?_)
  refine cR fun _ hK24_ => ?_
  refine sm (vP (some ⟨r.tb, 0, none⟩)) ?_
  refine sv (v := (vP (some ⟨r.tb, 0, none⟩))) (by kernel_rfl) ?_
  refine sv (v := (vP (some ⟨r.tb, 2, none⟩))) (by kernel_rfl) ?_
  refine sv (v := (vP (some ⟨t.a, 0, none⟩))) (x_load1 rfl underlying59 rfl ((Holds.rd H20_ 1 rfl) 2 (vP (some ⟨t.a, 0, none⟩)) rfl)) ?_
  refine sv (v := (vB false)) (by kernel_rfl) ?_
  refine wn (hK24_ _ _ ?_)
  refine C_condF rfl ?_
  refine C_skip (X_then (hK23_ _ _ ?_))
  refine A_start (S := fun w => Rd b18_ [(vI .i64 e1.key), (vI .i64 e1.val)] w ∧ Rd r.tb [(vI .i64 (r.d : Int)), (vI .i64 (List.length t.el : Int)), (vP (some ⟨t.a, 0, none⟩)), (vP (some ⟨r.c, 0, none⟩))] w ∧ Rd r.c [(vP (some ⟨r.fl, 0, none⟩)), (Value.func (.func 16) #[] #[])] w ∧ Rd r.fl [(vS r.fa 0 r.fc)] w ∧ Sub R (hp w)) (N := 9) foll rfl rfl ?_
  have H25_ := Holds.drew_ H20_
  have hq26_ := And.intro (Holds.rd H25_ 0 rfl) (And.intro (Holds.rd H25_ 1 rfl) (And.intro (Holds.rd H25_ 2 rfl) (And.intro (Holds.rd H25_ 3 rfl) ((Holds.ro_at H25_ 5 rfl)))))
  refine A_tk 0 (v := (vP (some ⟨r.tb, 0, none⟩))) rfl (by kernel_rfl) (fun w hS => x_move rfl) hq26_ ?_
  refine A_tk 1 (v := (vP (some ⟨r.tb, 0, none⟩))) rfl (by kernel_rfl) (fun w hS => by kernel_rfl) hq26_ ?_
  refine A_tk 2 (v := (vP (some ⟨r.tb, 2, none⟩))) rfl (by kernel_rfl) (fun w hS => by kernel_rfl) hq26_ ?_
  refine A_tk 3 (v := (vP (some ⟨t.a, 0, none⟩))) rfl (by kernel_rfl) (fun w hS => x_load1 rfl underlying59 rfl (hS.2.1 2 (vP (some ⟨t.a, 0, none⟩)) rfl)) hq26_ ?_
  refine A_tk 4 (v := (vA #[(vI .i64 e1.key), (vI .i64 e1.val)])) rfl (by kernel_rfl) (fun w hS => x_loadN (vs := [(vI .i64 e1.key), (vI .i64 e1.val)]) rfl underlying24 rfl z24 rfl (Rd.cells hS.1 0 rfl)) hq26_ ?_
  refine A_tk 7 (v := (Value.func (.func 44) #[] #[(vP (some ⟨ob, 0, none⟩)), (vP (some ⟨pb, 0, none⟩))])) rfl (by kernel_rfl) (fun w hS => x_move rfl) hq26_ ?_
  refine A_ready (i := 5) (rs := []) (by kernel_rfl) ?_
  refine AllR.cons ?_ AllR.nil
  refine A_op (ls' := #[true, true, true, true, true, true, false, true, false]) rfl (by kernel_rfl) (T_callW (al := [(vA #[(vI .i64 e1.key), (vI .i64 e1.val)])]) rfl rfl cb65 (Calls.into (n := 5) func65 rfl ntmps65 rfl rfl ?_))
  refine cR fun _ hK27_ => ?_
  refine S_list (T_box (v := (vA #[(vI .i64 e1.key), (vI .i64 e1.val)])) rfl H25_ ?_)
  intro b28_ w29_ S31_ H30_
  have S32_ := Same.trans (Same.trans S22_ (Same.drew _)) S31_
  refine S_list (T_alloc z105 H30_ ?_)
  intro b33_ w34_ S36_ H35_
  have S37_ := Same.trans S32_ S36_
  refine wn (hK27_ _ _ ?_)
  refine cR fun _ hK38_ => ?_
  refine sv (v := (vA #[(vI .i64 e1.key), (vI .i64 e1.val)])) (x_loadN (vs := [(vI .i64 e1.key), (vI .i64 e1.val)]) rfl underlying24 rfl z24 rfl (Rd.cells (Holds.rd H35_ 1 rfl) 0 rfl)) ?_
  refine sv (v := (vA #[(vI .i64 e1.key), (vI .i64 e1.val), (vB true)])) (by kernel_rfl) ?_
  refine S_list0 (T_storeN (vs := [(vI .i64 e1.key), (vI .i64 e1.val), (vB true)]) rfl rfl z105 rfl (by simp [Value.oneCell']) H35_ 0 rfl (Nat.le_of_ble_eq_true (by rfl)) ?_)
  intro w39_ S41_ H40_
  have S42_ := Same.trans S37_ S41_
  refine wn (hK38_ _ _ ?_)
  refine C_ret ?_
  refine R_any (v := (vA #[(vI .i64 e1.key), (vI .i64 e1.val), (vB true)])) (run_results1 rfl ⟨_, rfl, load_resN underlying105 rfl z105 rfl (vs := [(vI .i64 e1.key), (vI .i64 e1.val), (vB true)]) (Holds.cl_cells H40_ 0 rfl 0 rfl)⟩) ⟨_, rfl, ?_⟩
  refine ⟨⟨Holds.rd H40_ 2 rfl, Holds.rd H40_ 3 rfl, Holds.rd H40_ 4 rfl, Holds.rd H40_ 5 rfl, (Holds.ro_at H40_ 7 rfl)⟩, ?_⟩
  refine A_ready (i := 6) (rs := []) (by kernel_rfl) ?_
  refine AllR.cons ?_ AllR.nil
  refine A_op (ls' := #[true, true, true, true, true, true, true, true, false]) rfl (by kernel_rfl) (T_callW (al := []) rfl rfl cb64 (Calls.into (n := 2) func64 rfl ntmps64 rfl rfl ?_))
  refine cR fun _ hK43_ => ?_
  refine S_list (T_alloc z105 H40_ ?_)
  intro b44_ w45_ S47_ H46_
  have S48_ := Same.trans S42_ S47_
  refine wn (hK43_ _ _ ?_)
  refine cR fun _ hK49_ => ?_
  refine sv (v := (vA #[(vI .i64 0), (vI .i64 0), (vB false)])) (by kernel_rfl) ?_
  refine S_list0 (T_storeN (vs := [(vI .i64 0), (vI .i64 0), (vB false)]) rfl rfl z105 rfl (by simp [Value.oneCell']) H46_ 0 rfl (Nat.le_of_ble_eq_true (by rfl)) ?_)
  intro w50_ S52_ H51_
  have S53_ := Same.trans S48_ S52_
  refine wn (hK49_ _ _ ?_)
  refine C_ret ?_
  refine R_any (v := (vA #[(vI .i64 0), (vI .i64 0), (vB false)])) (run_results1 rfl ⟨_, rfl, load_resN underlying105 rfl z105 rfl (vs := [(vI .i64 0), (vI .i64 0), (vB false)]) (Holds.cl_cells H51_ 0 rfl 0 rfl)⟩) ⟨_, rfl, ?_⟩
  refine ⟨⟨Holds.rd H51_ 3 rfl, Holds.rd H51_ 4 rfl, Holds.rd H51_ 5 rfl, Holds.rd H51_ 6 rfl, (Holds.ro_at H51_ 8 rfl)⟩, ?_⟩
  refine A_ready (i := 8) (rs := []) (by kernel_rfl) ?_
  refine AllR.cons ?_ AllR.nil
  have H59_ := ((Holds.bring (Holds.bring (Holds.bring (Holds.bring H51_ 9 rfl) 6 rfl) 8 rfl) 9 rfl) :)
  refine A_op (ls' := #[true, true, true, true, true, true, true, true, true]) rfl (by kernel_rfl) (T_call (al := [(vP (some ⟨t.a, 0, none⟩)), (vI .i64 (-1)), (vA #[(vI .i64 e1.key), (vI .i64 e1.val), (vB true)]), (vA #[(vI .i64 zE.key), (vI .i64 zE.val), (vB false)]), (vB true), (vB false), (Value.func (.func 44) #[] #[(vP (some ⟨ob, 0, none⟩)), (vP (some ⟨pb, 0, none⟩))])]) (pre := [btp r.c t, cl r.c 58 [(vP (some ⟨r.fl, 0, none⟩)), (Value.func (.func 16) #[] #[])], outP ob pb q ([] : List EL)]) rfl (lcons rfl (lcons rfl (lcons rfl (lcons (congrArg (fun l => vA (List.toArray l)) (lcons (congrArg (vI .i64) ((by first | rfl | omega | (simp; done) | (simp; omega)) : 0 = zE.key)) (lcons (congrArg (vI .i64) ((by first | rfl | omega | (simp; done) | (simp; omega)) : 0 = zE.val)) rfl))) rfl)))) cb63 (itD R r.c r.fl z t e1 zE true false false ob pb q ([] : List EL) (hT.1) (hT.2) (hn) (by have hn__ : t.el.length ≤ 100000 := hn; simp only [List.length_nil]; omega) (fun h__ => by cases h__)) H59_ ?_)
  rintro v54_ p63_ w60_ ⟨h55_, ok56_, O57_, rfl, rfl, he58_⟩ S62_ H61_
  have S64_ := Same.trans S53_ S62_
  refine ⟨⟨Holds.rd H61_ 7 rfl, Holds.rd H61_ 8 rfl, Holds.rd H61_ 2 rfl, Holds.rd H61_ 9 rfl, (Holds.ro_at H61_ 0 rfl)⟩, ?_⟩
  refine A_done (by kernel_rfl) ?_
  refine R_0 rfl ?_
  have H65_ := ((Holds.bring (Holds.bring (Holds.bring (Holds.bring H61_ 1 rfl) 9 rfl) 3 rfl) 9 rfl) :)
  have H66_ := Holds.t1_in (t := t) H65_
  have H67_ := Holds.pkF H66_ [1, 0, 0] 4
  exact ⟨_, _, rfl, ⟨O57_, rfl, rfl, ((congrArg Prod.fst he58_).symm)⟩, S64_, H67_⟩

set_option maxHeartbeats 1600000 in
theorem btL52 (R : HP) (r : TR) (T : Option (Sigma BT)) (ob pb : Nat) (q : BO) (e1 : EL)  (hT : tOk T) (hn : (tel T).length ≤ 100000) :
    Tri Try.prog 52 #[(vP (some ⟨r.tb, 0, none⟩)), (vA #[(vI .i64 e1.key), (vI .i64 e1.val)]), (Value.func (.func 44) #[] #[(vP (some ⟨ob, 0, none⟩)), (vP (some ⟨pb, 0, none⟩))])] R [treeP r T, outP ob pb q ([] : List EL)] (fun v__ post__ => ∃ (O' : List EL), v__ = (vT #[]) ∧ post__ = [treeP r T, outP ob pb q O'] ∧ (O' = (runA (stD true e1) q.most (selD false zE (tel T)) []).1)) := by
 refine Tri.into (n := 20) (al := [(vP (some ⟨r.tb, 0, none⟩)), (vA #[(vI .i64 e1.key), (vI .i64 e1.val)]), (Value.func (.func 44) #[] #[(vP (some ⟨ob, 0, none⟩)), (vP (some ⟨pb, 0, none⟩))])]) func52 rfl ntmps52 rfl rfl fun w F H => ?_
 refine cR fun _ hK1_ => ?_
 rcases T with _ | ⟨z, t⟩
 ·skip
  have H2_ : Holds w (ro R :: treeP r none :: outP ob pb q ([] : List EL) :: F) := H
  have H3_ := ((Holds.bring H2_ 1 rfl) :)
  have H4_ := Holds.t0_out H3_
  refine S_list (T_box (v := (vA #[(vI .i64 e1.key), (vI .i64 e1.val)])) rfl H4_ ?_)
  intro b5_ w6_ S8_ H7_
  have S9_ := Same.trans (Same.refl w) S8_
  refine wn (hK1_ _ _ ?_)
  refine C_seq (fun _ hK10_ => ?_)
  refine cR fun _ hK11_ => ?_
  refine sm (vP (some ⟨r.tb, 0, none⟩)) ?_
  refine sv (v := (vP (some ⟨r.tb, 0, none⟩))) (by kernel_rfl) ?_
  refine sv (v := (vP (some ⟨r.tb, 2, none⟩))) (by kernel_rfl) ?_
  refine sv (v := (vP none)) (x_load1 rfl underlying59 rfl ((Holds.rd H7_ 1 rfl) 2 (vP none) rfl)) ?_
  refine sv (v := (vB true)) (by kernel_rfl) ?_
  refine wn (hK11_ _ _ ?_)
  refine C_condT rfl ?_
  refine C_ret (X_thenR ?_)
  refine R_0r rfl ?_
  have H12_ := ((Holds.bring (Holds.bring (Holds.bring H7_ 3 rfl) 3 rfl) 3 rfl) :)
  have H13_ := Holds.t0_in H12_
  have H14_ := Holds.pkF H13_ [2, 0, 1] 1
  exact ⟨_, _, rfl, ⟨([] : List EL), rfl, rfl, (rfl)⟩, S9_, H14_⟩
 ·skip
  have H15_ : Holds w (ro R :: treeP r (some ⟨z, t⟩) :: outP ob pb q ([] : List EL) :: F) := H
  have H16_ := ((Holds.bring H15_ 1 rfl) :)
  have H17_ := Holds.t1_out H16_
  refine S_list (T_box (v := (vA #[(vI .i64 e1.key), (vI .i64 e1.val)])) rfl H17_ ?_)
  intro b18_ w19_ S21_ H20_
  have S22_ := Same.trans (Same.refl w) S21_
  refine wn (hK1_ _ _ ?_)
  refine C_seq (fun _ hK23_ => ?_)
  refine cR fun _ hK24_ => ?_
  refine sm (vP (some ⟨r.tb, 0, none⟩)) ?_
  refine sv (v := (vP (some ⟨r.tb, 0, none⟩))) (by kernel_rfl) ?_
  refine sv (v := (vP (some ⟨r.tb, 2, none⟩))) (by kernel_rfl) ?_
  refine sv (v := (vP (some ⟨t.a, 0, none⟩))) (x_load1 rfl underlying59 rfl ((Holds.rd H20_ 1 rfl) 2 (vP (some ⟨t.a, 0, none⟩)) rfl)) ?_
  refine sv (v := (vB false)) (by kernel_rfl) ?_
  refine wn (hK24_ _ _ ?_)
  refine C_condF rfl ?_
  refine C_skip (X_then (hK23_ _ _ ?_))
  refine A_start (S := fun w => Rd b18_ [(vI .i64 e1.key), (vI .i64 e1.val)] w ∧ Rd r.tb [(vI .i64 (r.d : Int)), (vI .i64 (List.length t.el : Int)), (vP (some ⟨t.a, 0, none⟩)), (vP (some ⟨r.c, 0, none⟩))] w ∧ Rd r.c [(vP (some ⟨r.fl, 0, none⟩)), (Value.func (.func 16) #[] #[])] w ∧ Rd r.fl [(vS r.fa 0 r.fc)] w ∧ Sub R (hp w)) (N := 9) foll rfl rfl ?_
  have H25_ := Holds.drew_ H20_
  have hq26_ := And.intro (Holds.rd H25_ 0 rfl) (And.intro (Holds.rd H25_ 1 rfl) (And.intro (Holds.rd H25_ 2 rfl) (And.intro (Holds.rd H25_ 3 rfl) ((Holds.ro_at H25_ 5 rfl)))))
  refine A_tk 0 (v := (vP (some ⟨r.tb, 0, none⟩))) rfl (by kernel_rfl) (fun w hS => x_move rfl) hq26_ ?_
  refine A_tk 1 (v := (vP (some ⟨r.tb, 0, none⟩))) rfl (by kernel_rfl) (fun w hS => by kernel_rfl) hq26_ ?_
  refine A_tk 2 (v := (vP (some ⟨r.tb, 2, none⟩))) rfl (by kernel_rfl) (fun w hS => by kernel_rfl) hq26_ ?_
  refine A_tk 3 (v := (vP (some ⟨t.a, 0, none⟩))) rfl (by kernel_rfl) (fun w hS => x_load1 rfl underlying59 rfl (hS.2.1 2 (vP (some ⟨t.a, 0, none⟩)) rfl)) hq26_ ?_
  refine A_tk 5 (v := (vA #[(vI .i64 e1.key), (vI .i64 e1.val)])) rfl (by kernel_rfl) (fun w hS => x_loadN (vs := [(vI .i64 e1.key), (vI .i64 e1.val)]) rfl underlying24 rfl z24 rfl (Rd.cells hS.1 0 rfl)) hq26_ ?_
  refine A_tk 7 (v := (Value.func (.func 44) #[] #[(vP (some ⟨ob, 0, none⟩)), (vP (some ⟨pb, 0, none⟩))])) rfl (by kernel_rfl) (fun w hS => x_move rfl) hq26_ ?_
  refine A_ready (i := 4) (rs := []) (by kernel_rfl) ?_
  refine AllR.cons ?_ AllR.nil
  refine A_op (ls' := #[true, true, true, true, true, true, false, true, false]) rfl (by kernel_rfl) (T_callW (al := []) rfl rfl cb64 (Calls.into (n := 2) func64 rfl ntmps64 rfl rfl ?_))
  refine cR fun _ hK27_ => ?_
  refine S_list (T_alloc z105 H25_ ?_)
  intro b28_ w29_ S31_ H30_
  have S32_ := Same.trans (Same.trans S22_ (Same.drew _)) S31_
  refine wn (hK27_ _ _ ?_)
  refine cR fun _ hK33_ => ?_
  refine sv (v := (vA #[(vI .i64 0), (vI .i64 0), (vB false)])) (by kernel_rfl) ?_
  refine S_list0 (T_storeN (vs := [(vI .i64 0), (vI .i64 0), (vB false)]) rfl rfl z105 rfl (by simp [Value.oneCell']) H30_ 0 rfl (Nat.le_of_ble_eq_true (by rfl)) ?_)
  intro w34_ S36_ H35_
  have S37_ := Same.trans S32_ S36_
  refine wn (hK33_ _ _ ?_)
  refine C_ret ?_
  refine R_any (v := (vA #[(vI .i64 0), (vI .i64 0), (vB false)])) (run_results1 rfl ⟨_, rfl, load_resN underlying105 rfl z105 rfl (vs := [(vI .i64 0), (vI .i64 0), (vB false)]) (Holds.cl_cells H35_ 0 rfl 0 rfl)⟩) ⟨_, rfl, ?_⟩
  refine ⟨⟨Holds.rd H35_ 1 rfl, Holds.rd H35_ 2 rfl, Holds.rd H35_ 3 rfl, Holds.rd H35_ 4 rfl, (Holds.ro_at H35_ 6 rfl)⟩, ?_⟩
  refine A_ready (i := 6) (rs := []) (by kernel_rfl) ?_
  refine AllR.cons ?_ AllR.nil
  refine A_op (ls' := #[true, true, true, true, true, true, true, true, false]) rfl (by kernel_rfl) (T_callW (al := [(vA #[(vI .i64 e1.key), (vI .i64 e1.val)])]) rfl rfl cb65 (Calls.into (n := 5) func65 rfl ntmps65 rfl rfl ?_))
  refine cR fun _ hK38_ => ?_
  refine S_list (T_box (v := (vA #[(vI .i64 e1.key), (vI .i64 e1.val)])) rfl H35_ ?_)
  intro b39_ w40_ S42_ H41_
  have S43_ := Same.trans S37_ S42_
  refine S_list (T_alloc z105 H41_ ?_)
  intro b44_ w45_ S47_ H46_
  have S48_ := Same.trans S43_ S47_
  refine wn (hK38_ _ _ ?_)
  refine cR fun _ hK49_ => ?_
  refine sv (v := (vA #[(vI .i64 e1.key), (vI .i64 e1.val)])) (x_loadN (vs := [(vI .i64 e1.key), (vI .i64 e1.val)]) rfl underlying24 rfl z24 rfl (Rd.cells (Holds.rd H46_ 1 rfl) 0 rfl)) ?_
  refine sv (v := (vA #[(vI .i64 e1.key), (vI .i64 e1.val), (vB true)])) (by kernel_rfl) ?_
  refine S_list0 (T_storeN (vs := [(vI .i64 e1.key), (vI .i64 e1.val), (vB true)]) rfl rfl z105 rfl (by simp [Value.oneCell']) H46_ 0 rfl (Nat.le_of_ble_eq_true (by rfl)) ?_)
  intro w50_ S52_ H51_
  have S53_ := Same.trans S48_ S52_
  refine wn (hK49_ _ _ ?_)
  refine C_ret ?_
  refine R_any (v := (vA #[(vI .i64 e1.key), (vI .i64 e1.val), (vB true)])) (run_results1 rfl ⟨_, rfl, load_resN underlying105 rfl z105 rfl (vs := [(vI .i64 e1.key), (vI .i64 e1.val), (vB true)]) (Holds.cl_cells H51_ 0 rfl 0 rfl)⟩) ⟨_, rfl, ?_⟩
  refine ⟨⟨Holds.rd H51_ 3 rfl, Holds.rd H51_ 4 rfl, Holds.rd H51_ 5 rfl, Holds.rd H51_ 6 rfl, (Holds.ro_at H51_ 8 rfl)⟩, ?_⟩
  refine A_ready (i := 8) (rs := []) (by kernel_rfl) ?_
  refine AllR.cons ?_ AllR.nil
  have H59_ := ((Holds.bring (Holds.bring (Holds.bring (Holds.bring H51_ 9 rfl) 6 rfl) 8 rfl) 9 rfl) :)
  refine A_op (ls' := #[true, true, true, true, true, true, true, true, true]) rfl (by kernel_rfl) (T_call (al := [(vP (some ⟨t.a, 0, none⟩)), (vI .i64 (-1)), (vA #[(vI .i64 zE.key), (vI .i64 zE.val), (vB false)]), (vA #[(vI .i64 e1.key), (vI .i64 e1.val), (vB true)]), (vB false), (vB false), (Value.func (.func 44) #[] #[(vP (some ⟨ob, 0, none⟩)), (vP (some ⟨pb, 0, none⟩))])]) (pre := [btp r.c t, cl r.c 58 [(vP (some ⟨r.fl, 0, none⟩)), (Value.func (.func 16) #[] #[])], outP ob pb q ([] : List EL)]) rfl (lcons rfl (lcons rfl (lcons (congrArg (fun l => vA (List.toArray l)) (lcons (congrArg (vI .i64) ((by first | rfl | omega | (simp; done) | (simp; omega)) : 0 = zE.key)) (lcons (congrArg (vI .i64) ((by first | rfl | omega | (simp; done) | (simp; omega)) : 0 = zE.val)) rfl))) rfl))) cb63 (itD R r.c r.fl z t zE e1 false true false ob pb q ([] : List EL) (hT.1) (hT.2) (hn) (by have hn__ : t.el.length ≤ 100000 := hn; simp only [List.length_nil]; omega) (fun h__ => by cases h__)) H59_ ?_)
  rintro v54_ p63_ w60_ ⟨h55_, ok56_, O57_, rfl, rfl, he58_⟩ S62_ H61_
  have S64_ := Same.trans S53_ S62_
  refine ⟨⟨Holds.rd H61_ 7 rfl, Holds.rd H61_ 8 rfl, Holds.rd H61_ 2 rfl, Holds.rd H61_ 9 rfl, (Holds.ro_at H61_ 0 rfl)⟩, ?_⟩
  refine A_done (by kernel_rfl) ?_
  refine R_0 rfl ?_
  have H65_ := ((Holds.bring (Holds.bring (Holds.bring (Holds.bring H61_ 1 rfl) 9 rfl) 3 rfl) 9 rfl) :)
  have H66_ := Holds.t1_in (t := t) H65_
  have H67_ := Holds.pkF H66_ [1, 0, 0] 4
  exact ⟨_, _, rfl, ⟨O57_, rfl, rfl, ((congrArg Prod.fst he58_).symm)⟩, S64_, H67_⟩
end Go.Proofs.Ytdfjdmmmlidamaa
set_option linter.unusedVariables false
set_option linter.unusedSimpArgs false
namespace Go.Proofs.Ytdfjdmmmlidamaa
open Go Go.RowKit Gw Try
open Go.Value renaming int → vI, bool → vB, slice → vS, pointer → vP, agg → vA, tuple → vT

theorem bl10 {o : BO} {l : List EL} (hs : SrtE l) (hk : o.kind = 10) : (runA (stA false zE) o.most (selA false zE l) []).1 = bList o l := by
  rw [listA hs]; unfold bList; have ft : l.filter (fun _ => true) = l := List.filter_eq_self.2 (fun _ _ => rfl); simp [hk, ft]

theorem bl11 {o : BO} {l : List EL} (hs : SrtE l) (hk : o.kind = 11) : (runA (stA true (EL.mk o.till 0)) o.most (selA true (EL.mk o.from_ 0) l) []).1 = bList o l := by
  rw [listA hs]; unfold bList; have ft : l.filter (fun _ => true) = l := List.filter_eq_self.2 (fun _ _ => rfl); simp [hk, ft]

theorem bl12 {o : BO} {l : List EL} (hs : SrtE l) (hk : o.kind = 12) : (runA (stA true (EL.mk o.till 0)) o.most (selA false zE l) []).1 = bList o l := by
  rw [listA hs]; unfold bList; have ft : l.filter (fun _ => true) = l := List.filter_eq_self.2 (fun _ _ => rfl); simp [hk, ft]

theorem bl13 {o : BO} {l : List EL} (hs : SrtE l) (hk : o.kind = 13) : (runA (stA false zE) o.most (selA true (EL.mk o.from_ 0) l) []).1 = bList o l := by
  rw [listA hs]; unfold bList; have ft : l.filter (fun _ => true) = l := List.filter_eq_self.2 (fun _ _ => rfl); simp [hk, ft]

theorem bl14 {o : BO} {l : List EL} (hs : SrtE l) (hk : o.kind = 14) : (runA (stD false zE) o.most (selD false zE l) []).1 = bList o l := by
  rw [listD hs]; unfold bList; have ft : l.filter (fun _ => true) = l := List.filter_eq_self.2 (fun _ _ => rfl); simp [hk, ft]

theorem bl15 {o : BO} {l : List EL} (hs : SrtE l) (hk : o.kind = 15) : (runA (stD true (EL.mk o.till 0)) o.most (selD true (EL.mk o.from_ 0) l) []).1 = bList o l := by
  rw [listD hs]; unfold bList; have ft : l.filter (fun _ => true) = l := List.filter_eq_self.2 (fun _ _ => rfl); simp [hk, ft]

theorem bl16 {o : BO} {l : List EL} (hs : SrtE l) (hk : o.kind = 16) : (runA (stD false zE) o.most (selD true (EL.mk o.from_ 0) l) []).1 = bList o l := by
  rw [listD hs]; unfold bList; have ft : l.filter (fun _ => true) = l := List.filter_eq_self.2 (fun _ _ => rfl); simp [hk, ft]

theorem bl17 {o : BO} {l : List EL} (hs : SrtE l) (hk : o.kind = 17) : (runA (stD true (EL.mk o.till 0)) o.most (selD false zE l) []).1 = bList o l := by
  rw [listD hs]; unfold bList; have ft : l.filter (fun _ => true) = l := List.filter_eq_self.2 (fun _ _ => rfl); simp [hk, ft]

theorem tOk_srt {T : Option (Sigma BT)} (h : tOk T) : SrtE (tel T) := by
  rcases T with _ | ⟨z, t⟩
  · exact List.Pairwise.nil
  · exact h.2

set_option maxHeartbeats 8000000 in
theorem btListed (R : HP) (r : TR) (T : Option (Sigma BT)) (o : BO) (hT : tOk T) (hn : (tel T).length ≤ 100000) (hk : o.kind = 10 ∨ o.kind = 11 ∨ o.kind = 12 ∨ o.kind = 13 ∨ o.kind = 14 ∨ o.kind = 15 ∨ o.kind = 16 ∨ o.kind = 17) :
    TriG Try.prog 33 #[(vP (some ⟨r.tb, 0, none⟩)), (vA #[(vI .i64 o.kind), (vI .i64 o.tree), (vI .i64 o.el_Key), (vI .i64 o.el_Val), (vI .i64 o.from_), (vI .i64 o.till), (vI .i64 o.most), (vB o.again)])] R [treeP r T] (fun R' v__ post__ => ∃ (v' : Value), v__ = v' ∧ post__ = [treeP r T] ∧ (RS R' 2 v' (List.length (bList o (tel T))) ((bList o (tel T)).flatMap EL.cells))) := by
 refine TriG.into (n := 67) (al := [(vP (some ⟨r.tb, 0, none⟩)), (vA #[(vI .i64 o.kind), (vI .i64 o.tree), (vI .i64 o.el_Key), (vI .i64 o.el_Val), (vI .i64 o.from_), (vI .i64 o.till), (vI .i64 o.most), (vB o.again)])]) func33 rfl ntmps33 rfl rfl fun w F H => ?_
 refine cR fun _ hK1_ => ?_
 refine S_list (T_box (v := (vA #[(vI .i64 o.kind), (vI .i64 o.tree), (vI .i64 o.el_Key), (vI .i64 o.el_Val), (vI .i64 o.from_), (vI .i64 o.till), (vI .i64 o.most), (vB o.again)])) rfl H ?_)
 intro b2_ w3_ S5_ H4_
 have S6_ := Same.trans (Same.refl w) S5_
 refine sv (v := (vS none 0 0)) (x_assign rfl) ?_
 refine wn (hK1_ _ _ ?_)
 refine cR fun _ hK7_ => ?_
 refine S_list (T_alloc z22 H4_ ?_)
 intro b8_ w9_ S11_ H10_
 have S12_ := Same.trans S6_ S11_
 refine wn (hK7_ _ _ ?_)
 refine cR fun _ hK13_ => ?_
 refine sv (v := (Value.func (.func 44) #[] #[(vP (some ⟨b8_, 0, none⟩)), (vP (some ⟨b2_, 0, none⟩))])) (by kernel_rfl) ?_
 refine sv (v := (Value.func (.func 44) #[] #[(vP (some ⟨b8_, 0, none⟩)), (vP (some ⟨b2_, 0, none⟩))])) (x_assign rfl) ?_
 refine wn (hK13_ _ _ ?_)
 refine cR fun _ hK14_ => ?_
 refine sv (v := (vP (some ⟨b2_, 4, none⟩))) (by kernel_rfl) ?_
 refine sv (v := (vI .i64 o.from_)) (x_load1 rfl underlying3 rfl ((Holds.rd H10_ 1 rfl) 4 (vI .i64 o.from_) rfl)) ?_
 refine sv (v := (vA #[(vI .i64 o.from_), (vI .i64 0)])) (by kernel_rfl) ?_
 refine S_list (T_alloc z24 H10_ ?_)
 intro b15_ w16_ S18_ H17_
 have S19_ := Same.trans S12_ S18_
 refine S_list0 (T_storeN (vs := [(vI .i64 o.from_), (vI .i64 0)]) rfl rfl z24 rfl (by simp [Value.oneCell']) H17_ 0 rfl (Nat.le_of_ble_eq_true (by rfl)) ?_)
 intro w20_ S22_ H21_
 have S23_ := Same.trans S19_ S22_
 refine wn (hK14_ _ _ ?_)
 refine cR fun _ hK24_ => ?_
 refine sv (v := (vP (some ⟨b2_, 5, none⟩))) (by kernel_rfl) ?_
 refine sv (v := (vI .i64 o.till)) (x_load1 rfl underlying3 rfl ((Holds.rd H21_ 2 rfl) 5 (vI .i64 o.till) rfl)) ?_
 refine sv (v := (vA #[(vI .i64 o.till), (vI .i64 0)])) (by kernel_rfl) ?_
 refine S_list (T_alloc z24 H21_ ?_)
 intro b25_ w26_ S28_ H27_
 have S29_ := Same.trans S23_ S28_
 refine S_list0 (T_storeN (vs := [(vI .i64 o.till), (vI .i64 0)]) rfl rfl z24 rfl (by simp [Value.oneCell']) H27_ 0 rfl (Nat.le_of_ble_eq_true (by rfl)) ?_)
 intro w30_ S32_ H31_
 have S33_ := Same.trans S29_ S32_
 refine wn (hK24_ _ _ ?_)
 refine C_seq (fun _ hK34_ => ?_)
 refine cR fun _ hK35_ => ?_
 refine sv (v := (vP (some ⟨b2_, 0, none⟩))) (by kernel_rfl) ?_
 refine sv (v := (vI .i64 o.kind)) (x_load1 rfl underlying3 rfl ((Holds.rd H31_ 3 rfl) 0 (vI .i64 o.kind) rfl)) ?_
 refine wn (hK35_ _ _ ?_)
 refine C_block ?_
 refine cR fun _ hK36_ => ?_
 refine sv (v := (vB (decide (o.kind = 10)))) (x_bin rfl rfl rfl) ?_
 refine sv (v := (vB (decide (o.kind = 10)))) (x_assign rfl) ?_
 refine wn (hK36_ _ _ ?_)
 refine C_cond (b := decide (o.kind = 10)) rfl (fun c37_t => ?_) (fun c37_f => ?_)
 ·have c37_tp : o.kind = 10 := of_decide_eq_true c37_t
  refine C_reg ?_
  refine sm (vP (some ⟨r.tb, 0, none⟩)) ?_
  refine sm (Value.func (.func 44) #[] #[(vP (some ⟨b8_, 0, none⟩)), (vP (some ⟨b2_, 0, none⟩))]) ?_
  have H38_ : Holds w30_ (sl 24 2 (vS none 0 0) (List.length ([] : List EL)) (([] : List EL).flatMap EL.cells) :: cl b25_ 24 [(vI .i64 o.till), (vI .i64 0)] :: cl b15_ 24 [(vI .i64 o.from_), (vI .i64 0)] :: cl b8_ 22 [(vS none 0 0)] :: cl b2_ 30 [(vI .i64 o.kind), (vI .i64 o.tree), (vI .i64 o.el_Key), (vI .i64 o.el_Val), (vI .i64 o.from_), (vI .i64 o.till), (vI .i64 o.most), (vB o.again)] :: ro R :: treeP r T :: F) := Holds.add_nil H31_ 24 2
  have H39_ := ((Holds.bring (Holds.bring (Holds.bring H38_ 4 rfl) 1 rfl) 4 rfl) :)
  have H40_ := Holds.out_in (q := o) H39_
  have H44_ := ((Holds.bring (Holds.bring H40_ 4 rfl) 4 rfl) :)
  refine S_list (T_call (al := [(vP (some ⟨r.tb, 0, none⟩)), (Value.func (.func 44) #[] #[(vP (some ⟨b8_, 0, none⟩)), (vP (some ⟨b2_, 0, none⟩))])]) (pre := [treeP r T, outP b8_ b2_ o ([] : List EL)]) rfl rfl cb45 (btL45 R r T b8_ b2_ o (by first | assumption | omega) (by first | assumption | omega)) H44_ ?_)
  rintro v41_ p48_ w45_ ⟨O42_, rfl, rfl, he43_⟩ S47_ H46_
  have S49_ := Same.trans S33_ S47_
  have hbl_ := he43_.trans (bl10 (o := o) (tOk_srt hT) (by omega))
  have H50_ := ((Holds.bring H46_ 2 rfl) :)
  obtain ⟨ov51_, H52_⟩ := Holds.out_out H50_
  have H53_ := Holds.resl H52_ 1 rfl (by rw [hbl_] : O42_.flatMap EL.cells = (bList o (tel T)).flatMap EL.cells) (by rw [hbl_] : (List.length O42_) = (List.length (bList o (tel T))))
  refine wpList_nil (X_blkN (X_then (hK34_ _ _ ?_)))
  refine cR fun _ hK54_ => ?_
  refine sv (v := ov51_) (x_load1 rfl underlying22 rfl ((Holds.rd H53_ 0 rfl) 0 ov51_ rfl)) ?_
  refine sv (v := ov51_) (x_assign rfl) ?_
  refine wn (hK54_ _ _ ?_)
  refine C_ret ?_
  refine R_any (v := ov51_) (run_results1 rfl rfl) ?_
  have H55_ := ((Holds.bring (Holds.bring H53_ 1 rfl) 3 rfl) :)
  obtain ⟨R56_, hs57_, ⟨R58_, ha59_, hs60_⟩, H61_⟩ := Holds.gift H55_
  have hr62_ : RS R56_ 2 ov51_ (List.length (bList o (tel T))) ((bList o (tel T)).flatMap EL.cells) := (sl_RS ha59_ (Sub.rfl' _)).mono hs60_
  have H63_ := Holds.pkF H61_ [0, 2] 4
  exact ⟨R56_, _, _, rfl, hs57_, ⟨ov51_, rfl, rfl, (hr62_)⟩, S49_, H63_⟩
 ·have c37_fp : ¬ (o.kind = 10) := of_decide_eq_false c37_f
  refine cR fun _ hK64_ => ?_
  refine sv (v := (vB (decide (o.kind = 11)))) (x_bin rfl rfl rfl) ?_
  refine sv (v := (vB (decide (o.kind = 11)))) (x_assign rfl) ?_
  refine wn (hK64_ _ _ ?_)
  refine C_cond (b := decide (o.kind = 11)) rfl (fun c65_t => ?_) (fun c65_f => ?_)
  ·have c65_tp : o.kind = 11 := of_decide_eq_true c65_t
   refine C_reg ?_
   refine sm (vP (some ⟨r.tb, 0, none⟩)) ?_
   refine sv (v := (vA #[(vI .i64 o.from_), (vI .i64 0)])) (x_loadN (vs := [(vI .i64 o.from_), (vI .i64 0)]) rfl underlying24 rfl z24 rfl (Rd.cells (Holds.rd H31_ 1 rfl) 0 rfl)) ?_
   refine sv (v := (vA #[(vI .i64 o.till), (vI .i64 0)])) (x_loadN (vs := [(vI .i64 o.till), (vI .i64 0)]) rfl underlying24 rfl z24 rfl (Rd.cells (Holds.rd H31_ 0 rfl) 0 rfl)) ?_
   refine sm (Value.func (.func 44) #[] #[(vP (some ⟨b8_, 0, none⟩)), (vP (some ⟨b2_, 0, none⟩))]) ?_
   have H66_ : Holds w30_ (sl 24 2 (vS none 0 0) (List.length ([] : List EL)) (([] : List EL).flatMap EL.cells) :: cl b25_ 24 [(vI .i64 o.till), (vI .i64 0)] :: cl b15_ 24 [(vI .i64 o.from_), (vI .i64 0)] :: cl b8_ 22 [(vS none 0 0)] :: cl b2_ 30 [(vI .i64 o.kind), (vI .i64 o.tree), (vI .i64 o.el_Key), (vI .i64 o.el_Val), (vI .i64 o.from_), (vI .i64 o.till), (vI .i64 o.most), (vB o.again)] :: ro R :: treeP r T :: F) := Holds.add_nil H31_ 24 2
   have H67_ := ((Holds.bring (Holds.bring (Holds.bring H66_ 4 rfl) 1 rfl) 4 rfl) :)
   have H68_ := Holds.out_in (q := o) H67_
   have H72_ := ((Holds.bring (Holds.bring H68_ 4 rfl) 4 rfl) :)
   refine S_list (T_call (al := [(vP (some ⟨r.tb, 0, none⟩)), (vA #[(vI .i64 ((EL.mk o.from_ 0).key)), (vI .i64 ((EL.mk o.from_ 0).val))]), (vA #[(vI .i64 ((EL.mk o.till 0).key)), (vI .i64 ((EL.mk o.till 0).val))]), (Value.func (.func 44) #[] #[(vP (some ⟨b8_, 0, none⟩)), (vP (some ⟨b2_, 0, none⟩))])]) (pre := [treeP r T, outP b8_ b2_ o ([] : List EL)]) rfl (lcons rfl (lcons (congrArg (fun l => vA (List.toArray l)) (lcons (congrArg (vI .i64) ((by first | rfl | omega | (simp; done) | (simp; omega)) : o.from_ = (EL.mk o.from_ 0).key)) (lcons (congrArg (vI .i64) ((by first | rfl | omega | (simp; done) | (simp; omega)) : 0 = (EL.mk o.from_ 0).val)) rfl))) (lcons (congrArg (fun l => vA (List.toArray l)) (lcons (congrArg (vI .i64) ((by first | rfl | omega | (simp; done) | (simp; omega)) : o.till = (EL.mk o.till 0).key)) (lcons (congrArg (vI .i64) ((by first | rfl | omega | (simp; done) | (simp; omega)) : 0 = (EL.mk o.till 0).val)) rfl))) rfl))) cb46 (btL46 R r T b8_ b2_ o (EL.mk o.from_ 0) (EL.mk o.till 0) (by first | assumption | omega) (by first | assumption | omega)) H72_ ?_)
   rintro v69_ p76_ w73_ ⟨O70_, rfl, rfl, he71_⟩ S75_ H74_
   have S77_ := Same.trans S33_ S75_
   have hbl_ := he71_.trans (bl11 (o := o) (tOk_srt hT) (by omega))
   have H78_ := ((Holds.bring H74_ 2 rfl) :)
   obtain ⟨ov79_, H80_⟩ := Holds.out_out H78_
   have H81_ := Holds.resl H80_ 1 rfl (by rw [hbl_] : O70_.flatMap EL.cells = (bList o (tel T)).flatMap EL.cells) (by rw [hbl_] : (List.length O70_) = (List.length (bList o (tel T))))
   refine wpList_nil (X_blkN (X_then (hK34_ _ _ ?_)))
   refine cR fun _ hK82_ => ?_
   refine sv (v := ov79_) (x_load1 rfl underlying22 rfl ((Holds.rd H81_ 0 rfl) 0 ov79_ rfl)) ?_
   refine sv (v := ov79_) (x_assign rfl) ?_
   refine wn (hK82_ _ _ ?_)
   refine C_ret ?_
   refine R_any (v := ov79_) (run_results1 rfl rfl) ?_
   have H83_ := ((Holds.bring (Holds.bring H81_ 1 rfl) 3 rfl) :)
   obtain ⟨R84_, hs85_, ⟨R86_, ha87_, hs88_⟩, H89_⟩ := Holds.gift H83_
   have hr90_ : RS R84_ 2 ov79_ (List.length (bList o (tel T))) ((bList o (tel T)).flatMap EL.cells) := (sl_RS ha87_ (Sub.rfl' _)).mono hs88_
   have H91_ := Holds.pkF H89_ [0, 2] 4
   exact ⟨R84_, _, _, rfl, hs85_, ⟨ov79_, rfl, rfl, (hr90_)⟩, S77_, H91_⟩
  ·have c65_fp : ¬ (o.kind = 11) := of_decide_eq_false c65_f
   refine cR fun _ hK92_ => ?_
   refine sv (v := (vB (decide (o.kind = 12)))) (x_bin rfl rfl rfl) ?_
   refine sv (v := (vB (decide (o.kind = 12)))) (x_assign rfl) ?_
   refine wn (hK92_ _ _ ?_)
   refine C_cond (b := decide (o.kind = 12)) rfl (fun c93_t => ?_) (fun c93_f => ?_)
   ·have c93_tp : o.kind = 12 := of_decide_eq_true c93_t
    refine C_reg ?_
    refine sm (vP (some ⟨r.tb, 0, none⟩)) ?_
    refine sv (v := (vA #[(vI .i64 o.till), (vI .i64 0)])) (x_loadN (vs := [(vI .i64 o.till), (vI .i64 0)]) rfl underlying24 rfl z24 rfl (Rd.cells (Holds.rd H31_ 0 rfl) 0 rfl)) ?_
    refine sm (Value.func (.func 44) #[] #[(vP (some ⟨b8_, 0, none⟩)), (vP (some ⟨b2_, 0, none⟩))]) ?_
    have H94_ : Holds w30_ (sl 24 2 (vS none 0 0) (List.length ([] : List EL)) (([] : List EL).flatMap EL.cells) :: cl b25_ 24 [(vI .i64 o.till), (vI .i64 0)] :: cl b15_ 24 [(vI .i64 o.from_), (vI .i64 0)] :: cl b8_ 22 [(vS none 0 0)] :: cl b2_ 30 [(vI .i64 o.kind), (vI .i64 o.tree), (vI .i64 o.el_Key), (vI .i64 o.el_Val), (vI .i64 o.from_), (vI .i64 o.till), (vI .i64 o.most), (vB o.again)] :: ro R :: treeP r T :: F) := Holds.add_nil H31_ 24 2
    have H95_ := ((Holds.bring (Holds.bring (Holds.bring H94_ 4 rfl) 1 rfl) 4 rfl) :)
    have H96_ := Holds.out_in (q := o) H95_
    have H100_ := ((Holds.bring (Holds.bring H96_ 4 rfl) 4 rfl) :)
    refine S_list (T_call (al := [(vP (some ⟨r.tb, 0, none⟩)), (vA #[(vI .i64 ((EL.mk o.till 0).key)), (vI .i64 ((EL.mk o.till 0).val))]), (Value.func (.func 44) #[] #[(vP (some ⟨b8_, 0, none⟩)), (vP (some ⟨b2_, 0, none⟩))])]) (pre := [treeP r T, outP b8_ b2_ o ([] : List EL)]) rfl (lcons rfl (lcons (congrArg (fun l => vA (List.toArray l)) (lcons (congrArg (vI .i64) ((by first | rfl | omega | (simp; done) | (simp; omega)) : o.till = (EL.mk o.till 0).key)) (lcons (congrArg (vI .i64) ((by first | rfl | omega | (simp; done) | (simp; omega)) : 0 = (EL.mk o.till 0).val)) rfl))) rfl)) cb47 (btL47 R r T b8_ b2_ o (EL.mk o.till 0) (by first | assumption | omega) (by first | assumption | omega)) H100_ ?_)
    rintro v97_ p104_ w101_ ⟨O98_, rfl, rfl, he99_⟩ S103_ H102_
    have S105_ := Same.trans S33_ S103_
    have hbl_ := he99_.trans (bl12 (o := o) (tOk_srt hT) (by omega))
    have H106_ := ((Holds.bring H102_ 2 rfl) :)
    obtain ⟨ov107_, H108_⟩ := Holds.out_out H106_
    have H109_ := Holds.resl H108_ 1 rfl (by rw [hbl_] : O98_.flatMap EL.cells = (bList o (tel T)).flatMap EL.cells) (by rw [hbl_] : (List.length O98_) = (List.length (bList o (tel T))))
    refine wpList_nil (X_blkN (X_then (hK34_ _ _ ?_)))
    refine cR fun _ hK110_ => ?_
    refine sv (v := ov107_) (x_load1 rfl underlying22 rfl ((Holds.rd H109_ 0 rfl) 0 ov107_ rfl)) ?_
    refine sv (v := ov107_) (x_assign rfl) ?_
    refine wn (hK110_ _ _ ?_)
    refine C_ret ?_
    refine R_any (v := ov107_) (run_results1 rfl rfl) ?_
    have H111_ := ((Holds.bring (Holds.bring H109_ 1 rfl) 3 rfl) :)
    obtain ⟨R112_, hs113_, ⟨R114_, ha115_, hs116_⟩, H117_⟩ := Holds.gift H111_
    have hr118_ : RS R112_ 2 ov107_ (List.length (bList o (tel T))) ((bList o (tel T)).flatMap EL.cells) := (sl_RS ha115_ (Sub.rfl' _)).mono hs116_
    have H119_ := Holds.pkF H117_ [0, 2] 4
    exact ⟨R112_, _, _, rfl, hs113_, ⟨ov107_, rfl, rfl, (hr118_)⟩, S105_, H119_⟩
   ·have c93_fp : ¬ (o.kind = 12) := of_decide_eq_false c93_f
    refine cR fun _ hK120_ => ?_
    refine sv (v := (vB (decide (o.kind = 13)))) (x_bin rfl rfl rfl) ?_
    refine sv (v := (vB (decide (o.kind = 13)))) (x_assign rfl) ?_
    refine wn (hK120_ _ _ ?_)
    refine C_cond (b := decide (o.kind = 13)) rfl (fun c121_t => ?_) (fun c121_f => ?_)
    ·have c121_tp : o.kind = 13 := of_decide_eq_true c121_t
     refine C_reg ?_
     refine sm (vP (some ⟨r.tb, 0, none⟩)) ?_
     refine sv (v := (vA #[(vI .i64 o.from_), (vI .i64 0)])) (x_loadN (vs := [(vI .i64 o.from_), (vI .i64 0)]) rfl underlying24 rfl z24 rfl (Rd.cells (Holds.rd H31_ 1 rfl) 0 rfl)) ?_
     refine sm (Value.func (.func 44) #[] #[(vP (some ⟨b8_, 0, none⟩)), (vP (some ⟨b2_, 0, none⟩))]) ?_
     have H122_ : Holds w30_ (sl 24 2 (vS none 0 0) (List.length ([] : List EL)) (([] : List EL).flatMap EL.cells) :: cl b25_ 24 [(vI .i64 o.till), (vI .i64 0)] :: cl b15_ 24 [(vI .i64 o.from_), (vI .i64 0)] :: cl b8_ 22 [(vS none 0 0)] :: cl b2_ 30 [(vI .i64 o.kind), (vI .i64 o.tree), (vI .i64 o.el_Key), (vI .i64 o.el_Val), (vI .i64 o.from_), (vI .i64 o.till), (vI .i64 o.most), (vB o.again)] :: ro R :: treeP r T :: F) := Holds.add_nil H31_ 24 2
     have H123_ := ((Holds.bring (Holds.bring (Holds.bring H122_ 4 rfl) 1 rfl) 4 rfl) :)
     have H124_ := Holds.out_in (q := o) H123_
     have H128_ := ((Holds.bring (Holds.bring H124_ 4 rfl) 4 rfl) :)
     refine S_list (T_call (al := [(vP (some ⟨r.tb, 0, none⟩)), (vA #[(vI .i64 ((EL.mk o.from_ 0).key)), (vI .i64 ((EL.mk o.from_ 0).val))]), (Value.func (.func 44) #[] #[(vP (some ⟨b8_, 0, none⟩)), (vP (some ⟨b2_, 0, none⟩))])]) (pre := [treeP r T, outP b8_ b2_ o ([] : List EL)]) rfl (lcons rfl (lcons (congrArg (fun l => vA (List.toArray l)) (lcons (congrArg (vI .i64) ((by first | rfl | omega | (simp; done) | (simp; omega)) : o.from_ = (EL.mk o.from_ 0).key)) (lcons (congrArg (vI .i64) ((by first | rfl | omega | (simp; done) | (simp; omega)) : 0 = (EL.mk o.from_ 0).val)) rfl))) rfl)) cb48 (btL48 R r T b8_ b2_ o (EL.mk o.from_ 0) (by first | assumption | omega) (by first | assumption | omega)) H128_ ?_)
     rintro v125_ p132_ w129_ ⟨O126_, rfl, rfl, he127_⟩ S131_ H130_
     have S133_ := Same.trans S33_ S131_
     have hbl_ := he127_.trans (bl13 (o := o) (tOk_srt hT) (by omega))
     have H134_ := ((Holds.bring H130_ 2 rfl) :)
     obtain ⟨ov135_, H136_⟩ := Holds.out_out H134_
     have H137_ := Holds.resl H136_ 1 rfl (by rw [hbl_] : O126_.flatMap EL.cells = (bList o (tel T)).flatMap EL.cells) (by rw [hbl_] : (List.length O126_) = (List.length (bList o (tel T))))
     refine wpList_nil (X_blkN (X_then (hK34_ _ _ ?_)))
     refine cR fun _ hK138_ => ?_
     refine sv (v := ov135_) (x_load1 rfl underlying22 rfl ((Holds.rd H137_ 0 rfl) 0 ov135_ rfl)) ?_
     refine sv (v := ov135_) (x_assign rfl) ?_
     refine wn (hK138_ _ _ ?_)
     refine C_ret ?_
     refine R_any (v := ov135_) (run_results1 rfl rfl) ?_
     have H139_ := ((Holds.bring (Holds.bring H137_ 1 rfl) 3 rfl) :)
     obtain ⟨R140_, hs141_, ⟨R142_, ha143_, hs144_⟩, H145_⟩ := Holds.gift H139_
     have hr146_ : RS R140_ 2 ov135_ (List.length (bList o (tel T))) ((bList o (tel T)).flatMap EL.cells) := (sl_RS ha143_ (Sub.rfl' _)).mono hs144_
     have H147_ := Holds.pkF H145_ [0, 2] 4
     exact ⟨R140_, _, _, rfl, hs141_, ⟨ov135_, rfl, rfl, (hr146_)⟩, S133_, H147_⟩
    ·have c121_fp : ¬ (o.kind = 13) := of_decide_eq_false c121_f
     refine cR fun _ hK148_ => ?_
     refine sv (v := (vB (decide (o.kind = 14)))) (x_bin rfl rfl rfl) ?_
     refine sv (v := (vB (decide (o.kind = 14)))) (x_assign rfl) ?_
     refine wn (hK148_ _ _ ?_)
     refine C_cond (b := decide (o.kind = 14)) rfl (fun c149_t => ?_) (fun c149_f => ?_)
     ·have c149_tp : o.kind = 14 := of_decide_eq_true c149_t
      refine C_reg ?_
      refine sm (vP (some ⟨r.tb, 0, none⟩)) ?_
      refine sm (Value.func (.func 44) #[] #[(vP (some ⟨b8_, 0, none⟩)), (vP (some ⟨b2_, 0, none⟩))]) ?_
      have H150_ : Holds w30_ (sl 24 2 (vS none 0 0) (List.length ([] : List EL)) (([] : List EL).flatMap EL.cells) :: cl b25_ 24 [(vI .i64 o.till), (vI .i64 0)] :: cl b15_ 24 [(vI .i64 o.from_), (vI .i64 0)] :: cl b8_ 22 [(vS none 0 0)] :: cl b2_ 30 [(vI .i64 o.kind), (vI .i64 o.tree), (vI .i64 o.el_Key), (vI .i64 o.el_Val), (vI .i64 o.from_), (vI .i64 o.till), (vI .i64 o.most), (vB o.again)] :: ro R :: treeP r T :: F) := Holds.add_nil H31_ 24 2
      have H151_ := ((Holds.bring (Holds.bring (Holds.bring H150_ 4 rfl) 1 rfl) 4 rfl) :)
      have H152_ := Holds.out_in (q := o) H151_
      have H156_ := ((Holds.bring (Holds.bring H152_ 4 rfl) 4 rfl) :)
      refine S_list (T_call (al := [(vP (some ⟨r.tb, 0, none⟩)), (Value.func (.func 44) #[] #[(vP (some ⟨b8_, 0, none⟩)), (vP (some ⟨b2_, 0, none⟩))])]) (pre := [treeP r T, outP b8_ b2_ o ([] : List EL)]) rfl rfl cb49 (btL49 R r T b8_ b2_ o (by first | assumption | omega) (by first | assumption | omega)) H156_ ?_)
      rintro v153_ p160_ w157_ ⟨O154_, rfl, rfl, he155_⟩ S159_ H158_
      have S161_ := Same.trans S33_ S159_
      have hbl_ := he155_.trans (bl14 (o := o) (tOk_srt hT) (by omega))
      have H162_ := ((Holds.bring H158_ 2 rfl) :)
      obtain ⟨ov163_, H164_⟩ := Holds.out_out H162_
      have H165_ := Holds.resl H164_ 1 rfl (by rw [hbl_] : O154_.flatMap EL.cells = (bList o (tel T)).flatMap EL.cells) (by rw [hbl_] : (List.length O154_) = (List.length (bList o (tel T))))
      refine wpList_nil (X_blkN (X_then (hK34_ _ _ ?_)))
      refine cR fun _ hK166_ => ?_
      refine sv (v := ov163_) (x_load1 rfl underlying22 rfl ((Holds.rd H165_ 0 rfl) 0 ov163_ rfl)) ?_
      refine sv (v := ov163_) (x_assign rfl) ?_
      refine wn (hK166_ _ _ ?_)
      refine C_ret ?_
      refine R_any (v := ov163_) (run_results1 rfl rfl) ?_
      have H167_ := ((Holds.bring (Holds.bring H165_ 1 rfl) 3 rfl) :)
      obtain ⟨R168_, hs169_, ⟨R170_, ha171_, hs172_⟩, H173_⟩ := Holds.gift H167_
      have hr174_ : RS R168_ 2 ov163_ (List.length (bList o (tel T))) ((bList o (tel T)).flatMap EL.cells) := (sl_RS ha171_ (Sub.rfl' _)).mono hs172_
      have H175_ := Holds.pkF H173_ [0, 2] 4
      exact ⟨R168_, _, _, rfl, hs169_, ⟨ov163_, rfl, rfl, (hr174_)⟩, S161_, H175_⟩
     ·have c149_fp : ¬ (o.kind = 14) := of_decide_eq_false c149_f
      refine cR fun _ hK176_ => ?_
      refine sv (v := (vB (decide (o.kind = 15)))) (x_bin rfl rfl rfl) ?_
      refine sv (v := (vB (decide (o.kind = 15)))) (x_assign rfl) ?_
      refine wn (hK176_ _ _ ?_)
      refine C_cond (b := decide (o.kind = 15)) rfl (fun c177_t => ?_) (fun c177_f => ?_)
      ·have c177_tp : o.kind = 15 := of_decide_eq_true c177_t
       refine C_reg ?_
       refine sm (vP (some ⟨r.tb, 0, none⟩)) ?_
       refine sv (v := (vA #[(vI .i64 o.from_), (vI .i64 0)])) (x_loadN (vs := [(vI .i64 o.from_), (vI .i64 0)]) rfl underlying24 rfl z24 rfl (Rd.cells (Holds.rd H31_ 1 rfl) 0 rfl)) ?_
       refine sv (v := (vA #[(vI .i64 o.till), (vI .i64 0)])) (x_loadN (vs := [(vI .i64 o.till), (vI .i64 0)]) rfl underlying24 rfl z24 rfl (Rd.cells (Holds.rd H31_ 0 rfl) 0 rfl)) ?_
       refine sm (Value.func (.func 44) #[] #[(vP (some ⟨b8_, 0, none⟩)), (vP (some ⟨b2_, 0, none⟩))]) ?_
       have H178_ : Holds w30_ (sl 24 2 (vS none 0 0) (List.length ([] : List EL)) (([] : List EL).flatMap EL.cells) :: cl b25_ 24 [(vI .i64 o.till), (vI .i64 0)] :: cl b15_ 24 [(vI .i64 o.from_), (vI .i64 0)] :: cl b8_ 22 [(vS none 0 0)] :: cl b2_ 30 [(vI .i64 o.kind), (vI .i64 o.tree), (vI .i64 o.el_Key), (vI .i64 o.el_Val), (vI .i64 o.from_), (vI .i64 o.till), (vI .i64 o.most), (vB o.again)] :: ro R :: treeP r T :: F) := Holds.add_nil H31_ 24 2
       have H179_ := ((Holds.bring (Holds.bring (Holds.bring H178_ 4 rfl) 1 rfl) 4 rfl) :)
       have H180_ := Holds.out_in (q := o) H179_
       have H184_ := ((Holds.bring (Holds.bring H180_ 4 rfl) 4 rfl) :)
       refine S_list (T_call (al := [(vP (some ⟨r.tb, 0, none⟩)), (vA #[(vI .i64 ((EL.mk o.from_ 0).key)), (vI .i64 ((EL.mk o.from_ 0).val))]), (vA #[(vI .i64 ((EL.mk o.till 0).key)), (vI .i64 ((EL.mk o.till 0).val))]), (Value.func (.func 44) #[] #[(vP (some ⟨b8_, 0, none⟩)), (vP (some ⟨b2_, 0, none⟩))])]) (pre := [treeP r T, outP b8_ b2_ o ([] : List EL)]) rfl (lcons rfl (lcons (congrArg (fun l => vA (List.toArray l)) (lcons (congrArg (vI .i64) ((by first | rfl | omega | (simp; done) | (simp; omega)) : o.from_ = (EL.mk o.from_ 0).key)) (lcons (congrArg (vI .i64) ((by first | rfl | omega | (simp; done) | (simp; omega)) : 0 = (EL.mk o.from_ 0).val)) rfl))) (lcons (congrArg (fun l => vA (List.toArray l)) (lcons (congrArg (vI .i64) ((by first | rfl | omega | (simp; done) | (simp; omega)) : o.till = (EL.mk o.till 0).key)) (lcons (congrArg (vI .i64) ((by first | rfl | omega | (simp; done) | (simp; omega)) : 0 = (EL.mk o.till 0).val)) rfl))) rfl))) cb50 (btL50 R r T b8_ b2_ o (EL.mk o.from_ 0) (EL.mk o.till 0) (by first | assumption | omega) (by first | assumption | omega)) H184_ ?_)
       rintro v181_ p188_ w185_ ⟨O182_, rfl, rfl, he183_⟩ S187_ H186_
       have S189_ := Same.trans S33_ S187_
       have hbl_ := he183_.trans (bl15 (o := o) (tOk_srt hT) (by omega))
       have H190_ := ((Holds.bring H186_ 2 rfl) :)
       obtain ⟨ov191_, H192_⟩ := Holds.out_out H190_
       have H193_ := Holds.resl H192_ 1 rfl (by rw [hbl_] : O182_.flatMap EL.cells = (bList o (tel T)).flatMap EL.cells) (by rw [hbl_] : (List.length O182_) = (List.length (bList o (tel T))))
       refine wpList_nil (X_blkN (X_then (hK34_ _ _ ?_)))
       refine cR fun _ hK194_ => ?_
       refine sv (v := ov191_) (x_load1 rfl underlying22 rfl ((Holds.rd H193_ 0 rfl) 0 ov191_ rfl)) ?_
       refine sv (v := ov191_) (x_assign rfl) ?_
       refine wn (hK194_ _ _ ?_)
       refine C_ret ?_
       refine R_any (v := ov191_) (run_results1 rfl rfl) ?_
       have H195_ := ((Holds.bring (Holds.bring H193_ 1 rfl) 3 rfl) :)
       obtain ⟨R196_, hs197_, ⟨R198_, ha199_, hs200_⟩, H201_⟩ := Holds.gift H195_
       have hr202_ : RS R196_ 2 ov191_ (List.length (bList o (tel T))) ((bList o (tel T)).flatMap EL.cells) := (sl_RS ha199_ (Sub.rfl' _)).mono hs200_
       have H203_ := Holds.pkF H201_ [0, 2] 4
       exact ⟨R196_, _, _, rfl, hs197_, ⟨ov191_, rfl, rfl, (hr202_)⟩, S189_, H203_⟩
      ·have c177_fp : ¬ (o.kind = 15) := of_decide_eq_false c177_f
       refine cR fun _ hK204_ => ?_
       refine sv (v := (vB (decide (o.kind = 16)))) (x_bin rfl rfl rfl) ?_
       refine sv (v := (vB (decide (o.kind = 16)))) (x_assign rfl) ?_
       refine wn (hK204_ _ _ ?_)
       refine C_cond (b := decide (o.kind = 16)) rfl (fun c205_t => ?_) (fun c205_f => ?_)
       ·have c205_tp : o.kind = 16 := of_decide_eq_true c205_t
        refine C_reg ?_
        refine sm (vP (some ⟨r.tb, 0, none⟩)) ?_
        refine sv (v := (vA #[(vI .i64 o.from_), (vI .i64 0)])) (x_loadN (vs := [(vI .i64 o.from_), (vI .i64 0)]) rfl underlying24 rfl z24 rfl (Rd.cells (Holds.rd H31_ 1 rfl) 0 rfl)) ?_
        refine sm (Value.func (.func 44) #[] #[(vP (some ⟨b8_, 0, none⟩)), (vP (some ⟨b2_, 0, none⟩))]) ?_
        have H206_ : Holds w30_ (sl 24 2 (vS none 0 0) (List.length ([] : List EL)) (([] : List EL).flatMap EL.cells) :: cl b25_ 24 [(vI .i64 o.till), (vI .i64 0)] :: cl b15_ 24 [(vI .i64 o.from_), (vI .i64 0)] :: cl b8_ 22 [(vS none 0 0)] :: cl b2_ 30 [(vI .i64 o.kind), (vI .i64 o.tree), (vI .i64 o.el_Key), (vI .i64 o.el_Val), (vI .i64 o.from_), (vI .i64 o.till), (vI .i64 o.most), (vB o.again)] :: ro R :: treeP r T :: F) := Holds.add_nil H31_ 24 2
        have H207_ := ((Holds.bring (Holds.bring (Holds.bring H206_ 4 rfl) 1 rfl) 4 rfl) :)
        have H208_ := Holds.out_in (q := o) H207_
        have H212_ := ((Holds.bring (Holds.bring H208_ 4 rfl) 4 rfl) :)
        refine S_list (T_call (al := [(vP (some ⟨r.tb, 0, none⟩)), (vA #[(vI .i64 ((EL.mk o.from_ 0).key)), (vI .i64 ((EL.mk o.from_ 0).val))]), (Value.func (.func 44) #[] #[(vP (some ⟨b8_, 0, none⟩)), (vP (some ⟨b2_, 0, none⟩))])]) (pre := [treeP r T, outP b8_ b2_ o ([] : List EL)]) rfl (lcons rfl (lcons (congrArg (fun l => vA (List.toArray l)) (lcons (congrArg (vI .i64) ((by first | rfl | omega | (simp; done) | (simp; omega)) : o.from_ = (EL.mk o.from_ 0).key)) (lcons (congrArg (vI .i64) ((by first | rfl | omega | (simp; done) | (simp; omega)) : 0 = (EL.mk o.from_ 0).val)) rfl))) rfl)) cb51 (btL51 R r T b8_ b2_ o (EL.mk o.from_ 0) (by first | assumption | omega) (by first | assumption | omega)) H212_ ?_)
        rintro v209_ p216_ w213_ ⟨O210_, rfl, rfl, he211_⟩ S215_ H214_
        have S217_ := Same.trans S33_ S215_
        have hbl_ := he211_.trans (bl16 (o := o) (tOk_srt hT) (by omega))
        have H218_ := ((Holds.bring H214_ 2 rfl) :)
        obtain ⟨ov219_, H220_⟩ := Holds.out_out H218_
        have H221_ := Holds.resl H220_ 1 rfl (by rw [hbl_] : O210_.flatMap EL.cells = (bList o (tel T)).flatMap EL.cells) (by rw [hbl_] : (List.length O210_) = (List.length (bList o (tel T))))
        refine wpList_nil (X_blkN (X_then (hK34_ _ _ ?_)))
        refine cR fun _ hK222_ => ?_
        refine sv (v := ov219_) (x_load1 rfl underlying22 rfl ((Holds.rd H221_ 0 rfl) 0 ov219_ rfl)) ?_
        refine sv (v := ov219_) (x_assign rfl) ?_
        refine wn (hK222_ _ _ ?_)
        refine C_ret ?_
        refine R_any (v := ov219_) (run_results1 rfl rfl) ?_
        have H223_ := ((Holds.bring (Holds.bring H221_ 1 rfl) 3 rfl) :)
        obtain ⟨R224_, hs225_, ⟨R226_, ha227_, hs228_⟩, H229_⟩ := Holds.gift H223_
        have hr230_ : RS R224_ 2 ov219_ (List.length (bList o (tel T))) ((bList o (tel T)).flatMap EL.cells) := (sl_RS ha227_ (Sub.rfl' _)).mono hs228_
        have H231_ := Holds.pkF H229_ [0, 2] 4
        exact ⟨R224_, _, _, rfl, hs225_, ⟨ov219_, rfl, rfl, (hr230_)⟩, S217_, H231_⟩
       ·have c205_fp : ¬ (o.kind = 16) := of_decide_eq_false c205_f
        refine cR fun _ hK232_ => ?_
        refine sv (v := (vB (decide (o.kind = 17)))) (x_bin rfl rfl rfl) ?_
        refine sv (v := (vB (decide (o.kind = 17)))) (x_assign rfl) ?_
        refine wn (hK232_ _ _ ?_)
        refine C_cond (b := decide (o.kind = 17)) rfl (fun c233_t => ?_) (fun c233_f => ?_)
        ·have c233_tp : o.kind = 17 := of_decide_eq_true c233_t
         refine C_reg ?_
         refine sm (vP (some ⟨r.tb, 0, none⟩)) ?_
         refine sv (v := (vA #[(vI .i64 o.till), (vI .i64 0)])) (x_loadN (vs := [(vI .i64 o.till), (vI .i64 0)]) rfl underlying24 rfl z24 rfl (Rd.cells (Holds.rd H31_ 0 rfl) 0 rfl)) ?_
         refine sm (Value.func (.func 44) #[] #[(vP (some ⟨b8_, 0, none⟩)), (vP (some ⟨b2_, 0, none⟩))]) ?_
         have H234_ : Holds w30_ (sl 24 2 (vS none 0 0) (List.length ([] : List EL)) (([] : List EL).flatMap EL.cells) :: cl b25_ 24 [(vI .i64 o.till), (vI .i64 0)] :: cl b15_ 24 [(vI .i64 o.from_), (vI .i64 0)] :: cl b8_ 22 [(vS none 0 0)] :: cl b2_ 30 [(vI .i64 o.kind), (vI .i64 o.tree), (vI .i64 o.el_Key), (vI .i64 o.el_Val), (vI .i64 o.from_), (vI .i64 o.till), (vI .i64 o.most), (vB o.again)] :: ro R :: treeP r T :: F) := Holds.add_nil H31_ 24 2
         have H235_ := ((Holds.bring (Holds.bring (Holds.bring H234_ 4 rfl) 1 rfl) 4 rfl) :)
         have H236_ := Holds.out_in (q := o) H235_
         have H240_ := ((Holds.bring (Holds.bring H236_ 4 rfl) 4 rfl) :)
         refine S_list (T_call (al := [(vP (some ⟨r.tb, 0, none⟩)), (vA #[(vI .i64 ((EL.mk o.till 0).key)), (vI .i64 ((EL.mk o.till 0).val))]), (Value.func (.func 44) #[] #[(vP (some ⟨b8_, 0, none⟩)), (vP (some ⟨b2_, 0, none⟩))])]) (pre := [treeP r T, outP b8_ b2_ o ([] : List EL)]) rfl (lcons rfl (lcons (congrArg (fun l => vA (List.toArray l)) (lcons (congrArg (vI .i64) ((by first | rfl | omega | (simp; done) | (simp; omega)) : o.till = (EL.mk o.till 0).key)) (lcons (congrArg (vI .i64) ((by first | rfl | omega | (simp; done) | (simp; omega)) : 0 = (EL.mk o.till 0).val)) rfl))) rfl)) cb52 (btL52 R r T b8_ b2_ o (EL.mk o.till 0) (by first | assumption | omega) (by first | assumption | omega)) H240_ ?_)
         rintro v237_ p244_ w241_ ⟨O238_, rfl, rfl, he239_⟩ S243_ H242_
         have S245_ := Same.trans S33_ S243_
         have hbl_ := he239_.trans (bl17 (o := o) (tOk_srt hT) (by omega))
         have H246_ := ((Holds.bring H242_ 2 rfl) :)
         obtain ⟨ov247_, H248_⟩ := Holds.out_out H246_
         have H249_ := Holds.resl H248_ 1 rfl (by rw [hbl_] : O238_.flatMap EL.cells = (bList o (tel T)).flatMap EL.cells) (by rw [hbl_] : (List.length O238_) = (List.length (bList o (tel T))))
         refine wpList_nil (X_blkN (X_then (hK34_ _ _ ?_)))
         refine cR fun _ hK250_ => ?_
         refine sv (v := ov247_) (x_load1 rfl underlying22 rfl ((Holds.rd H249_ 0 rfl) 0 ov247_ rfl)) ?_
         refine sv (v := ov247_) (x_assign rfl) ?_
         refine wn (hK250_ _ _ ?_)
         refine C_ret ?_
         refine R_any (v := ov247_) (run_results1 rfl rfl) ?_
         have H251_ := ((Holds.bring (Holds.bring H249_ 1 rfl) 3 rfl) :)
         obtain ⟨R252_, hs253_, ⟨R254_, ha255_, hs256_⟩, H257_⟩ := Holds.gift H251_
         have hr258_ : RS R252_ 2 ov247_ (List.length (bList o (tel T))) ((bList o (tel T)).flatMap EL.cells) := (sl_RS ha255_ (Sub.rfl' _)).mono hs256_
         have H259_ := Holds.pkF H257_ [0, 2] 4
         exact ⟨R252_, _, _, rfl, hs253_, ⟨ov247_, rfl, rfl, (hr258_)⟩, S245_, H259_⟩
        ·have c233_fp : ¬ (o.kind = 17) := of_decide_eq_false c233_f
         omega
end Go.Proofs.Ytdfjdmmmlidamaa
set_option linter.unusedVariables false
set_option linter.unusedSimpArgs false
namespace Go.Proofs.Ytdfjdmmmlidamaa
open Go Go.RowKit Gw Try
open Go.Value renaming int → vI, bool → vB, slice → vS, pointer → vP, agg → vA, tuple → vT

set_option maxHeartbeats 8000000 in
theorem btGrown (R : HP) (r : TR) (T : Option (Sigma BT)) (o : BO) (hT : tOk T) (hn : (tel T).length ≤ 100000) (hd : 2 ≤ r.d ∧ r.d ≤ 64) (hk : (o.tree = 0 ∧ (o.kind = 1 ∨ o.kind = 3 ∨ o.kind = 10 ∨ o.kind = 11 ∨ o.kind = 12 ∨ o.kind = 13 ∨ o.kind = 14 ∨ o.kind = 15 ∨ o.kind = 16 ∨ o.kind = 17))) :
    TriG Try.prog 18 #[(vP (some ⟨r.tb, 0, none⟩)), (vA #[(vI .i64 o.kind), (vI .i64 o.tree), (vI .i64 o.el_Key), (vI .i64 o.el_Val), (vI .i64 o.from_), (vI .i64 o.till), (vI .i64 o.most), (vB o.again)])] R [treeP r T] (fun R' v__ post__ => ∃ (T' : Option (Sigma BT)) (a : BA), v__ = (vA #[(vI .i64 a.err), (vB a.oK), (vI .i64 a.n), (vI .i64 a.el_Key), (vI .i64 a.el_Val), a.list]) ∧ post__ = [treeP r T'] ∧ (tOk T') ∧ (tel T' = bNext o (tel T)) ∧ (BAns R' o (tel T) a)) := by
 refine TriG.into (n := 101) (al := [(vP (some ⟨r.tb, 0, none⟩)), (vA #[(vI .i64 o.kind), (vI .i64 o.tree), (vI .i64 o.el_Key), (vI .i64 o.el_Val), (vI .i64 o.from_), (vI .i64 o.till), (vI .i64 o.most), (vB o.again)])]) func18 rfl ntmps18 rfl rfl fun w F H => ?_
 refine cR fun _ hK1_ => ?_
 refine S_list (T_box (v := (vA #[(vI .i64 o.kind), (vI .i64 o.tree), (vI .i64 o.el_Key), (vI .i64 o.el_Val), (vI .i64 o.from_), (vI .i64 o.till), (vI .i64 o.most), (vB o.again)])) rfl H ?_)
 intro b2_ w3_ S5_ H4_
 have S6_ := Same.trans (Same.refl w) S5_
 refine S_list (T_alloc z32 H4_ ?_)
 intro b7_ w8_ S10_ H9_
 have S11_ := Same.trans S6_ S10_
 refine wn (hK1_ _ _ ?_)
 refine cR fun _ hK12_ => ?_
 refine sv (v := (vA #[(vI .i64 0), (vB false), (vI .i64 0), (vI .i64 0), (vI .i64 0), (vS none 0 0)])) (by kernel_rfl) ?_
 refine S_list (T_alloc z32 H9_ ?_)
 intro b13_ w14_ S16_ H15_
 have S17_ := Same.trans S11_ S16_
 refine S_list0 (T_storeN (vs := [(vI .i64 0), (vB false), (vI .i64 0), (vI .i64 0), (vI .i64 0), (vS none 0 0)]) rfl rfl z32 rfl (by simp [Value.oneCell']) H15_ 0 rfl (Nat.le_of_ble_eq_true (by rfl)) ?_)
 intro w18_ S20_ H19_
 have S21_ := Same.trans S17_ S20_
 refine wn (hK12_ _ _ ?_)
 refine C_seq (fun _ hK22_ => ?_)
 refine cR fun _ hK23_ => ?_
 refine sv (v := (vP (some ⟨b2_, 0, none⟩))) (by kernel_rfl) ?_
 refine sv (v := (vI .i64 o.kind)) (x_load1 rfl underlying3 rfl ((Holds.rd H19_ 2 rfl) 0 (vI .i64 o.kind) rfl)) ?_
 refine wn (hK23_ _ _ ?_)
 refine C_block ?_
 refine cR fun _ hK24_ => ?_
 refine sv (v := (vB (decide (o.kind = 1)))) (x_bin rfl rfl rfl) ?_
 refine sv (v := (vB (decide (o.kind = 1)))) (x_assign rfl) ?_
 refine wn (hK24_ _ _ ?_)
 refine C_cond (b := decide (o.kind = 1)) rfl (fun c25_t => ?_) (fun c25_f => ?_)
 ·have c25_tp : o.kind = 1 := of_decide_eq_true c25_t
  refine C_reg ?_
  refine sm (vP (some ⟨r.tb, 0, none⟩)) ?_
  refine sv (v := (vP (some ⟨b2_, 2, none⟩))) (by kernel_rfl) ?_
  refine sv (v := (vA #[(vI .i64 o.el_Key), (vI .i64 o.el_Val)])) (x_loadN (vs := [(vI .i64 o.el_Key), (vI .i64 o.el_Val)]) rfl underlying24 rfl z24 rfl (Rd.cells (Holds.rd H19_ 2 rfl) 2 rfl)) ?_
  have H33_ := ((Holds.bring (Holds.bring H19_ 4 rfl) 4 rfl) :)
  refine S_list (T_call (al := [(vP (some ⟨r.tb, 0, none⟩)), (vA #[(vI .i64 ((elO o).key)), (vI .i64 ((elO o).val))])]) (pre := [treeP r T]) rfl (lcons rfl (lcons (congrArg (fun l => vA (List.toArray l)) (lcons (congrArg (vI .i64) ((by first | rfl | omega | (simp; done) | (simp; omega)) : o.el_Key = (elO o).key)) (lcons (congrArg (vI .i64) ((by first | rfl | omega | (simp; done) | (simp; omega)) : o.el_Val = (elO o).val)) rfl))) rfl)) cb23 (btRO R r T (elO o) (by first | assumption | omega) (by first | assumption | omega) (by first | assumption | omega)) H33_ ?_)
  rintro v26_ p37_ w34_ ⟨T27_, o28_, b29_, rfl, rfl, he30_, he31_, he32_⟩ S36_ H35_
  have S38_ := Same.trans S21_ S36_
  refine sm (vT #[(vA #[(vI .i64 o28_.key), (vI .i64 o28_.val)]), (vB b29_)]) ?_
  refine sv (v := (vA #[(vI .i64 o28_.key), (vI .i64 o28_.val)])) (by kernel_rfl) ?_
  refine sv (v := (vB b29_)) (by kernel_rfl) ?_
  refine sv (v := (vP (some ⟨b13_, 3, none⟩))) (by kernel_rfl) ?_
  refine S_list0 (T_storeN (vs := [(vI .i64 o28_.key), (vI .i64 o28_.val)]) rfl rfl z24 rfl (by simp [Value.oneCell']) H35_ 2 rfl (Nat.le_of_ble_eq_true (by rfl)) ?_)
  intro w39_ S41_ H40_
  have S42_ := Same.trans S38_ S41_
  refine sv (v := (vP (some ⟨b13_, 1, none⟩))) (by kernel_rfl) ?_
  refine S_list0 (T_store1 (v := (vB b29_)) rfl rfl z4 rfl H40_ 2 rfl (Nat.le_of_ble_eq_true (by rfl)) ?_)
  intro w43_ S45_ H44_
  have S46_ := Same.trans S42_ S45_
  refine wpList_nil (X_blkN (X_then (hK22_ _ _ ?_)))
  refine cR fun _ hK47_ => ?_
  refine sv (v := (vA #[(vI .i64 0), (vB b29_), (vI .i64 0), (vI .i64 o28_.key), (vI .i64 o28_.val), (vS none 0 0)])) (x_loadN (vs := [(vI .i64 0), (vB b29_), (vI .i64 0), (vI .i64 o28_.key), (vI .i64 o28_.val), (vS none 0 0)]) rfl underlying32 rfl z32 rfl (Rd.cells (Holds.rd H44_ 2 rfl) 0 rfl)) ?_
  refine S_list0 (T_storeN (vs := [(vI .i64 0), (vB b29_), (vI .i64 0), (vI .i64 o28_.key), (vI .i64 o28_.val), (vS none 0 0)]) rfl rfl z32 rfl (by simp [Value.oneCell']) H44_ 3 rfl (Nat.le_of_ble_eq_true (by rfl)) ?_)
  intro w48_ S50_ H49_
  have S51_ := Same.trans S46_ S50_
  refine wn (hK47_ _ _ ?_)
  refine C_ret ?_
  refine R_any (v := (vA #[(vI .i64 0), (vB b29_), (vI .i64 0), (vI .i64 o28_.key), (vI .i64 o28_.val), (vS none 0 0)])) (run_results1 rfl ⟨_, rfl, load_resN underlying32 rfl z32 rfl (vs := [(vI .i64 0), (vB b29_), (vI .i64 0), (vI .i64 o28_.key), (vI .i64 o28_.val), (vS none 0 0)]) (Holds.cl_cells H49_ 3 rfl 0 rfl)⟩) ?_
  have H52_ := Holds.pkF H49_ [0, 0] 3
  exact ⟨R, _, _, rfl, (Sub.rfl' _), ⟨T27_, (BA.mk 0 b29_ 0 o28_.key o28_.val (vS none 0 0)), (congrArg (fun l => vA (List.toArray l)) (lcons (congrArg (vI .i64) ((by first | rfl | omega | (simp; done) | (simp; omega)) : 0 = (BA.mk 0 b29_ 0 o28_.key o28_.val (vS none 0 0)).err)) (lcons (congrArg vB ((by first | rfl | omega | (simp; done) | (simp; omega)) : b29_ = ((BA.mk 0 b29_ 0 o28_.key o28_.val (vS none 0 0)).oK))) (lcons (congrArg (vI .i64) ((by first | rfl | omega | (simp; done) | (simp; omega)) : 0 = (BA.mk 0 b29_ 0 o28_.key o28_.val (vS none 0 0)).n)) (lcons (congrArg (vI .i64) ((by first | rfl | omega | (simp; done) | (simp; omega)) : o28_.key = (BA.mk 0 b29_ 0 o28_.key o28_.val (vS none 0 0)).el_Key)) (lcons (congrArg (vI .i64) ((by first | rfl | omega | (simp; done) | (simp; omega)) : o28_.val = (BA.mk 0 b29_ 0 o28_.key o28_.val (vS none 0 0)).el_Val)) (lcons ((by first | rfl | omega | (simp; done) | (simp; omega)) : (vS none 0 0) = ((BA.mk 0 b29_ 0 o28_.key o28_.val (vS none 0 0)).list)) rfl))))))), rfl, (he30_), (he31_.trans (by unfold bNext; rw [if_pos (by omega)])), (⟨rfl, fun _ => he32_, fun hq => absurd hq (by omega), lst_none (by omega)⟩)⟩, S51_, H52_⟩
 ·have c25_fp : ¬ (o.kind = 1) := of_decide_eq_false c25_f
  refine cR fun _ hK53_ => ?_
  refine sv (v := (vB (decide (o.kind = 2)))) (x_bin rfl rfl rfl) ?_
  refine sv (v := (vB (decide (o.kind = 2)))) (x_assign rfl) ?_
  refine wn (hK53_ _ _ ?_)
  refine C_cond (b := decide (o.kind = 2)) rfl (fun c54_t => ?_) (fun c54_f => ?_)
  ·have c54_tp : o.kind = 2 := of_decide_eq_true c54_t
   omega
  ·have c54_fp : ¬ (o.kind = 2) := of_decide_eq_false c54_f
   refine cR fun _ hK55_ => ?_
   refine sv (v := (vB (decide (o.kind = 3)))) (x_bin rfl rfl rfl) ?_
   refine sv (v := (vB (decide (o.kind = 3)))) (x_assign rfl) ?_
   refine wn (hK55_ _ _ ?_)
   refine C_cond (b := decide (o.kind = 3)) rfl (fun c56_t => ?_) (fun c56_f => ?_)
   ·have c56_tp : o.kind = 3 := of_decide_eq_true c56_t
    refine C_reg ?_
    refine sm (vP (some ⟨r.tb, 0, none⟩)) ?_
    refine sv (v := (vP (some ⟨b2_, 2, none⟩))) (by kernel_rfl) ?_
    refine sv (v := (vA #[(vI .i64 o.el_Key), (vI .i64 o.el_Val)])) (x_loadN (vs := [(vI .i64 o.el_Key), (vI .i64 o.el_Val)]) rfl underlying24 rfl z24 rfl (Rd.cells (Holds.rd H19_ 2 rfl) 2 rfl)) ?_
    have H61_ := ((Holds.bring (Holds.bring H19_ 4 rfl) 4 rfl) :)
    refine S_list (T_call (al := [(vP (some ⟨r.tb, 0, none⟩)), (vA #[(vI .i64 ((elO o).key)), (vI .i64 ((elO o).val))])]) (pre := [treeP r T]) rfl (lcons rfl (lcons (congrArg (fun l => vA (List.toArray l)) (lcons (congrArg (vI .i64) ((by first | rfl | omega | (simp; done) | (simp; omega)) : o.el_Key = (elO o).key)) (lcons (congrArg (vI .i64) ((by first | rfl | omega | (simp; done) | (simp; omega)) : o.el_Val = (elO o).val)) rfl))) rfl)) cb25 (btGt R r T (elO o) (by first | assumption | omega) (by first | assumption | omega)) H61_ ?_)
    rintro v57_ p65_ w62_ ⟨o58_, b59_, rfl, rfl, he60_⟩ S64_ H63_
    have S66_ := Same.trans S21_ S64_
    refine sm (vT #[(vA #[(vI .i64 o58_.key), (vI .i64 o58_.val)]), (vB b59_)]) ?_
    refine sv (v := (vA #[(vI .i64 o58_.key), (vI .i64 o58_.val)])) (by kernel_rfl) ?_
    refine sv (v := (vB b59_)) (by kernel_rfl) ?_
    refine sv (v := (vP (some ⟨b13_, 3, none⟩))) (by kernel_rfl) ?_
    refine S_list0 (T_storeN (vs := [(vI .i64 o58_.key), (vI .i64 o58_.val)]) rfl rfl z24 rfl (by simp [Value.oneCell']) H63_ 2 rfl (Nat.le_of_ble_eq_true (by rfl)) ?_)
    intro w67_ S69_ H68_
    have S70_ := Same.trans S66_ S69_
    refine sv (v := (vP (some ⟨b13_, 1, none⟩))) (by kernel_rfl) ?_
    refine S_list0 (T_store1 (v := (vB b59_)) rfl rfl z4 rfl H68_ 2 rfl (Nat.le_of_ble_eq_true (by rfl)) ?_)
    intro w71_ S73_ H72_
    have S74_ := Same.trans S70_ S73_
    refine wpList_nil (X_blkN (X_then (hK22_ _ _ ?_)))
    refine cR fun _ hK75_ => ?_
    refine sv (v := (vA #[(vI .i64 0), (vB b59_), (vI .i64 0), (vI .i64 o58_.key), (vI .i64 o58_.val), (vS none 0 0)])) (x_loadN (vs := [(vI .i64 0), (vB b59_), (vI .i64 0), (vI .i64 o58_.key), (vI .i64 o58_.val), (vS none 0 0)]) rfl underlying32 rfl z32 rfl (Rd.cells (Holds.rd H72_ 2 rfl) 0 rfl)) ?_
    refine S_list0 (T_storeN (vs := [(vI .i64 0), (vB b59_), (vI .i64 0), (vI .i64 o58_.key), (vI .i64 o58_.val), (vS none 0 0)]) rfl rfl z32 rfl (by simp [Value.oneCell']) H72_ 3 rfl (Nat.le_of_ble_eq_true (by rfl)) ?_)
    intro w76_ S78_ H77_
    have S79_ := Same.trans S74_ S78_
    refine wn (hK75_ _ _ ?_)
    refine C_ret ?_
    refine R_any (v := (vA #[(vI .i64 0), (vB b59_), (vI .i64 0), (vI .i64 o58_.key), (vI .i64 o58_.val), (vS none 0 0)])) (run_results1 rfl ⟨_, rfl, load_resN underlying32 rfl z32 rfl (vs := [(vI .i64 0), (vB b59_), (vI .i64 0), (vI .i64 o58_.key), (vI .i64 o58_.val), (vS none 0 0)]) (Holds.cl_cells H77_ 3 rfl 0 rfl)⟩) ?_
    have H80_ := Holds.pkF H77_ [0, 0] 3
    exact ⟨R, _, _, rfl, (Sub.rfl' _), ⟨T, (BA.mk 0 b59_ 0 o58_.key o58_.val (vS none 0 0)), (congrArg (fun l => vA (List.toArray l)) (lcons (congrArg (vI .i64) ((by first | rfl | omega | (simp; done) | (simp; omega)) : 0 = (BA.mk 0 b59_ 0 o58_.key o58_.val (vS none 0 0)).err)) (lcons (congrArg vB ((by first | rfl | omega | (simp; done) | (simp; omega)) : b59_ = ((BA.mk 0 b59_ 0 o58_.key o58_.val (vS none 0 0)).oK))) (lcons (congrArg (vI .i64) ((by first | rfl | omega | (simp; done) | (simp; omega)) : 0 = (BA.mk 0 b59_ 0 o58_.key o58_.val (vS none 0 0)).n)) (lcons (congrArg (vI .i64) ((by first | rfl | omega | (simp; done) | (simp; omega)) : o58_.key = (BA.mk 0 b59_ 0 o58_.key o58_.val (vS none 0 0)).el_Key)) (lcons (congrArg (vI .i64) ((by first | rfl | omega | (simp; done) | (simp; omega)) : o58_.val = (BA.mk 0 b59_ 0 o58_.key o58_.val (vS none 0 0)).el_Val)) (lcons ((by first | rfl | omega | (simp; done) | (simp; omega)) : (vS none 0 0) = ((BA.mk 0 b59_ 0 o58_.key o58_.val (vS none 0 0)).list)) rfl))))))), rfl, (hT), ((by unfold bNext; rw [if_neg (by omega)])), (⟨rfl, fun _ => he60_, fun hq => absurd hq (by omega), lst_none (by omega)⟩)⟩, S79_, H80_⟩
   ·have c56_fp : ¬ (o.kind = 3) := of_decide_eq_false c56_f
    refine cR fun _ hK81_ => ?_
    refine sv (v := (vB (decide (o.kind = 4)))) (x_bin rfl rfl rfl) ?_
    refine sv (v := (vB (decide (o.kind = 4)))) (x_assign rfl) ?_
    refine wn (hK81_ _ _ ?_)
    refine C_cond (b := decide (o.kind = 4)) rfl (fun c82_t => ?_) (fun c82_f => ?_)
    ·have c82_tp : o.kind = 4 := of_decide_eq_true c82_t
     omega
    ·have c82_fp : ¬ (o.kind = 4) := of_decide_eq_false c82_f
     refine cR fun _ hK83_ => ?_
     refine sv (v := (vB (decide (o.kind = 5)))) (x_bin rfl rfl rfl) ?_
     refine sv (v := (vB (decide (o.kind = 5)))) (x_assign rfl) ?_
     refine wn (hK83_ _ _ ?_)
     refine C_cond (b := decide (o.kind = 5)) rfl (fun c84_t => ?_) (fun c84_f => ?_)
     ·have c84_tp : o.kind = 5 := of_decide_eq_true c84_t
      omega
     ·have c84_fp : ¬ (o.kind = 5) := of_decide_eq_false c84_f
      refine cR fun _ hK85_ => ?_
      refine sv (v := (vB (decide (o.kind = 6)))) (x_bin rfl rfl rfl) ?_
      refine sv (v := (vB (decide (o.kind = 6)))) (x_assign rfl) ?_
      refine wn (hK85_ _ _ ?_)
      refine C_cond (b := decide (o.kind = 6)) rfl (fun c86_t => ?_) (fun c86_f => ?_)
      ·have c86_tp : o.kind = 6 := of_decide_eq_true c86_t
       omega
      ·have c86_fp : ¬ (o.kind = 6) := of_decide_eq_false c86_f
       refine cR fun _ hK87_ => ?_
       refine sv (v := (vB (decide (o.kind = 7)))) (x_bin rfl rfl rfl) ?_
       refine sv (v := (vB (decide (o.kind = 7)))) (x_assign rfl) ?_
       refine wn (hK87_ _ _ ?_)
       refine C_cond (b := decide (o.kind = 7)) rfl (fun c88_t => ?_) (fun c88_f => ?_)
       ·have c88_tp : o.kind = 7 := of_decide_eq_true c88_t
        omega
       ·have c88_fp : ¬ (o.kind = 7) := of_decide_eq_false c88_f
        refine cR fun _ hK89_ => ?_
        refine sv (v := (vB (decide (o.kind = 8)))) (x_bin rfl rfl rfl) ?_
        refine sv (v := (vB (decide (o.kind = 8)))) (x_assign rfl) ?_
        refine wn (hK89_ _ _ ?_)
        refine C_cond (b := decide (o.kind = 8)) rfl (fun c90_t => ?_) (fun c90_f => ?_)
        ·have c90_tp : o.kind = 8 := of_decide_eq_true c90_t
         omega
        ·have c90_fp : ¬ (o.kind = 8) := of_decide_eq_false c90_f
         refine cR fun _ hK91_ => ?_
         refine sv (v := (vB (decide (o.kind = 9)))) (x_bin rfl rfl rfl) ?_
         refine sv (v := (vB (decide (o.kind = 9)))) (x_assign rfl) ?_
         refine wn (hK91_ _ _ ?_)
         refine C_cond (b := decide (o.kind = 9)) rfl (fun c92_t => ?_) (fun c92_f => ?_)
         ·have c92_tp : o.kind = 9 := of_decide_eq_true c92_t
          omega
         ·have c92_fp : ¬ (o.kind = 9) := of_decide_eq_false c92_f
          refine cR fun _ hK93_ => ?_
          refine sv (v := (vB (decide (o.kind = 19)))) (x_bin rfl rfl rfl) ?_
          refine sv (v := (vB (decide (o.kind = 19)))) (x_assign rfl) ?_
          refine wn (hK93_ _ _ ?_)
          refine C_cond (b := decide (o.kind = 19)) rfl (fun c94_t => ?_) (fun c94_f => ?_)
          ·have c94_tp : o.kind = 19 := of_decide_eq_true c94_t
           omega
          ·have c94_fp : ¬ (o.kind = 19) := of_decide_eq_false c94_f
           refine C_reg ?_
           refine sm (vP (some ⟨r.tb, 0, none⟩)) ?_
           refine sv (v := (vA #[(vI .i64 o.kind), (vI .i64 o.tree), (vI .i64 o.el_Key), (vI .i64 o.el_Val), (vI .i64 o.from_), (vI .i64 o.till), (vI .i64 o.most), (vB o.again)])) (x_loadN (vs := [(vI .i64 o.kind), (vI .i64 o.tree), (vI .i64 o.el_Key), (vI .i64 o.el_Val), (vI .i64 o.from_), (vI .i64 o.till), (vI .i64 o.most), (vB o.again)]) rfl underlying30 rfl z30 rfl (Rd.cells (Holds.rd H19_ 2 rfl) 0 rfl)) ?_
           have H99_ := ((Holds.bring (Holds.bring H19_ 4 rfl) 4 rfl) :)
           refine S_list (T_callG (al := [(vP (some ⟨r.tb, 0, none⟩)), (vA #[(vI .i64 o.kind), (vI .i64 o.tree), (vI .i64 o.el_Key), (vI .i64 o.el_Val), (vI .i64 o.from_), (vI .i64 o.till), (vI .i64 o.most), (vB o.again)])]) (pre := [treeP r T]) rfl rfl cb33 (btListed R r T o (by first | assumption | omega) (by first | assumption | omega) (by omega)) H99_ ?_)
           rintro R96_ v97_ p103_ w100_ hs95_ ⟨_, rfl, rfl, he98_⟩ S102_ H101_
           have S104_ := Same.trans S21_ S102_
           refine sv (v := (vP (some ⟨b13_, 5, none⟩))) (by kernel_rfl) ?_
           refine S_list0 (T_store1 (v := v97_) rfl rfl z22 (RS.one he98_) H101_ 2 rfl (Nat.le_of_ble_eq_true (by rfl)) ?_)
           intro w105_ S107_ H106_
           have S108_ := Same.trans S104_ S107_
           refine wpList_nil (X_blkN (X_then (hK22_ _ _ ?_)))
           refine cR fun _ hK109_ => ?_
           refine sv (v := (vA #[(vI .i64 0), (vB false), (vI .i64 0), (vI .i64 0), (vI .i64 0), v97_])) (x_loadN (vs := [(vI .i64 0), (vB false), (vI .i64 0), (vI .i64 0), (vI .i64 0), v97_]) rfl underlying32 rfl z32 rfl (Rd.cells (Holds.rd H106_ 2 rfl) 0 rfl)) ?_
           refine S_list0 (T_storeN (vs := [(vI .i64 0), (vB false), (vI .i64 0), (vI .i64 0), (vI .i64 0), v97_]) rfl rfl z32 rfl (List.forall_mem_cons.2 ⟨rfl, (List.forall_mem_cons.2 ⟨rfl, (List.forall_mem_cons.2 ⟨rfl, (List.forall_mem_cons.2 ⟨rfl, (List.forall_mem_cons.2 ⟨rfl, (List.forall_mem_cons.2 ⟨(RS.one he98_), (fun _ h__ => by cases h__)⟩)⟩)⟩)⟩)⟩)⟩) H106_ 3 rfl (Nat.le_of_ble_eq_true (by rfl)) ?_)
           intro w110_ S112_ H111_
           have S113_ := Same.trans S108_ S112_
           refine wn (hK109_ _ _ ?_)
           refine C_ret ?_
           refine R_any (v := (vA #[(vI .i64 0), (vB false), (vI .i64 0), (vI .i64 0), (vI .i64 0), v97_])) (run_results1 rfl ⟨_, rfl, load_resN underlying32 rfl z32 rfl (vs := [(vI .i64 0), (vB false), (vI .i64 0), (vI .i64 0), (vI .i64 0), v97_]) (Holds.cl_cells H111_ 3 rfl 0 rfl)⟩) ?_
           have H114_ := Holds.pkF H111_ [0, 0] 3
           exact ⟨R96_, _, _, rfl, hs95_, ⟨T, (BA.mk 0 false 0 0 0 v97_), (congrArg (fun l => vA (List.toArray l)) (lcons (congrArg (vI .i64) ((by first | rfl | omega | (simp; done) | (simp; omega)) : 0 = (BA.mk 0 false 0 0 0 v97_).err)) (lcons (congrArg vB ((by first | rfl | omega | (simp; done) | (simp; omega)) : false = ((BA.mk 0 false 0 0 0 v97_).oK))) (lcons (congrArg (vI .i64) ((by first | rfl | omega | (simp; done) | (simp; omega)) : 0 = (BA.mk 0 false 0 0 0 v97_).n)) (lcons (congrArg (vI .i64) ((by first | rfl | omega | (simp; done) | (simp; omega)) : 0 = (BA.mk 0 false 0 0 0 v97_).el_Key)) (lcons (congrArg (vI .i64) ((by first | rfl | omega | (simp; done) | (simp; omega)) : 0 = (BA.mk 0 false 0 0 0 v97_).el_Val)) (lcons ((by first | rfl | omega | (simp; done) | (simp; omega)) : v97_ = ((BA.mk 0 false 0 0 0 v97_).list)) rfl))))))), rfl, (hT), ((by unfold bNext; rw [if_neg (by omega)])), (⟨RS.one he98_, fun hq => absurd hq (by omega), fun hq => absurd hq (by omega), he98_⟩)⟩, S113_, H114_⟩
end Go.Proofs.Ytdfjdmmmlidamaa
set_option linter.unusedVariables false
set_option linter.unusedSimpArgs false
namespace Go.Proofs.Ytdfjdmmmlidamaa
open Go Go.RowKit Gw Try
open Go.Value renaming int → vI, bool → vB, slice → vS, pointer → vP, agg → vA, tuple → vT

set_option maxHeartbeats 8000000 in
theorem btBTree (R : HP) (dg : Int) (v : Value) (ops : List BO) (ho : RS R 8 v (List.length ops) (ops.flatMap BO.cells)) (hk : ∀ o ∈ ops, (o.tree = 0 ∧ (o.kind = 1 ∨ o.kind = 3 ∨ o.kind = 10 ∨ o.kind = 11 ∨ o.kind = 12 ∨ o.kind = 13 ∨ o.kind = 14 ∨ o.kind = 15 ∨ o.kind = 16 ∨ o.kind = 17))) (hl : ops.length ≤ 1000) :
    TriG Try.prog 9 #[(vI .i64 dg), v] R [] (fun R' v__ post__ => ∃ (out : Value) (A : List BA), v__ = out ∧ post__ = [sl 32 6 out (List.length A) (A.flatMap BA.cells)] ∧ (RunB R' ops A)) := by
 refine TriG.into (n := 68) (al := [(vI .i64 dg), v]) func9 rfl ntmps9 rfl rfl fun w F H => ?_
 refine cR fun _ hK1_ => ?_
 refine sv (v := (vS none 0 0)) (x_assign rfl) ?_
 refine wn (hK1_ _ _ ?_)
 refine cR fun _ hK2_ => ?_
 refine sm (vI .i64 dg) ?_
 refine sv (v := (vI .i64 (max dg 2))) (x_max2 rfl rfl (max_ite _ _)) ?_
 refine sv (v := (vI .i64 (min (max dg 2) 64))) (x_min2 rfl rfl (min_ite _ _)) ?_
 refine S_list (T_callW (al := [(vI .i64 (min (max dg 2) 64)), (Value.func (.func 16) #[] #[])]) rfl rfl cb15 (Calls.into (n := 9) func15 rfl ntmps15 rfl rfl ?_))
 refine cR fun _ hK3_ => ?_
 refine sv (v := (vP none)) (x_assign rfl) ?_
 refine wn (hK3_ _ _ ?_)
 refine cR fun _ hK4_ => ?_
 refine sm (vI .i64 (min (max dg 2) 64)) ?_
 refine sm (Value.func (.func 16) #[] #[]) ?_
 refine S_list (T_callW (al := [(vI .i64 32)]) rfl rfl cb22 (Calls.into (n := 7) func22 rfl ntmps22 rfl rfl ?_))
 refine cR fun _ hK5_ => ?_
 refine sv (v := (vP none)) (x_assign rfl) ?_
 refine wn (hK5_ _ _ ?_)
 refine cR fun _ hK6_ => ?_
 refine sm (vI .i64 32) ?_
 refine S_list (T_makeSlice1 (len := 0) (cap := 32) rfl rfl underlying70 z59 rfl (by omega) (by omega) (by omega) (by omega) (by omega) H ?_)
 intro b7_ w8_ S10_ H9_
 have S11_ := Same.trans (Same.refl w) S10_
 refine sv (v := (vA #[(vS (some ⟨b7_, 0, none⟩) 0 32)])) (by kernel_rfl) ?_
 refine S_list (T_box (v := (vA #[(vS (some ⟨b7_, 0, none⟩) 0 32)])) rfl H9_ ?_)
 intro b12_ w13_ S15_ H14_
 have S16_ := Same.trans S11_ S15_
 refine sv (v := (vP (some ⟨b12_, 0, none⟩))) (x_assign rfl) ?_
 refine wn (hK6_ _ _ ?_)
 refine C_ret ?_
 refine R_any (v := (vP (some ⟨b12_, 0, none⟩))) (run_results1 rfl rfl) ⟨_, rfl, ?_⟩
 refine S_list (T_callW (al := [(vI .i64 (min (max dg 2) 64)), (Value.func (.func 16) #[] #[]), (vP (some ⟨b12_, 0, none⟩))]) rfl rfl cb21 (Calls.into (n := 17) func21 rfl ntmps21 rfl rfl ?_))
 refine cR fun _ hK17_ => ?_
 refine sv (v := (vP none)) (x_assign rfl) ?_
 refine wn (hK17_ _ _ ?_)
 refine C_seq (fun _ hK18_ => ?_)
 refine cR fun _ hK19_ => ?_
 refine sm (vI .i64 (min (max dg 2) 64)) ?_
 refine sv (v := (vB (decide (min (max dg 2) 64 ≤ 1)))) (x_bin rfl rfl rfl) ?_
 refine wn (hK19_ _ _ ?_)
 refine C_cond (b := decide (min (max dg 2) 64 ≤ 1)) rfl (fun c20_t => ?_) (fun c20_f => ?_)
 ·have c20_tp : min (max dg 2) 64 ≤ 1 := of_decide_eq_true c20_t
  omega
 ·have c20_fp : ¬ (min (max dg 2) 64 ≤ 1) := of_decide_eq_false c20_f
  refine C_skip (X_then (hK18_ _ _ ?_))
  refine cR fun _ hK21_ => ?_
  refine sm (vI .i64 (min (max dg 2) 64)) ?_
  refine sm (vP (some ⟨b12_, 0, none⟩)) ?_
  refine sm (Value.func (.func 16) #[] #[]) ?_
  refine sv (v := (vA #[(vP (some ⟨b12_, 0, none⟩)), (Value.func (.func 16) #[] #[])])) (by kernel_rfl) ?_
  refine S_list (T_box (v := (vA #[(vP (some ⟨b12_, 0, none⟩)), (Value.func (.func 16) #[] #[])])) rfl H14_ ?_)
  intro b22_ w23_ S25_ H24_
  have S26_ := Same.trans S16_ S25_
  refine sv (v := (vA #[(vI .i64 (min (max dg 2) 64)), (vI .i64 0), (vP none), (vP (some ⟨b22_, 0, none⟩))])) (by kernel_rfl) ?_
  refine S_list (T_box (v := (vA #[(vI .i64 (min (max dg 2) 64)), (vI .i64 0), (vP none), (vP (some ⟨b22_, 0, none⟩))])) rfl H24_ ?_)
  intro b27_ w28_ S30_ H29_
  have S31_ := Same.trans S26_ S30_
  refine sv (v := (vP (some ⟨b27_, 0, none⟩))) (x_assign rfl) ?_
  refine wn (hK21_ _ _ ?_)
  refine C_ret ?_
  refine R_any (v := (vP (some ⟨b27_, 0, none⟩))) (run_results1 rfl rfl) ⟨_, rfl, ?_⟩
  refine sv (v := (vP (some ⟨b27_, 0, none⟩))) (x_assign rfl) ?_
  refine wn (hK4_ _ _ ?_)
  refine C_ret ?_
  refine R_any (v := (vP (some ⟨b27_, 0, none⟩))) (run_results1 rfl rfl) ⟨_, rfl, ?_⟩
  refine S_list (T_new (obj := .cells #[(vP (some ⟨b27_, 0, none⟩))] 44) (f := fun b__ => .slice (some ⟨b__, 0, none⟩) 1 1) (A := fun b__ => cl b__ 44 [(vP (some ⟨b27_, 0, none⟩))]) (by kernel_rfl) (fun l h => h.alloc _ _) H29_ ?_)
  intro b32_ w33_ S35_ H34_
  have S36_ := Same.trans S31_ S35_
  refine sv (v := (vS (some ⟨b32_, 0, none⟩) 1 1)) (x_assign rfl) ?_
  refine wn (hK2_ _ _ ?_)
  refine cR fun _ hK37_ => ?_
  refine sv (v := (vS none 0 0)) (x_assign rfl) ?_
  refine wn (hK37_ _ _ ?_)
  refine C_seq (fun _ hK38_ => ?_)
  refine cR fun _ hK39_ => ?_
  refine sv (v := (vI .i64 0)) (x_assign rfl) ?_
  refine wn (hK39_ _ _ ?_)
  refine C_block ?_
  have H40_ := Holds.recl H34_ 1 rfl ((lcons (congrArg (vI .i64) (by omega)) rfl) : [(vI .i64 (min (max dg 2) 64)), (vI .i64 0), (vP none), (vP (some ⟨b22_, 0, none⟩))] = [(vI .i64 (((min (max dg 2) 64).toNat : Nat) : Int)), (vI .i64 0), (vP none), (vP (some ⟨b22_, 0, none⟩))])
  have H41_ := ((Holds.bring (Holds.bring (Holds.bring H40_ 3 rfl) 3 rfl) 3 rfl) :)
  have H42_ := Holds.t0_in (r := (⟨b27_, b22_, b12_, 32, some ⟨b7_, 0, none⟩, (min (max dg 2) 64).toNat⟩ : TR)) H41_
  obtain ⟨r, hr_⟩ : ∃ r__ : TR, r__ = (⟨b27_, b22_, b12_, 32, some ⟨b7_, 0, none⟩, (min (max dg 2) 64).toNat⟩ : TR) := ⟨_, rfl⟩
  have H43_ : Holds w33_ (treeP r none :: cl b32_ 44 [(vP (some ⟨b27_, 0, none⟩))] :: cl b7_ 59 (List.replicate 32 (vP none)) :: ro R :: F) := by rw [hr_]; exact H42_
  have hrt_ : r.tb = b27_ := by rw [hr_]
  have hrd_ : 2 ≤ r.d ∧ r.d ≤ 64 := by rw [hr_]; dsimp only; omega
  have H44_ : Holds w33_ (treeP r none :: cl b32_ 44 ([] ++ [(vP (some ⟨b27_, 0, none⟩))] ++ []) :: cl b7_ 59 (List.replicate 32 (vP none)) :: ro R :: F) := cast1 (P := fun (c__ : List Value) => Holds w33_ (treeP r none :: cl b32_ 44 c__ :: cl b7_ 59 (List.replicate 32 (vP none)) :: ro R :: F)) (by kernel_rfl : [(vP (some ⟨b27_, 0, none⟩))] = [] ++ [(vP (some ⟨b27_, 0, none⟩))] ++ []) H43_
  have H45_ : Holds w33_ (treeP r none :: sl 44 1 (vS (some ⟨b32_, 0, none⟩) 1 1) 1 [(vP (some ⟨b27_, 0, none⟩))] :: cl b7_ 59 (List.replicate 32 (vP none)) :: ro R :: F) := Holds.to_sl H44_ 1 [] [] (xs := [(vP (some ⟨b27_, 0, none⟩))]) (m := 1) (cap := 1) (sz := 1) rfl (by kernel_rfl) (by kernel_rfl) (by omega)
  have H46_ := Holds.resl H45_ 1 rfl (by rw [hrt_]; rfl : [(vP (some ⟨b27_, 0, none⟩))] = pBs [r.tb]) (rfl : 1 = (List.length [r.tb]))
  have H47_ : Holds w33_ (sl 32 6 (vS none 0 0) (List.length ([] : List BA)) (([] : List BA).flatMap BA.cells) :: treeP r none :: sl 44 1 (vS (some ⟨b32_, 0, none⟩) 1 1) (List.length [r.tb]) (pBs [r.tb]) :: cl b7_ 59 (List.replicate 32 (vP none)) :: ro R :: F) := Holds.add_nil H46_ 32 6
  have H48_ := Holds.pkF H47_ [0, 0, 0, 1] 1
  refine C_loop (γ := HP × Nat × (Option (Sigma BT)) × Value × (List BA)) (fun x__ a__ w1__ => match x__ with | ⟨R1, k, T, ov, A⟩ => ∃ h : Env, a__ = mkA 68 (upd (upd (upd (upd (upd h 1 v) 4 (vS none 0 0)) 5 (vS (some ⟨b32_, 0, none⟩) 1 1)) 6 ov) 7 (vI .i64 (k : Int))) [] ∧ Holds w1__ (sl 32 6 ov (List.length A) (A.flatMap BA.cells) :: treeP r T :: sl 44 1 (vS (some ⟨b32_, 0, none⟩) 1 1) (List.length [r.tb]) (pBs [r.tb]) :: ro R1 :: F) ∧ Same w w1__ ∧ (Sub R R1) ∧ (k ≤ ops.length) ∧ (tOk T) ∧ (tel T = stB (ops.take k)) ∧ ((tel T).length ≤ k) ∧ (RunB R1 (ops.take k) A)) (fun x__ => match x__ with | ⟨R1, k, T, ov, A⟩ => ops.length - k) (⟨R, 0, none, (vS none 0 0), ([] : List BA)⟩) ⟨_, congrArg (fun e => mkA 68 e []) (ch (ch (ch (ch (ch rfl rfl) rfl) rfl) rfl) (congrArg (vI .i64) ((by first | rfl | omega | (simp; done) | (simp; omega)) : 0 = (0 : Int)))), H48_, S36_, (Sub.rfl' _), (Nat.zero_le _), (trivial), (rfl), (Nat.le_refl _), (RunB.nil _)⟩ ?_
  rintro ⟨R1, k, T, ov, A⟩ _ w49_ ⟨h, rfl, H50_, S51_, hsR1, hk_, hT, hTl, hTn, hA⟩
  refine C_seq (fun _ hK52_ => ?_)
  refine cR fun _ hK53_ => ?_
  refine sm (vI .i64 (k : Int)) ?_
  refine sv (v := v) (x_move rfl) ?_
  refine sv (v := (vI .i64 ((List.length ops) : Int))) (x_lenRS rfl (RS.mono ho hsR1) underlying34) ?_
  refine sv (v := (vB (decide ((k : Int) < ((List.length ops) : Int))))) (x_bin rfl rfl rfl) ?_
  refine wn (hK53_ _ _ ?_)
  refine C_cond (b := decide ((k : Int) < ((List.length ops) : Int))) rfl (fun c54_t => ?_) (fun c54_f => ?_)
  ·have c54_tp : (k : Int) < ((List.length ops) : Int) := of_decide_eq_true c54_t
   refine C_skip (X_then (hK52_ _ _ ?_))
   refine C_seq (fun _ hK55_ => ?_)
   refine C_block ?_
   refine cR fun _ hK56_ => ?_
   refine sv (v := v) (x_move rfl) ?_
   refine sm (vI .i64 (k : Int)) ?_
   obtain ⟨x57_, hx58_, hm59_⟩ := elem_at ops k (by first | omega | (simp; omega))
   have hp60_ := hk x57_ hm59_
   have hko_ := hk x57_ hm59_
   refine sv (v := (vP (some ⟨(sb v), so v + (k * 8 + 0), none⟩))) (x_idxRS (v := v) rfl (RS.mono ho hsR1) rfl underlying34 z30 (by omega) (by omega) (by omega : _ = k) rfl) ?_
   refine sv (v := (vA #[(vI .i64 x57_.kind), (vI .i64 x57_.tree), (vI .i64 x57_.el_Key), (vI .i64 x57_.el_Val), (vI .i64 x57_.from_), (vI .i64 x57_.till), (vI .i64 x57_.most), (vB x57_.again)])) (x_loadN (vs := [(vI .i64 x57_.kind), (vI .i64 x57_.tree), (vI .i64 x57_.el_Key), (vI .i64 x57_.el_Val), (vI .i64 x57_.from_), (vI .i64 x57_.till), (vI .i64 x57_.most), (vB x57_.again)]) rfl underlying30 rfl z30 rfl (RC.cells (RS.rc (RS.mono ho hsR1)) (Holds.ro_at H50_ 3 rfl) (k * 8 + 0) (fm_cells BO.len hx58_ (i := 0) rfl))) ?_
   refine S_list (T_alloc z30 H50_ ?_)
   intro b61_ w62_ S64_ H63_
   have S65_ := Same.trans S51_ S64_
   refine S_list0 (T_storeN (vs := [(vI .i64 x57_.kind), (vI .i64 x57_.tree), (vI .i64 x57_.el_Key), (vI .i64 x57_.el_Val), (vI .i64 x57_.from_), (vI .i64 x57_.till), (vI .i64 x57_.most), (vB x57_.again)]) rfl rfl z30 rfl (by simp [Value.oneCell']) H63_ 0 rfl (Nat.le_of_ble_eq_true (by rfl)) ?_)
   intro w66_ S68_ H67_
   have S69_ := Same.trans S65_ S68_
   refine wn (hK56_ _ _ ?_)
   refine C_seq (fun _ hK70_ => ?_)
   refine cR fun _ hK71_ => ?_
   refine sv (v := (vP (some ⟨b61_, 1, none⟩))) (by kernel_rfl) ?_
   refine sv (v := (vI .i64 x57_.tree)) (x_load1 rfl underlying3 rfl ((Holds.rd H67_ 0 rfl) 1 (vI .i64 x57_.tree) rfl)) ?_
   refine sv (v := (vB (decide (x57_.tree < 0)))) (x_bin rfl rfl rfl) ?_
   refine sm (vB (decide (x57_.tree < 0))) ?_
   rcases Bool.eq_false_or_eq_true (decide (x57_.tree < 0)) with c72_t | c72_f
   ·have c72_tp : x57_.tree < 0 := of_decide_eq_true c72_t
    omega
   ·have c72_fp : ¬ (x57_.tree < 0) := of_decide_eq_false c72_f
    refine S_yes (j := 3) (dj := 27) (b := false) rfl rfl (congrArg vB c72_f) (T_val (v := (vP (some ⟨b61_, 1, none⟩))) (by kernel_rfl) ?_)
    refine S_yes (j := 3) (dj := 27) (b := false) rfl rfl (congrArg vB c72_f) (T_val (v := (vI .i64 x57_.tree)) (x_load1 rfl underlying3 rfl ((Holds.rd H67_ 0 rfl) 1 (vI .i64 x57_.tree) rfl)) ?_)
    refine S_yes (j := 3) (dj := 27) (b := false) rfl rfl (congrArg vB c72_f) (T_val (v := (vS (some ⟨b32_, 0, none⟩) 1 1)) (x_move rfl) ?_)
    refine S_yes (j := 3) (dj := 27) (b := false) rfl rfl (congrArg vB c72_f) (T_val (v := (vI .i64 1)) (x_lenS rfl underlying47) ?_)
    refine S_yes (j := 3) (dj := 27) (b := false) rfl rfl (congrArg vB c72_f) (T_val (v := (vB (decide (1 ≤ x57_.tree)))) (x_bin rfl rfl rfl) ?_)
    refine S_list (T_pickF (v := (vB (decide (1 ≤ x57_.tree)))) (congrArg vB c72_f) rfl ?_)
    refine wn (hK71_ _ _ ?_)
    refine C_cond (b := decide (1 ≤ x57_.tree)) rfl (fun c73_t => ?_) (fun c73_f => ?_)
    ·have c73_tp : 1 ≤ x57_.tree := of_decide_eq_true c73_t
     omega
    ·have c73_fp : ¬ (1 ≤ x57_.tree) := of_decide_eq_false c73_f
     refine C_skip (X_then (hK70_ _ _ ?_))
     refine C_seq (fun _ hK74_ => ?_)
     refine cR fun _ hK75_ => ?_
     refine sv (v := (vP (some ⟨b61_, 0, none⟩))) (by kernel_rfl) ?_
     refine sv (v := (vI .i64 x57_.kind)) (x_load1 rfl underlying3 rfl ((Holds.rd H67_ 0 rfl) 0 (vI .i64 x57_.kind) rfl)) ?_
     refine sv (v := (vB (decide (x57_.kind = 18)))) (x_bin rfl rfl rfl) ?_
     refine wn (hK75_ _ _ ?_)
     refine C_cond (b := decide (x57_.kind = 18)) rfl (fun c76_t => ?_) (fun c76_f => ?_)
     ·have c76_tp : x57_.kind = 18 := of_decide_eq_true c76_t
      omega
     ·have c76_fp : ¬ (x57_.kind = 18) := of_decide_eq_false c76_f
      refine C_skip (X_then (hK74_ _ _ ?_))
      refine A_start (S := fun w => Rd b61_ [(vI .i64 x57_.kind), (vI .i64 x57_.tree), (vI .i64 x57_.el_Key), (vI .i64 x57_.el_Val), (vI .i64 x57_.from_), (vI .i64 x57_.till), (vI .i64 x57_.most), (vB x57_.again)] w ∧ SlRd (vS (some ⟨b32_, 0, none⟩) 1 1) (pBs [r.tb]) w ∧ Sub R1 (hp w)) (N := 11) foll rfl rfl ?_
      have H77_ := Holds.drew_ H67_
      have hq78_ := And.intro (Holds.rd H77_ 0 rfl) (And.intro (Holds.slrd H77_ 3 rfl) ((Holds.ro_at H77_ 4 rfl)))
      refine A_tk 0 (v := ov) rfl (by kernel_rfl) (fun w hS => x_move rfl) hq78_ ?_
      refine A_tk 1 (v := (vS (some ⟨b32_, 0, none⟩) 1 1)) rfl (by kernel_rfl) (fun w hS => x_move rfl) hq78_ ?_
      refine A_tk 2 (v := (vP (some ⟨b61_, 1, none⟩))) rfl (by kernel_rfl) (fun w hS => by kernel_rfl) hq78_ ?_
      refine A_tk 3 (v := (vI .i64 x57_.tree)) rfl (by kernel_rfl) (fun w hS => x_load1 rfl underlying3 rfl (hS.1 1 (vI .i64 x57_.tree) rfl)) hq78_ ?_
      have hr79_ := Holds.sl_RSw H77_ 3 rfl
      refine A_tk 4 (v := (vP (some ⟨(sb (vS (some ⟨b32_, 0, none⟩) 1 1)), so (vS (some ⟨b32_, 0, none⟩) 1 1) + 0, none⟩))) rfl (by kernel_rfl) (fun w hS => x_idxSlR (v := (vS (some ⟨b32_, 0, none⟩) 1 1)) rfl hr79_ rfl underlying47 z44 (by omega) (by first | omega | (simp; omega)) (by omega : _ = 0) (by rw [Nat.mul_one])) hq78_ ?_
      refine A_tk 5 (v := (vP (some ⟨r.tb, 0, none⟩))) rfl (by kernel_rfl) (fun w hS => x_load1 rfl underlying44 rfl (hS.2.1 _ _ (pbs_at rfl))) hq78_ ?_
      refine A_tk 6 (v := (vA #[(vI .i64 x57_.kind), (vI .i64 x57_.tree), (vI .i64 x57_.el_Key), (vI .i64 x57_.el_Val), (vI .i64 x57_.from_), (vI .i64 x57_.till), (vI .i64 x57_.most), (vB x57_.again)])) rfl (by kernel_rfl) (fun w hS => x_loadN (vs := [(vI .i64 x57_.kind), (vI .i64 x57_.tree), (vI .i64 x57_.el_Key), (vI .i64 x57_.el_Val), (vI .i64 x57_.from_), (vI .i64 x57_.till), (vI .i64 x57_.most), (vB x57_.again)]) rfl underlying30 rfl z30 rfl (Rd.cells hS.1 0 rfl)) hq78_ ?_
      refine A_ready (i := 7) (rs := []) (by kernel_rfl) ?_
      refine AllR.cons ?_ AllR.nil
      have H88_ := ((Holds.bring (Holds.bring H77_ 2 rfl) 4 rfl) :)
      refine A_op (ls' := #[true, true, true, true, true, true, true, true, false, false, false]) rfl (by kernel_rfl) (T_callG (al := [(vP (some ⟨r.tb, 0, none⟩)), (vA #[(vI .i64 x57_.kind), (vI .i64 x57_.tree), (vI .i64 x57_.el_Key), (vI .i64 x57_.el_Val), (vI .i64 x57_.from_), (vI .i64 x57_.till), (vI .i64 x57_.most), (vB x57_.again)])]) (pre := [treeP r T]) rfl rfl cb18 (btGrown R1 r T x57_ (hT) (by omega) (hrd_) (hko_)) H88_ ?_)
      rintro R81_ v82_ p92_ w89_ hs80_ ⟨T83_, a84_, rfl, rfl, he85_, he86_, he87_⟩ S91_ H90_
      have S93_ := Same.trans (Same.trans S69_ (Same.drew _)) S91_
      have hz_R_R81_ := Sub.trans' hsR1 hs80_
      refine ⟨⟨Holds.rd H90_ 2 rfl, Holds.slrd H90_ 4 rfl, (Sub.trans' hs80_ (Holds.ro_at H90_ 0 rfl))⟩, ?_⟩
      refine A_ready (i := 8) (rs := []) (by kernel_rfl) ?_
      refine AllR.cons ?_ AllR.nil
      refine A_op (ls' := #[true, true, true, true, true, true, true, true, true, false, false]) rfl (by kernel_rfl) (T_new (obj := .cells #[(vI .i64 a84_.err), (vB a84_.oK), (vI .i64 a84_.n), (vI .i64 a84_.el_Key), (vI .i64 a84_.el_Val), a84_.list] 32) (f := fun b__ => .slice (some ⟨b__, 0, none⟩) 1 1) (A := fun b__ => cl b__ 32 [(vI .i64 a84_.err), (vB a84_.oK), (vI .i64 a84_.n), (vI .i64 a84_.el_Key), (vI .i64 a84_.el_Val), a84_.list]) (by kernel_rfl) (fun l h => h.alloc _ _) H90_ ?_)
      intro b94_ w95_ S97_ H96_
      have S98_ := Same.trans S93_ S97_
      refine ⟨⟨Holds.rd H96_ 3 rfl, Holds.slrd H96_ 5 rfl, (Sub.trans' hs80_ (Holds.ro_at H96_ 1 rfl))⟩, ?_⟩
      refine A_ready (i := 9) (rs := []) (by kernel_rfl) ?_
      refine AllR.cons ?_ AllR.nil
      refine A_op (ls' := #[true, true, true, true, true, true, true, true, true, true, false]) rfl (by kernel_rfl) (T_append rfl rfl underlying26 z32 rfl (by decide) H96_ 4 rfl (Holds.cl_src H96_ 0 rfl underlying26 (List.forall_mem_cons.2 ⟨rfl, (List.forall_mem_cons.2 ⟨rfl, (List.forall_mem_cons.2 ⟨rfl, (List.forall_mem_cons.2 ⟨rfl, (List.forall_mem_cons.2 ⟨rfl, (List.forall_mem_cons.2 ⟨he87_.one, (fun _ h__ => by cases h__)⟩)⟩)⟩)⟩)⟩)⟩) rfl) (by have := hA.1; rw [List.length_take] at this; omega) ?_)
      intro v99_ w100_ S102_ H101_
      have S103_ := Same.trans S98_ S102_
      refine ⟨⟨Holds.rd H101_ 3 rfl, Holds.slrd H101_ 5 rfl, (Sub.trans' hs80_ (Holds.ro_at H101_ 1 rfl))⟩, ?_⟩
      have hq104_ := And.intro (Holds.rd H101_ 3 rfl) (And.intro (Holds.slrd H101_ 5 rfl) ((Sub.trans' hs80_ (Holds.ro_at H101_ 1 rfl))))
      refine A_tk 10 (v := v99_) rfl (by kernel_rfl) (fun w hS => x_assign rfl) hq104_ ?_
      refine A_done (by kernel_rfl) ?_
      refine (X_blkN (X_then (hK55_ _ _ ?_)))
      refine C_reg ?_
      refine sm (vI .i64 (k : Int)) ?_
      refine sv (v := (vI .i64 ((k : Int) + 1))) (x_bin rfl rfl (ib_add (IntWalk.i64_in _ (by omega)))) ?_
      refine sv (v := (vI .i64 ((k : Int) + 1))) (x_assign rfl) ?_
      refine wpList_nil (X_then ?_)
      have H105_ := Holds.resl H101_ 4 rfl (by rw [List.flatMap_append]; rfl : (A.flatMap BA.cells) ++ [(vI .i64 a84_.err), (vB a84_.oK), (vI .i64 a84_.n), (vI .i64 a84_.el_Key), (vI .i64 a84_.el_Val), a84_.list] = (A ++ [a84_]).flatMap BA.cells) (by rw [List.length_append]; rfl : (List.length A) + 1 = (List.length (A ++ [a84_])))
      have H106_ := Holds.pkF H105_ [4, 2, 3, 1] 2
      exact ⟨⟨R81_, k + 1, T83_, v99_, (A ++ [a84_])⟩, ⟨_, congrArg (fun e => mkA 68 e []) (ch (ch (ch (ch (ch rfl rfl) rfl) rfl) rfl) (congrArg (vI .i64) ((by first | rfl | omega | (simp; done) | (simp; omega)) : (k : Int) + 1 = ((k + 1 : Nat) : Int)))), H106_, S103_, (hz_R_R81_), (by omega), (he85_), (he86_.trans (by rw [hTl]; exact (stB_take hx58_).symm)), (by rw [he86_]; exact Nat.le_trans (bNext_len _ _) (by omega)), (RunB.snoc (hA.mono hs80_) hx58_ (by rw [← hTl]; exact he87_))⟩, by first | omega | (dsimp only; omega) | (simp; omega)⟩
  ·have c54_fp : ¬ ((k : Int) < ((List.length ops) : Int)) := of_decide_eq_false c54_f
   refine C_exit (X_thenX (X_thenX (X_blkHit ?_)))
   refine (X_then (hK38_ _ _ ?_))
   refine cR fun _ hK107_ => ?_
   refine sv (v := ov) (x_move rfl) ?_
   refine sv (v := ov) (x_assign rfl) ?_
   refine wn (hK107_ _ _ ?_)
   refine C_ret ?_
   refine R_any (v := ov) (run_results1 rfl rfl) ?_
   have H108_ := Holds.pkF H50_ [3, 0] 2
   exact ⟨R1, _, _, rfl, hsR1, ⟨ov, A, rfl, rfl, (by rw [List.take_of_length_le (by omega)] at hA; exact hA)⟩, S51_, H108_⟩
end Go.Proofs.Ytdfjdmmmlidamaa
set_option linter.unusedVariables false
set_option linter.unusedSimpArgs false
namespace Go.Proofs.Ytdfjdmmmlidamaa
open Go Go.RowKit Gw Try
open Go.Value renaming int → vI, bool → vB, slice → vS, pointer → vP, agg → vA, tuple → vT

theorem bo_one (xs : List BO) : ∀ u ∈ xs.flatMap BO.cells, u.oneCell' = true := by
  intro u hu
  obtain ⟨x, _, h⟩ := List.mem_flatMap.1 hu
  simp only [BO.cells, List.mem_cons, List.not_mem_nil, or_false] at h
  rcases h with rfl | rfl | rfl | rfl | rfl | rfl | rfl | rfl <;> rfl

def putO (e : EL) : BO := ⟨1, 0, e.key, e.val, 0, 0, 0, false⟩
theorem putO_take {l : List EL} {k : Nat} {x : EL} (h : l[k]? = some x) : (l.take k).map putO ++ [putO x] = (l.take (k + 1)).map putO := by rw [List.take_add_one, h]; simp
theorem putO_kind {l : List EL} : ∀ o ∈ l.map putO, o.tree = 0 ∧ o.kind = 1 := fun o h => by obtain ⟨e, _, rfl⟩ := List.mem_map.1 h; exact ⟨rfl, rfl⟩
theorem bo_app (xs ys : List BO) : xs.flatMap BO.cells ++ ys.flatMap BO.cells = (xs ++ ys).flatMap BO.cells := (List.flatMap_append ..).symm

set_option maxHeartbeats 1600000 in
theorem btPut (R : HP) (lv : Value) (l : List EL) (hl : RS R 2 lv (List.length l) (l.flatMap EL.cells)) (hn : l.length ≤ 600) :
    Tri Try.prog 14 #[lv] R [] (fun v__ post__ => ∃ (out : Value), v__ = out ∧ post__ = [sl 30 8 out (List.length (l.map putO)) ((l.map putO).flatMap BO.cells)]) := by
 refine Tri.into (n := 19) (al := [lv]) func14 rfl ntmps14 rfl rfl fun w F H => ?_
 refine cR fun _ hK1_ => ?_
 refine sv (v := (vS none 0 0)) (x_assign rfl) ?_
 refine wn (hK1_ _ _ ?_)
 refine cR fun _ hK2_ => ?_
 refine sv (v := (vS none 0 0)) (x_assign rfl) ?_
 refine wn (hK2_ _ _ ?_)
 refine C_seq (fun _ hK3_ => ?_)
 refine cR fun _ hK4_ => ?_
 refine sv (v := lv) (x_move rfl) ?_
 refine sv (v := (vI .i64 ((List.length l) : Int))) (x_lenRS rfl hl underlying22) ?_
 refine sm (vI .i64 0) ?_
 refine wn (hK4_ _ _ ?_)
 refine C_block ?_
 have H5_ : Holds w (sl 30 8 (vS none 0 0) (List.length ([] : List BO)) (([] : List BO).flatMap BO.cells) :: ro R :: F) := Holds.add_nil H 30 8
 refine C_loop (γ := Nat × Value × (List BO)) (fun x__ a__ w1__ => match x__ with | ⟨k, ov, O⟩ => ∃ h : Env, a__ = mkA 19 (upd (upd (upd (upd (upd h 2 (vS none 0 0)) 3 ov) 6 lv) 7 (vI .i64 ((List.length l) : Int))) 8 (vI .i64 (k : Int))) [] ∧ Holds w1__ (sl 30 8 ov (List.length O) (O.flatMap BO.cells) :: ro R :: F) ∧ Same w w1__ ∧ (k ≤ l.length) ∧ (O = (l.take k).map putO)) (fun x__ => match x__ with | ⟨k, ov, O⟩ => l.length - k) (⟨0, (vS none 0 0), ([] : List BO)⟩) ⟨_, congrArg (fun e => mkA 19 e []) (ch (ch (ch (ch (ch rfl rfl) rfl) rfl) rfl) (congrArg (vI .i64) ((by first | rfl | omega | (simp; done) | (simp; omega)) : 0 = (0 : Int)))), H5_, (Same.refl w), (Nat.zero_le _), (rfl)⟩ ?_
 rintro ⟨k, ov, O⟩ _ w6_ ⟨h, rfl, H7_, S8_, hk_, hO⟩
 refine cR fun _ hK9_ => ?_
 refine sv (v := (vB (decide ((k : Int) < ((List.length l) : Int))))) (x_bin rfl rfl rfl) ?_
 refine wn (hK9_ _ _ ?_)
 refine C_seq (fun _ hK10_ => ?_)
 refine C_cond (b := decide ((k : Int) < ((List.length l) : Int))) rfl (fun c11_t => ?_) (fun c11_f => ?_)
 ·have c11_tp : (k : Int) < ((List.length l) : Int) := of_decide_eq_true c11_t
  refine C_skip (X_then (hK10_ _ _ ?_))
  refine C_seq (fun _ hK12_ => ?_)
  refine C_block ?_
  refine cR fun _ hK13_ => ?_
  obtain ⟨x14_, hx15_, hm16_⟩ := elem_at l k (by omega)
  refine sv (v := (vP (some ⟨(sb lv), so lv + (k * 2 + 0), none⟩))) (x_idxRS (v := lv) rfl hl rfl underlying22 z24 (by omega) (by omega) (by omega : _ = k) rfl) ?_
  refine sv (v := (vA #[(vI .i64 x14_.key), (vI .i64 x14_.val)])) (x_loadN (vs := [(vI .i64 x14_.key), (vI .i64 x14_.val)]) rfl underlying24 rfl z24 rfl (RC.cells (RS.rc hl) (Holds.ro_at H7_ 1 rfl) (k * 2 + 0) (fm_cells EL.len hx15_ (i := 0) rfl))) ?_
  refine S_list (T_alloc z24 H7_ ?_)
  intro b17_ w18_ S20_ H19_
  have S21_ := Same.trans S8_ S20_
  refine S_list0 (T_storeN (vs := [(vI .i64 x14_.key), (vI .i64 x14_.val)]) rfl rfl z24 rfl (by simp [Value.oneCell']) H19_ 0 rfl (Nat.le_of_ble_eq_true (by rfl)) ?_)
  intro w22_ S24_ H23_
  have S25_ := Same.trans S21_ S24_
  refine wn (hK13_ _ _ ?_)
  refine C_reg ?_
  refine sv (v := ov) (x_move rfl) ?_
  refine sv (v := (vA #[(vI .i64 x14_.key), (vI .i64 x14_.val)])) (x_loadN (vs := [(vI .i64 x14_.key), (vI .i64 x14_.val)]) rfl underlying24 rfl z24 rfl (Rd.cells (Holds.rd H23_ 0 rfl) 0 rfl)) ?_
  refine sv (v := (vA #[(vI .i64 1), (vI .i64 0), (vI .i64 x14_.key), (vI .i64 x14_.val), (vI .i64 0), (vI .i64 0), (vI .i64 0), (vB false)])) (by kernel_rfl) ?_
  refine S_list (T_new (obj := .cells #[(vI .i64 1), (vI .i64 0), (vI .i64 x14_.key), (vI .i64 x14_.val), (vI .i64 0), (vI .i64 0), (vI .i64 0), (vB false)] 30) (f := fun b__ => .slice (some ⟨b__, 0, none⟩) 1 1) (A := fun b__ => cl b__ 30 [(vI .i64 1), (vI .i64 0), (vI .i64 x14_.key), (vI .i64 x14_.val), (vI .i64 0), (vI .i64 0), (vI .i64 0), (vB false)]) (by kernel_rfl) (fun l h => h.alloc _ _) H23_ ?_)
  intro b26_ w27_ S29_ H28_
  have S30_ := Same.trans S25_ S29_
  refine S_list (T_append rfl rfl underlying34 z30 rfl (by decide) H28_ 2 rfl (Holds.cl_src H28_ 0 rfl underlying34 (by simp [Value.oneCell']) rfl) (by have hOl := congrArg List.length hO; rw [List.length_map, List.length_take] at hOl; omega) ?_)
  intro v31_ w32_ S34_ H33_
  have S35_ := Same.trans S30_ S34_
  refine sv (v := v31_) (x_assign rfl) ?_
  refine wpList_nil (X_blkN (X_then (hK12_ _ _ ?_)))
  refine C_reg ?_
  refine sv (v := (vI .i64 ((k : Int) + 1))) (x_bin rfl rfl (ib_add (IntWalk.i64_in _ (by omega)))) ?_
  refine sm (vI .i64 ((k : Int) + 1)) ?_
  refine wpList_nil (X_then ?_)
  have H36_ := Holds.resl H33_ 2 rfl (by rw [List.flatMap_append]; rfl : (O.flatMap BO.cells) ++ [(vI .i64 1), (vI .i64 0), (vI .i64 x14_.key), (vI .i64 x14_.val), (vI .i64 0), (vI .i64 0), (vI .i64 0), (vB false)] = (O ++ [putO x14_]).flatMap BO.cells) (by rw [List.length_append]; rfl : (List.length O) + 1 = (List.length (O ++ [putO x14_])))
  have H37_ := Holds.pkF H36_ [2, 2] 2
  exact ⟨⟨k + 1, v31_, (O ++ [putO x14_])⟩, ⟨_, congrArg (fun e => mkA 19 e []) (ch (ch (ch (ch (ch rfl rfl) rfl) rfl) rfl) (congrArg (vI .i64) ((by first | rfl | omega | (simp; done) | (simp; omega)) : (k : Int) + 1 = ((k + 1 : Nat) : Int)))), H37_, S35_, (by omega), (by rw [hO]; exact putO_take hx15_)⟩, by first | omega | (dsimp only; omega) | (simp; omega)⟩
 ·have c11_fp : ¬ ((k : Int) < ((List.length l) : Int)) := of_decide_eq_false c11_f
  refine C_exit (X_thenX (X_thenX (X_blkHit ?_)))
  refine (X_then (hK3_ _ _ ?_))
  refine cR fun _ hK38_ => ?_
  refine sv (v := ov) (x_move rfl) ?_
  refine sv (v := ov) (x_assign rfl) ?_
  refine wn (hK38_ _ _ ?_)
  refine C_ret ?_
  refine R_any (v := ov) (run_results1 rfl rfl) ?_
  have H39_ := Holds.resl H7_ 0 rfl (by rw [hO, List.take_of_length_le (by omega)] : O.flatMap BO.cells = (l.map putO).flatMap BO.cells) (by rw [hO, List.take_of_length_le (by omega)] : (List.length O) = (List.length (l.map putO)))
  have H40_ := Holds.pkF H39_ [1, 0] 0
  exact ⟨_, _, rfl, ⟨ov, rfl, rfl⟩, S8_, H40_⟩

set_option maxHeartbeats 1600000 in
theorem btTail (R : HP) (dg : Int) (lv ov : Value) (l : List EL) (ops : List BO) (hl : RS R 2 lv (List.length l) (l.flatMap EL.cells)) (ho : RS R 8 ov (List.length ops) (ops.flatMap BO.cells)) (hn : l.length ≤ 600) (hno : ops.length ≤ 100) (hk : ∀ o ∈ ops, (o.tree = 0 ∧ (o.kind = 1 ∨ o.kind = 3 ∨ o.kind = 10 ∨ o.kind = 11 ∨ o.kind = 12 ∨ o.kind = 13 ∨ o.kind = 14 ∨ o.kind = 15 ∨ o.kind = 16 ∨ o.kind = 17))) :
    TriG Try.prog 7 #[(vI .i64 dg), lv, ov] R [] (fun R' v__ post__ => ∃ (v' : Value) (A : List BA), v__ = (vT #[v', (vB true)]) ∧ post__ = [] ∧ (RunB R' (l.map putO ++ ops) A) ∧ (RS R' 6 v' (List.length (A.drop l.length)) ((A.drop l.length).flatMap BA.cells))) := by
 refine TriG.into (n := 27) (al := [(vI .i64 dg), lv, ov]) func7 rfl ntmps7 rfl rfl fun w F H => ?_
 refine cR fun _ hK1_ => ?_
 refine sv (v := (vS none 0 0)) (x_assign rfl) ?_
 refine sv (v := (vB false)) (x_assign rfl) ?_
 refine wn (hK1_ _ _ ?_)
 refine cR fun _ hK2_ => ?_
 refine sm (vI .i64 dg) ?_
 refine sv (v := lv) (x_move rfl) ?_
 refine S_list (T_call (al := [lv]) (pre := []) rfl rfl cb14 (btPut R lv l hl (by first | assumption | omega)) H ?_)
 rintro v3_ p7_ w4_ ⟨_, rfl, rfl⟩ S6_ H5_
 have S8_ := Same.trans (Same.refl w) S6_
 refine sv (v := ov) (x_move rfl) ?_
 refine S_list (T_append rfl rfl underlying34 z30 rfl (by decide) H5_ 1 rfl (RS.src ho (Holds.ro_at H5_ 0 rfl) underlying34 (bo_one _)) (by rw [List.length_map]; omega) ?_)
 intro v9_ w10_ S12_ H11_
 have S13_ := Same.trans S8_ S12_
 have H14_ := Holds.resl H11_ 1 rfl (bo_app _ _ : ((l.map putO).flatMap BO.cells) ++ (ops.flatMap BO.cells) = (l.map putO ++ ops).flatMap BO.cells) (by rw [List.length_append] : (List.length (l.map putO)) + (List.length ops) = (List.length (l.map putO ++ ops)))
 obtain ⟨R15_, hs16_, ⟨R17_, ha18_, hs19_⟩, H20_⟩ := Holds.gift H14_
 have hr21_ : RS R15_ 8 v9_ (List.length (l.map putO ++ ops)) ((l.map putO ++ ops).flatMap BO.cells) := (sl_RS ha18_ (Sub.rfl' _)).mono hs19_
 refine S_list (T_callG (al := [(vI .i64 dg), v9_]) (pre := []) rfl rfl cb9 (btBTree R15_ dg v9_ (l.map putO ++ ops) hr21_ (fun o ho => (List.mem_append.1 ho).elim (fun h => by have := putO_kind o h; omega) (hk o)) (by simp; omega)) H20_ ?_)
 rintro R23_ v24_ p30_ w27_ hs22_ ⟨_, A25_, rfl, rfl, he26_⟩ S29_ H28_
 have S31_ := Same.trans S13_ S29_
 have hz_R_R23_ := Sub.trans' hs16_ hs22_
 obtain ⟨R32_, hs33_, ⟨R34_, ha35_, hs36_⟩, H37_⟩ := Holds.gift H28_
 have hz_R_R32_ := Sub.trans' hz_R_R23_ hs33_
 have hz_R15__R32_ := Sub.trans' hs22_ hs33_
 have hr38_ : RS R32_ 6 v24_ (List.length A25_) (A25_.flatMap BA.cells) := (sl_RS ha35_ (Sub.rfl' _)).mono hs36_
 have hrl_ := he26_.1
 rw [List.length_append, List.length_map] at hrl_
 refine sv (v := v24_) (x_assign rfl) ?_
 refine wn (hK2_ _ _ ?_)
 refine C_seq (fun _ hK39_ => ?_)
 refine cR fun _ hK40_ => ?_
 refine sv (v := v24_) (x_move rfl) ?_
 refine sv (v := (vI .i64 ((List.length A25_) : Int))) (x_lenRS rfl hr38_ underlying26) ?_
 refine sv (v := lv) (x_move rfl) ?_
 refine sv (v := (vI .i64 ((List.length l) : Int))) (x_lenRS rfl (RS.mono hl hz_R_R32_) underlying22) ?_
 refine sv (v := ov) (x_move rfl) ?_
 refine sv (v := (vI .i64 ((List.length ops) : Int))) (x_lenRS rfl (RS.mono ho hz_R_R32_) underlying34) ?_
 refine sv (v := (vI .i64 (((List.length l) : Int) + ((List.length ops) : Int)))) (x_bin rfl rfl (ib_add (IntWalk.i64_in _ (by omega)))) ?_
 refine sv (v := (vB (decide (((List.length A25_) : Int) ≠ ((List.length l) : Int) + ((List.length ops) : Int))))) (x_bin rfl rfl rfl) ?_
 refine wn (hK40_ _ _ ?_)
 refine C_cond (b := decide (((List.length A25_) : Int) ≠ ((List.length l) : Int) + ((List.length ops) : Int))) rfl (fun c41_t => ?_) (fun c41_f => ?_)
 ·have c41_tp : ((List.length A25_) : Int) ≠ ((List.length l) : Int) + ((List.length ops) : Int) := of_decide_eq_true c41_t
  omega
 ·have c41_fp : ¬ (((List.length A25_) : Int) ≠ ((List.length l) : Int) + ((List.length ops) : Int)) := of_decide_eq_false c41_f
  refine C_skip (X_then (hK39_ _ _ ?_))
  refine cR fun _ hK42_ => ?_
  refine sv (v := v24_) (x_move rfl) ?_
  refine sv (v := lv) (x_move rfl) ?_
  refine sv (v := (vI .i64 ((List.length l) : Int))) (x_lenRS rfl (RS.mono hl hz_R_R32_) underlying22) ?_
  refine sv (v := (slc v24_ (List.length l) (List.length A25_) 6)) (x_sliceRS (l := (List.length l)) (h := (List.length A25_)) rfl hr38_ underlying26 z32 (by omega) rfl ⟨_, _, rfl, by omega, by omega, by omega⟩) ?_
  refine sv (v := (slc v24_ (List.length l) (List.length A25_) 6)) (x_assign rfl) ?_
  refine sv (v := (vB true)) (x_assign rfl) ?_
  refine wn (hK42_ _ _ ?_)
  refine C_ret ?_
  refine R_any (v := (vT #[(slc v24_ (List.length l) (List.length A25_) 6), (vB true)])) (run_results2 rfl rfl rfl) ?_
  exact ⟨R32_, _, _, rfl, hz_R_R32_, ⟨slc v24_ (List.length l) (List.length A25_) 6, A25_, (congrArg (fun l => vT (List.toArray l)) (lcons (rfl : (slc v24_ (List.length l) (List.length A25_) 6) = ((slc v24_ (List.length l) (List.length A25_) 6))) rfl)), rfl, (he26_.mono hs33_), ((RS.slcD (a := (List.length l)) BA.len hr38_ (by omega)))⟩, S31_, H37_⟩
end Go.Proofs.Ytdfjdmmmlidamaa
set_option linter.unusedVariables false
set_option linter.unusedSimpArgs false
namespace Go.Proofs.Ytdfjdmmmlidamaa
open Go Go.RowKit Gw Try
open Go.Value renaming int → vI, bool → vB, slice → vS, pointer → vP, agg → vA, tuple → vT

section
variable {P : Program} {n : Nat} {e : Env} {w : World} {K : Value → World → Prop} {d : Option Nat} {ty : TypeId} {pos : String} {af : Array Edge} {g : Option (Nat × Bool)} {l : List SP}
theorem T_appendZ0 {t tx el sz bb k : Nat} {kn kq : IntKind} {o1 o2 : Operand} {z : Value} {zs : List Value} {ki : Int} (h1 : ev n e o1 = .slice none 0 0) (h2 : ev n e o2 = .int kq ki) (hki : ki = k) (ht : P.underlying t = some (.slice el)) (htx : P.underlying tx = some (.int kn))
    (hz : tin P el = some (sz, bb, some z)) (hzc : z.cells = zs.toArray) (hzl : zs.length = sz) (hsz : 0 < sz) (hb : 0 < bb) (hk : 0 < k) (h : Holds w l) (hroom : k * bb ≤ 140737488355328)
    (kk : ∀ v' w', Same w w' → Holds w' (sl el sz v' k (List.flatten (List.replicate k zs)) :: l) → K v' w') :
    Stp P n e ⟨d, .call { callee := .builtin .append, args := #[o1, o2], argTypes := #[t, tx] }, ty, pos, af, g⟩ w K := by
  subst hki
  obtain ⟨ti, hti, e1, e2, e3⟩ := tin_info hz
  have hmk : k ≤ 140737488355328 := Nat.le_trans (Nat.le_mul_of_pos_right _ hb) hroom
  have hg : 0 < 0 + k := by omega
  have hfit : Builtin.nextslicecap (0 + k) 0 * ti.bytes ≤ 281474976710656 := by
    rw [e2]
    have := nextslicecap_le hg
    calc Builtin.nextslicecap (0 + k) 0 * bb ≤ 2 * (0 + k) * bb := Nat.mul_le_mul_right _ this
      _ = 2 * (k * bb) := by rw [Nat.zero_add, Nat.mul_assoc]
      _ ≤ _ := by omega
  have hzr : ∀ c : Nat, (Builtin.zeroCells z.cells c).toList = List.flatten (List.replicate c zs) := by
    intro c
    rw [hzc]
    exact zeros_eq zs.toArray c
  have hzn : ∀ c : Nat, (List.flatten (List.replicate c zs)).length = c * sz := by
    intro c
    simp [hzl]
  have hr := Go.Lib.run_append_grow_zeros (P := P) w t tx ty el ti z kq kn ht htx hti e3 none 0 0 [] (run_firstCells_none _ _ _ _ _) k hk (by rw [e1]; exact hsz) hg (by omega) (by rw [e2]; omega) hfit
  have hge : 0 + k ≤ grownCap w (0 + k) 0 el := grownCap_ge w (0 + k) 0 el
  have ha := (h.drew).alloc ((([] : List Value).toArray ++ Builtin.zeroCells z.cells k ++ Builtin.zeroCells z.cells (grownCap w (0 + k) 0 el - (0 + k)))) el
  simp only [Array.toList_append, hzr] at ha
  have hb2 := Holds.to_sl (b := w.heap.size) ha 0 [] (List.flatten (List.replicate (grownCap w (0 + k) 0 el - (0 + k)) zs)) (xs := List.flatten (List.replicate k zs)) (T := el) (sz := sz) (m := k) (cap := grownCap w (0 + k) 0 el) (by simp) (hzn k) (by rw [hzn]; congr 1; omega) (by omega)
  refine .inl ⟨_, _, ?_, kk (.slice (some ⟨w.heap.size, 0, none⟩) k (grownCap w (0 + k) 0 el)) (w.drew.alloc (.cells (([] : List Value).toArray ++ Builtin.zeroCells z.cells k ++ Builtin.zeroCells z.cells (grownCap w (0 + k) 0 el - (0 + k))) el)) (Same.drew_alloc w _) hb2⟩
  simp only [execOp, resolve, Sem.run_bind, Sem.run_pure, Result.andThen_ok, invoke, builtin]
  simp [h1, h2, hr]
end
theorem take_min {α : Type _} (m : Nat) (l : List α) : l.take (min m l.length) = l.take m := by
  rcases Nat.le_total m l.length with h | h
  · rw [Nat.min_eq_left h]
  · rw [Nat.min_eq_right h, List.take_of_length_le h, List.take_of_length_le (Nat.le_refl _)]


set_option maxHeartbeats 1600000 in
theorem slEq (R : HP) (v u : Value) (L M : List EL) (hv : RS R 2 v (List.length L) (L.flatMap EL.cells)) (hu : RS R 2 u (List.length M) (M.flatMap EL.cells)) (hLM : M = L) (hn : L.length ≤ 1000000) :
    Tri Try.prog 13 #[v, u] R [] (fun v__ post__ => v__ = (vB true) ∧ post__ = []) := by
 have hMl : M.length = L.length := by rw [hLM]
 refine Tri.into (n := 26) (al := [v, u]) func13 rfl ntmps13 rfl rfl fun w F H => ?_
 refine cR fun _ hK1_ => ?_
 refine sv (v := (vB false)) (x_assign rfl) ?_
 refine wn (hK1_ _ _ ?_)
 refine C_seq (fun _ hK2_ => ?_)
 refine cR fun _ hK3_ => ?_
 refine sv (v := v) (x_move rfl) ?_
 refine sv (v := (vI .i64 ((List.length L) : Int))) (x_lenRS rfl hv underlying22) ?_
 refine sv (v := u) (x_move rfl) ?_
 refine sv (v := (vI .i64 ((List.length M) : Int))) (x_lenRS rfl hu underlying22) ?_
 refine sv (v := (vB (decide (((List.length L) : Int) ≠ ((List.length M) : Int))))) (x_bin rfl rfl rfl) ?_
 refine wn (hK3_ _ _ ?_)
 refine C_cond (b := decide (((List.length L) : Int) ≠ ((List.length M) : Int))) rfl (fun c4_t => ?_) (fun c4_f => ?_)
 ·have c4_tp : ((List.length L) : Int) ≠ ((List.length M) : Int) := of_decide_eq_true c4_t
  omega
 ·have c4_fp : ¬ (((List.length L) : Int) ≠ ((List.length M) : Int)) := of_decide_eq_false c4_f
  refine C_skip (X_then (hK2_ _ _ ?_))
  refine C_seq (fun _ hK5_ => ?_)
  refine cR fun _ hK6_ => ?_
  refine sv (v := v) (x_move rfl) ?_
  refine sv (v := (vI .i64 ((List.length L) : Int))) (x_lenRS rfl hv underlying22) ?_
  refine sm (vI .i64 0) ?_
  refine wn (hK6_ _ _ ?_)
  refine C_block ?_
  refine C_loop (γ := Nat × Bool) (fun x__ a__ w1__ => match x__ with | ⟨k, t4_v⟩ => ∃ h : Env, a__ = mkA 26 (upd (upd (upd (upd (upd h 0 v) 1 u) 4 (vB t4_v)) 12 (vI .i64 ((List.length L) : Int))) 13 (vI .i64 (k : Int))) [] ∧ Holds w1__ (ro R :: F) ∧ Same w w1__ ∧ (k ≤ L.length)) (fun x__ => match x__ with | ⟨k, t4_v⟩ => L.length - k) (⟨0, false⟩) ⟨_, congrArg (fun e => mkA 26 e []) (ch (ch (ch (ch (ch rfl rfl) rfl) rfl) rfl) (congrArg (vI .i64) ((by first | rfl | omega | (simp; done) | (simp; omega)) : 0 = (0 : Int)))), H, (Same.refl w), (by first | assumption | omega | exact rfl)⟩ ?_
  rintro ⟨k, t4_v⟩ _ w7_ ⟨h, rfl, H8_, S9_, hk⟩
  refine cR fun _ hK10_ => ?_
  refine sv (v := (vB (decide ((k : Int) < ((List.length L) : Int))))) (x_bin rfl rfl rfl) ?_
  refine wn (hK10_ _ _ ?_)
  refine C_seq (fun _ hK11_ => ?_)
  refine C_cond (b := decide ((k : Int) < ((List.length L) : Int))) rfl (fun c12_t => ?_) (fun c12_f => ?_)
  ·have c12_tp : (k : Int) < ((List.length L) : Int) := of_decide_eq_true c12_t
   refine C_skip (X_then (hK11_ _ _ ?_))
   refine C_seq (fun _ hK13_ => ?_)
   refine C_block ?_
   refine cR fun _ hK14_ => ?_
   refine sm (vI .i64 (k : Int)) ?_
   refine sv (v := (vI .i64 (k : Int))) (x_assign rfl) ?_
   refine wn (hK14_ _ _ ?_)
   refine C_seq (fun _ hK15_ => ?_)
   refine A_start (S := fun w => Sub R (hp w)) (N := 9) foll rfl rfl ?_
   have H16_ := Holds.drew_ H8_
   have hq17_ := ((Holds.ro_at H16_ 0 rfl))
   refine A_tk 0 (v := v) rfl (by kernel_rfl) (fun w hS => x_move rfl) hq17_ ?_
   refine A_tk 1 (v := (vI .i64 (k : Int))) rfl (by kernel_rfl) (fun w hS => x_move rfl) hq17_ ?_
   obtain ⟨x18_, hx19_, hm20_⟩ := elem_at L k (by omega)
   refine A_tk 2 (v := (vP (some ⟨(sb v), so v + (k * 2 + 0), none⟩))) rfl (by kernel_rfl) (fun w hS => x_idxRS (v := v) rfl hv rfl underlying22 z24 (by omega) (by omega) (by omega : _ = k) rfl) hq17_ ?_
   refine A_tk 3 (v := (vA #[(vI .i64 x18_.key), (vI .i64 x18_.val)])) rfl (by kernel_rfl) (fun w hS => x_loadN (vs := [(vI .i64 x18_.key), (vI .i64 x18_.val)]) rfl underlying24 rfl z24 rfl (RC.cells (RS.rc hv) hS (k * 2 + 0) (fm_cells EL.len hx19_ (i := 0) rfl))) hq17_ ?_
   refine A_tk 4 (v := u) rfl (by kernel_rfl) (fun w hS => x_move rfl) hq17_ ?_
   refine A_tk 5 (v := (vI .i64 (k : Int))) rfl (by kernel_rfl) (fun w hS => x_move rfl) hq17_ ?_
   refine A_tk 6 (v := (vP (some ⟨(sb u), so u + (k * 2 + 0), none⟩))) rfl (by kernel_rfl) (fun w hS => x_idxRS (v := u) rfl hu rfl underlying22 z24 (by omega) (by omega) (by omega : _ = k) rfl) hq17_ ?_
   refine A_tk 7 (v := (vA #[(vI .i64 x18_.key), (vI .i64 x18_.val)])) rfl (by kernel_rfl) (fun w hS => x_loadN (vs := [(vI .i64 x18_.key), (vI .i64 x18_.val)]) rfl underlying24 rfl z24 rfl (RC.cells (RS.rc hu) hS (k * 2 + 0) (fm_cells EL.len (by rw [hLM]; exact hx19_) (i := 0) rfl))) hq17_ ?_
   refine A_tk 8 (v := (vB false)) rfl (by kernel_rfl) (fun w hS => x_cast (x_neqS rfl rfl (by kernel_rfl) (eq_struct underlying24 (by kernel_rfl) (eqf_cons rfl (run_part1 underlying3 rfl rfl) (run_part1 underlying3 rfl rfl) (eq_int underlying3) (eqf_cons rfl (run_part1 underlying3 rfl rfl) (run_part1 underlying3 rfl rfl) (eq_int underlying3) (eqf_nil))))) (by simp)) hq17_ ?_
   refine A_done (by kernel_rfl) ?_
   refine (X_then (hK15_ _ _ ?_))
   refine C_condF rfl ?_
   refine C_skip (X_blkN (X_then (hK13_ _ _ ?_)))
   refine C_reg ?_
   refine sv (v := (vI .i64 ((k : Int) + 1))) (x_bin rfl rfl (ib_add (IntWalk.i64_in _ (by omega)))) ?_
   refine sm (vI .i64 ((k : Int) + 1)) ?_
   refine wpList_nil (X_then ?_)
   exact ⟨⟨k + 1, t4_v⟩, ⟨_, congrArg (fun e => mkA 26 e []) (ch (ch (ch (ch (ch rfl rfl) rfl) rfl) rfl) (congrArg (vI .i64) ((by first | rfl | omega | (simp; done) | (simp; omega)) : (k : Int) + 1 = ((k + 1 : Nat) : Int)))), H16_, (Same.trans S9_ (Same.drew _)), (by first | assumption | omega | exact rfl)⟩, by first | omega | (dsimp only; omega) | (simp; omega)⟩
  ·have c12_fp : ¬ ((k : Int) < ((List.length L) : Int)) := of_decide_eq_false c12_f
   refine C_exit (X_thenX (X_thenX (X_blkHit ?_)))
   refine (X_then (hK5_ _ _ ?_))
   refine cR fun _ hK21_ => ?_
   refine sv (v := (vB true)) (x_assign rfl) ?_
   refine wn (hK21_ _ _ ?_)
   refine C_ret ?_
   refine R_any (v := (vB true)) (run_results1 rfl rfl) ?_
   exact ⟨_, _, rfl, ⟨rfl, rfl⟩, S9_, H8_⟩

set_option maxHeartbeats 1600000 in
theorem slGrow (R : HP) (n : Nat) (hn : n ≤ 1000000) :
    Tri Try.prog 20 #[(vS none 0 0), (vI .i64 (n : Int))] R [] (fun v__ post__ => ∃ (v' : Value), v__ = v' ∧ post__ = [sl 24 2 v' (List.length ([] : List EL)) (([] : List EL).flatMap EL.cells)]) := by
 refine Tri.into (n := 27) (al := [(vS none 0 0), (vI .i64 (n : Int))]) func20 rfl ntmps20 rfl rfl fun w F H => ?_
 refine cR fun _ hK1_ => ?_
 refine sv (v := (vS none 0 0)) (x_assign rfl) ?_
 refine wn (hK1_ _ _ ?_)
 refine C_seq (fun _ hK2_ => ?_)
 refine cR fun _ hK3_ => ?_
 refine sm (vI .i64 (n : Int)) ?_
 refine sv (v := (vB (decide ((n : Int) < 0)))) (x_bin rfl rfl rfl) ?_
 refine wn (hK3_ _ _ ?_)
 refine C_cond (b := decide ((n : Int) < 0)) rfl (fun c4_t => ?_) (fun c4_f => ?_)
 ·have c4_tp : (n : Int) < 0 := of_decide_eq_true c4_t
  omega
 ·have c4_fp : ¬ ((n : Int) < 0) := of_decide_eq_false c4_f
  refine C_skip (X_then (hK2_ _ _ ?_))
  refine C_seq (fun _ hK5_ => ?_)
  refine cR fun _ hK6_ => ?_
  refine sm (vI .i64 (n : Int)) ?_
  refine sm (vS none 0 0) ?_
  refine sv (v := (vI .i64 0)) (x_capS rfl underlying22) ?_
  refine sm (vS none 0 0) ?_
  refine sv (v := (vI .i64 0)) (x_lenS rfl underlying22) ?_
  refine sv (v := (vI .i64 0)) (x_bin rfl rfl (by rfl)) ?_
  refine sv (v := (vI .i64 ((n : Int) - 0))) (x_bin rfl rfl (ib_sub (IntWalk.i64_in _ (by omega)))) ?_
  refine sv (v := (vI .i64 ((n : Int) - 0))) (x_assign rfl) ?_
  refine wn (hK6_ _ _ ?_)
  refine cR fun _ hK7_ => ?_
  refine sm (vI .i64 ((n : Int) - 0)) ?_
  refine sv (v := (vB (decide (0 < (n : Int) - 0)))) (x_bin rfl rfl rfl) ?_
  refine wn (hK7_ _ _ ?_)
  refine C_cond (b := decide (0 < (n : Int) - 0)) rfl (fun c8_t => ?_) (fun c8_f => ?_)
  ·have c8_tp : 0 < (n : Int) - 0 := of_decide_eq_true c8_t
   refine C_reg ?_
   refine sm (vS none 0 0) ?_
   refine sm (vS none 0 0) ?_
   refine sv (v := (vI .i64 0)) (x_capS rfl underlying22) ?_
   refine sv (v := .slice none 0 0) (x_slice (l := 0) (h := 0) rfl underlying22 z24 ⟨_, _, rfl, by omega, by omega, by omega⟩ rfl rfl) ?_
   refine sm (vI .i64 ((n : Int) - 0)) ?_
   refine S_list (T_appendZ0 (k := n) (zs := [vI .i64 0, vI .i64 0]) rfl rfl (by omega) underlying22 underlying3 z24 rfl rfl (by decide) (by decide) (by omega) H (by omega) ?_)
   intro v9_ w10_ S12_ H11_
   have S13_ := Same.trans (Same.refl w) S12_
   refine sm (vS none 0 0) ?_
   refine sv (v := (vI .i64 0)) (x_lenS rfl underlying22) ?_
   have hr14_ := Holds.sl_RSw H11_ 0 rfl
   refine sv (v := ((slc v9_ 0 0 2))) (x_sliceRS (l := 0) (h := 0) rfl hr14_ underlying22 z24 (by omega) ⟨_, _, rfl, by omega, by omega, by omega⟩ rfl) ?_
   have H15_ := Holds.sl_trunc (k := 0) H11_ 0 rfl (by omega)
   refine sv (v := ((slc v9_ 0 0 2))) (x_assign rfl) ?_
   refine wn (hK5_ _ _ ?_)
   refine cR fun _ hK16_ => ?_
   refine sm ((slc v9_ 0 0 2)) ?_
   refine sv (v := ((slc v9_ 0 0 2))) (x_assign rfl) ?_
   refine wn (hK16_ _ _ ?_)
   refine C_ret ?_
   refine R_any (v := ((slc v9_ 0 0 2))) (run_results1 rfl rfl) ?_
   have H17_ := Holds.resl H15_ 0 rfl (by simp : List.take (0 * 2) (List.flatten (List.replicate n [vI .i64 0, vI .i64 0])) = ([] : List EL).flatMap EL.cells) (rfl : 0 = (List.length ([] : List EL)))
   have H18_ := Holds.pkF H17_ [1, 0] 0
   exact ⟨_, _, rfl, ⟨(slc v9_ 0 0 2), rfl, rfl⟩, S13_, H18_⟩
  ·have c8_fp : ¬ (0 < (n : Int) - 0) := of_decide_eq_false c8_f
   refine C_skip (X_then (hK5_ _ _ ?_))
   refine cR fun _ hK19_ => ?_
   refine sm (vS none 0 0) ?_
   refine sv (v := (vS none 0 0)) (x_assign rfl) ?_
   refine wn (hK19_ _ _ ?_)
   refine C_ret ?_
   refine R_any (v := (vS none 0 0)) (run_results1 rfl rfl) ?_
   have H20_ : Holds w (sl 24 2 (vS none 0 0) (List.length ([] : List EL)) (([] : List EL).flatMap EL.cells) :: ro R :: F) := Holds.add_nil H 24 2
   have H21_ := Holds.pkF H20_ [1, 0] 0
   exact ⟨_, _, rfl, ⟨(vS none 0 0), rfl, rfl⟩, (Same.refl w), H21_⟩

set_option maxHeartbeats 1600000 in
theorem slCat (R : HP) (b : Nat) (v1 v2 v3 : Value) (L1 L2 L3 : List EL) (h1 : RS R 2 v1 (List.length L1) (L1.flatMap EL.cells)) (h2 : RS R 2 v2 (List.length L2) (L2.flatMap EL.cells)) (h3 : RS R 2 v3 (List.length L3) (L3.flatMap EL.cells)) (hn : L1.length ≤ 100000 ∧ L2.length ≤ 100000 ∧ L3.length ≤ 100000) :
    Tri Try.prog 11 #[(vS (some ⟨b, 0, none⟩) 3 3)] R [cl b 22 [v1, v2, v3]] (fun v__ post__ => ∃ (v' : Value), v__ = v' ∧ post__ = [sl 24 2 v' (List.length (L1 ++ L2 ++ L3)) ((L1 ++ L2 ++ L3).flatMap EL.cells)]) := by
 refine Tri.into (n := 36) (al := [(vS (some ⟨b, 0, none⟩) 3 3)]) func11 rfl ntmps11 rfl rfl fun w F H => ?_
 refine cR fun _ hK1_ => ?_
 refine sv (v := (vS none 0 0)) (x_assign rfl) ?_
 refine wn (hK1_ _ _ ?_)
 refine cR fun _ hK2_ => ?_
 refine sv (v := (vI .i64 0)) (x_assign rfl) ?_
 refine wn (hK2_ _ _ ?_)
 refine C_seq (fun _ hK3_ => ?_)
 refine cR fun _ hK4_ => ?_
 refine sm (vS (some ⟨b, 0, none⟩) 3 3) ?_
 refine sv (v := (vI .i64 3)) (x_lenS rfl underlying51) ?_
 refine sm (vI .i64 0) ?_
 refine wn (hK4_ _ _ ?_)
 refine C_block ?_
 refine C_loopN 4 ?_
 refine C_rounds (fun _ hK5_ => ?_)
 refine cR fun _ hK6_ => ?_
 refine sv (v := (vB true)) (x_bin rfl rfl rfl) ?_
 refine wn (hK6_ _ _ ?_)
 refine C_seq (fun _ hK7_ => ?_)
 refine C_condT rfl ?_
 refine C_skip (X_then (hK7_ _ _ ?_))
 refine C_seq (fun _ hK8_ => ?_)
 refine C_block ?_
 refine cR fun _ hK9_ => ?_
 refine sv (v := (vP (some ⟨b, 0, none⟩))) (x_indexAddr rfl rfl underlying51 z22 (by omega) (by omega) (by omega : _ = 0) (by first | rfl | simp | (congr 1; omega))) ?_
 refine sv (v := v1) (x_load1 rfl underlying22 rfl ((Holds.rd H 1 rfl) 0 v1 rfl)) ?_
 refine sv (v := v1) (x_assign rfl) ?_
 refine wn (hK9_ _ _ ?_)
 refine cR fun _ hK10_ => ?_
 refine sm (vI .i64 0) ?_
 refine sv (v := v1) (x_move rfl) ?_
 refine sv (v := (vI .i64 ((List.length L1) : Int))) (x_lenRS rfl h1 underlying22) ?_
 refine sv (v := (vI .i64 (0 + ((List.length L1) : Int)))) (x_bin rfl rfl (ib_add (IntWalk.i64_in _ (by omega)))) ?_
 refine sv (v := (vI .i64 (0 + ((List.length L1) : Int)))) (x_assign rfl) ?_
 refine wn (hK10_ _ _ ?_)
 refine cR fun _ hK11_ => ?_
 refine sv (v := (vI .i64 (0 + ((List.length L1) : Int)))) (x_move rfl) ?_
 refine sv (v := (vB (decide (0 + ((List.length L1) : Int) < 0)))) (x_bin rfl rfl rfl) ?_
 refine wn (hK11_ _ _ ?_)
 refine C_cond (b := decide (0 + ((List.length L1) : Int) < 0)) rfl (fun c12_t => ?_) (fun c12_f => ?_)
 ·have c12_tp : 0 + ((List.length L1) : Int) < 0 := of_decide_eq_true c12_t
  omega
 ·have c12_fp : ¬ (0 + ((List.length L1) : Int) < 0) := of_decide_eq_false c12_f
  refine C_skip (X_blkN (X_then (hK8_ _ _ ?_)))
  refine C_reg ?_
  refine sv (v := (vI .i64 1)) (x_bin rfl rfl (by rfl)) ?_
  refine sm (vI .i64 1) ?_
  refine wpList_nil (X_then ?_)
  refine hK5_ _ _ ?_
  refine C_rounds (fun _ hK13_ => ?_)
  refine cR fun _ hK14_ => ?_
  refine sv (v := (vB true)) (x_bin rfl rfl rfl) ?_
  refine wn (hK14_ _ _ ?_)
  refine C_seq (fun _ hK15_ => ?_)
  refine C_condT rfl ?_
  refine C_skip (X_then (hK15_ _ _ ?_))
  refine C_seq (fun _ hK16_ => ?_)
  refine C_block ?_
  refine cR fun _ hK17_ => ?_
  refine sv (v := (vP (some ⟨b, 1, none⟩))) (x_indexAddr rfl rfl underlying51 z22 (by omega) (by omega) (by omega : _ = 1) (by first | rfl | simp | (congr 1; omega))) ?_
  refine sv (v := v2) (x_load1 rfl underlying22 rfl ((Holds.rd H 1 rfl) 1 v2 rfl)) ?_
  refine sv (v := v2) (x_assign rfl) ?_
  refine wn (hK17_ _ _ ?_)
  refine cR fun _ hK18_ => ?_
  refine sv (v := (vI .i64 (0 + ((List.length L1) : Int)))) (x_move rfl) ?_
  refine sv (v := v2) (x_move rfl) ?_
  refine sv (v := (vI .i64 ((List.length L2) : Int))) (x_lenRS rfl h2 underlying22) ?_
  refine sv (v := (vI .i64 ((0 + ((List.length L1) : Int)) + ((List.length L2) : Int)))) (x_bin rfl rfl (ib_add (IntWalk.i64_in _ (by omega)))) ?_
  refine sv (v := (vI .i64 ((0 + ((List.length L1) : Int)) + ((List.length L2) : Int)))) (x_assign rfl) ?_
  refine wn (hK18_ _ _ ?_)
  refine cR fun _ hK19_ => ?_
  refine sv (v := (vI .i64 ((0 + ((List.length L1) : Int)) + ((List.length L2) : Int)))) (x_move rfl) ?_
  refine sv (v := (vB (decide ((0 + ((List.length L1) : Int)) + ((List.length L2) : Int) < 0)))) (x_bin rfl rfl rfl) ?_
  refine wn (hK19_ _ _ ?_)
  refine C_cond (b := decide ((0 + ((List.length L1) : Int)) + ((List.length L2) : Int) < 0)) rfl (fun c20_t => ?_) (fun c20_f => ?_)
  ·have c20_tp : (0 + ((List.length L1) : Int)) + ((List.length L2) : Int) < 0 := of_decide_eq_true c20_t
   omega
  ·have c20_fp : ¬ ((0 + ((List.length L1) : Int)) + ((List.length L2) : Int) < 0) := of_decide_eq_false c20_f
   refine C_skip (X_blkN (X_then (hK16_ _ _ ?_)))
   refine C_reg ?_
   refine sv (v := (vI .i64 2)) (x_bin rfl rfl (by rfl)) ?_
   refine sm (vI .i64 2) ?_
   refine wpList_nil (X_then ?_)
   refine hK13_ _ _ ?_
   refine C_rounds (fun _ hK21_ => ?_)
   refine cR fun _ hK22_ => ?_
   refine sv (v := (vB true)) (x_bin rfl rfl rfl) ?_
   refine wn (hK22_ _ _ ?_)
   refine C_seq (fun _ hK23_ => ?_)
   refine C_condT rfl ?_
   refine C_skip (X_then (hK23_ _ _ ?_))
   refine C_seq (fun _ hK24_ => ?_)
   refine C_block ?_
   refine cR fun _ hK25_ => ?_
   refine sv (v := (vP (some ⟨b, 2, none⟩))) (x_indexAddr rfl rfl underlying51 z22 (by omega) (by omega) (by omega : _ = 2) (by first | rfl | simp | (congr 1; omega))) ?_
   refine sv (v := v3) (x_load1 rfl underlying22 rfl ((Holds.rd H 1 rfl) 2 v3 rfl)) ?_
   refine sv (v := v3) (x_assign rfl) ?_
   refine wn (hK25_ _ _ ?_)
   refine cR fun _ hK26_ => ?_
   refine sv (v := (vI .i64 ((0 + ((List.length L1) : Int)) + ((List.length L2) : Int)))) (x_move rfl) ?_
   refine sv (v := v3) (x_move rfl) ?_
   refine sv (v := (vI .i64 ((List.length L3) : Int))) (x_lenRS rfl h3 underlying22) ?_
   refine sv (v := (vI .i64 (((0 + ((List.length L1) : Int)) + ((List.length L2) : Int)) + ((List.length L3) : Int)))) (x_bin rfl rfl (ib_add (IntWalk.i64_in _ (by omega)))) ?_
   refine sv (v := (vI .i64 (((0 + ((List.length L1) : Int)) + ((List.length L2) : Int)) + ((List.length L3) : Int)))) (x_assign rfl) ?_
   refine wn (hK26_ _ _ ?_)
   refine cR fun _ hK27_ => ?_
   refine sv (v := (vI .i64 (((0 + ((List.length L1) : Int)) + ((List.length L2) : Int)) + ((List.length L3) : Int)))) (x_move rfl) ?_
   refine sv (v := (vB (decide (((0 + ((List.length L1) : Int)) + ((List.length L2) : Int)) + ((List.length L3) : Int) < 0)))) (x_bin rfl rfl rfl) ?_
   refine wn (hK27_ _ _ ?_)
   refine C_cond (b := decide (((0 + ((List.length L1) : Int)) + ((List.length L2) : Int)) + ((List.length L3) : Int) < 0)) rfl (fun c28_t => ?_) (fun c28_f => ?_)
   ·have c28_tp : ((0 + ((List.length L1) : Int)) + ((List.length L2) : Int)) + ((List.length L3) : Int) < 0 := of_decide_eq_true c28_t
    omega
   ·have c28_fp : ¬ (((0 + ((List.length L1) : Int)) + ((List.length L2) : Int)) + ((List.length L3) : Int) < 0) := of_decide_eq_false c28_f
    refine C_skip (X_blkN (X_then (hK24_ _ _ ?_)))
    refine C_reg ?_
    refine sv (v := (vI .i64 3)) (x_bin rfl rfl (by rfl)) ?_
    refine sm (vI .i64 3) ?_
    refine wpList_nil (X_then ?_)
    refine hK21_ _ _ ?_
    refine C_rounds (fun _ hK29_ => ?_)
    refine cR fun _ hK30_ => ?_
    refine sv (v := (vB false)) (x_bin rfl rfl rfl) ?_
    refine wn (hK30_ _ _ ?_)
    refine C_seq (fun _ hK31_ => ?_)
    refine C_condF rfl ?_
    refine C_exit (X_thenX (X_thenX (X_blkHit ?_)))
    refine (X_then (hK3_ _ _ ?_))
    refine cR fun _ hK32_ => ?_
    refine sv (v := (vI .i64 (((0 + ((List.length L1) : Int)) + ((List.length L2) : Int)) + ((List.length L3) : Int)))) (x_move rfl) ?_
    refine S_list (T_call (al := [(vS none 0 0), (vI .i64 ((L1.length + L2.length + L3.length : Nat) : Int))]) (pre := []) rfl (lcons rfl (lcons (congrArg (vI .i64) ((by first | rfl | omega | (simp; done) | (simp; omega)) : ((0 + ((List.length L1) : Int)) + ((List.length L2) : Int)) + ((List.length L3) : Int) = ((L1.length + L2.length + L3.length : Nat) : Int))) rfl)) cb20 (slGrow R (L1.length + L2.length + L3.length) (by omega)) H ?_)
    rintro v33_ p37_ w34_ ⟨_, rfl, rfl⟩ S36_ H35_
    have S38_ := Same.trans (Same.refl w) S36_
    refine sv (v := v33_) (x_assign rfl) ?_
    refine wn (hK32_ _ _ ?_)
    refine C_seq (fun _ hK39_ => ?_)
    refine cR fun _ hK40_ => ?_
    refine sm (vS (some ⟨b, 0, none⟩) 3 3) ?_
    refine sv (v := (vI .i64 3)) (x_lenS rfl underlying51) ?_
    refine sm (vI .i64 0) ?_
    refine wn (hK40_ _ _ ?_)
    refine C_block ?_
    refine C_loopN 4 ?_
    refine C_rounds (fun _ hK41_ => ?_)
    refine cR fun _ hK42_ => ?_
    refine sv (v := (vB true)) (x_bin rfl rfl rfl) ?_
    refine wn (hK42_ _ _ ?_)
    refine C_seq (fun _ hK43_ => ?_)
    refine C_condT rfl ?_
    refine C_skip (X_then (hK43_ _ _ ?_))
    refine C_seq (fun _ hK44_ => ?_)
    refine C_block ?_
    refine cR fun _ hK45_ => ?_
    refine sv (v := (vP (some ⟨b, 0, none⟩))) (x_indexAddr rfl rfl underlying51 z22 (by omega) (by omega) (by omega : _ = 0) (by first | rfl | simp | (congr 1; omega))) ?_
    refine sv (v := v1) (x_load1 rfl underlying22 rfl ((Holds.rd H35_ 2 rfl) 0 v1 rfl)) ?_
    refine sv (v := v1) (x_assign rfl) ?_
    refine wn (hK45_ _ _ ?_)
    refine C_reg ?_
    refine sv (v := v33_) (x_move rfl) ?_
    refine sv (v := v1) (x_move rfl) ?_
    refine S_list (T_append rfl rfl underlying22 z24 rfl (by decide) H35_ 1 rfl (RS.src h1 (Holds.ro_at H35_ 0 rfl) underlying22 (el_one _)) (by first | omega | (simp only [List.length_append, List.length_cons, List.length_nil]; omega)) ?_)
    intro v46_ w47_ S49_ H48_
    have S50_ := Same.trans S38_ S49_
    refine sv (v := v46_) (x_assign rfl) ?_
    refine wpList_nil (X_blkN (X_then (hK44_ _ _ ?_)))
    refine C_reg ?_
    refine sv (v := (vI .i64 1)) (x_bin rfl rfl (by rfl)) ?_
    refine sm (vI .i64 1) ?_
    refine wpList_nil (X_then ?_)
    refine hK41_ _ _ ?_
    refine C_rounds (fun _ hK51_ => ?_)
    refine cR fun _ hK52_ => ?_
    refine sv (v := (vB true)) (x_bin rfl rfl rfl) ?_
    refine wn (hK52_ _ _ ?_)
    refine C_seq (fun _ hK53_ => ?_)
    refine C_condT rfl ?_
    refine C_skip (X_then (hK53_ _ _ ?_))
    refine C_seq (fun _ hK54_ => ?_)
    refine C_block ?_
    refine cR fun _ hK55_ => ?_
    refine sv (v := (vP (some ⟨b, 1, none⟩))) (x_indexAddr rfl rfl underlying51 z22 (by omega) (by omega) (by omega : _ = 1) (by first | rfl | simp | (congr 1; omega))) ?_
    refine sv (v := v2) (x_load1 rfl underlying22 rfl ((Holds.rd H48_ 2 rfl) 1 v2 rfl)) ?_
    refine sv (v := v2) (x_assign rfl) ?_
    refine wn (hK55_ _ _ ?_)
    refine C_reg ?_
    refine sv (v := v46_) (x_move rfl) ?_
    refine sv (v := v2) (x_move rfl) ?_
    refine S_list (T_append rfl rfl underlying22 z24 rfl (by decide) H48_ 1 rfl (RS.src h2 (Holds.ro_at H48_ 0 rfl) underlying22 (el_one _)) (by first | omega | (simp only [List.length_append, List.length_cons, List.length_nil]; omega)) ?_)
    intro v56_ w57_ S59_ H58_
    have S60_ := Same.trans S50_ S59_
    refine sv (v := v56_) (x_assign rfl) ?_
    refine wpList_nil (X_blkN (X_then (hK54_ _ _ ?_)))
    refine C_reg ?_
    refine sv (v := (vI .i64 2)) (x_bin rfl rfl (by rfl)) ?_
    refine sm (vI .i64 2) ?_
    refine wpList_nil (X_then ?_)
    refine hK51_ _ _ ?_
    refine C_rounds (fun _ hK61_ => ?_)
    refine cR fun _ hK62_ => ?_
    refine sv (v := (vB true)) (x_bin rfl rfl rfl) ?_
    refine wn (hK62_ _ _ ?_)
    refine C_seq (fun _ hK63_ => ?_)
    refine C_condT rfl ?_
    refine C_skip (X_then (hK63_ _ _ ?_))
    refine C_seq (fun _ hK64_ => ?_)
    refine C_block ?_
    refine cR fun _ hK65_ => ?_
    refine sv (v := (vP (some ⟨b, 2, none⟩))) (x_indexAddr rfl rfl underlying51 z22 (by omega) (by omega) (by omega : _ = 2) (by first | rfl | simp | (congr 1; omega))) ?_
    refine sv (v := v3) (x_load1 rfl underlying22 rfl ((Holds.rd H58_ 2 rfl) 2 v3 rfl)) ?_
    refine sv (v := v3) (x_assign rfl) ?_
    refine wn (hK65_ _ _ ?_)
    refine C_reg ?_
    refine sv (v := v56_) (x_move rfl) ?_
    refine sv (v := v3) (x_move rfl) ?_
    refine S_list (T_append rfl rfl underlying22 z24 rfl (by decide) H58_ 1 rfl (RS.src h3 (Holds.ro_at H58_ 0 rfl) underlying22 (el_one _)) (by first | omega | (simp only [List.length_append, List.length_cons, List.length_nil]; omega)) ?_)
    intro v66_ w67_ S69_ H68_
    have S70_ := Same.trans S60_ S69_
    refine sv (v := v66_) (x_assign rfl) ?_
    refine wpList_nil (X_blkN (X_then (hK64_ _ _ ?_)))
    refine C_reg ?_
    refine sv (v := (vI .i64 3)) (x_bin rfl rfl (by rfl)) ?_
    refine sm (vI .i64 3) ?_
    refine wpList_nil (X_then ?_)
    refine hK61_ _ _ ?_
    refine C_rounds (fun _ hK71_ => ?_)
    refine cR fun _ hK72_ => ?_
    refine sv (v := (vB false)) (x_bin rfl rfl rfl) ?_
    refine wn (hK72_ _ _ ?_)
    refine C_seq (fun _ hK73_ => ?_)
    refine C_condF rfl ?_
    refine C_exit (X_thenX (X_thenX (X_blkHit ?_)))
    refine (X_then (hK39_ _ _ ?_))
    refine cR fun _ hK74_ => ?_
    refine sv (v := v66_) (x_move rfl) ?_
    refine sv (v := v66_) (x_assign rfl) ?_
    refine wn (hK74_ _ _ ?_)
    refine C_ret ?_
    refine R_any (v := v66_) (run_results1 rfl rfl) ?_
    have H75_ := Holds.resl H68_ 1 rfl (by simp [List.flatMap_append] : (((([] : List EL).flatMap EL.cells) ++ (L1.flatMap EL.cells)) ++ (L2.flatMap EL.cells)) ++ (L3.flatMap EL.cells) = (L1 ++ L2 ++ L3).flatMap EL.cells) (by simp; omega : (List.length ([] : List EL)) + (List.length L1) + (List.length L2) + (List.length L3) = (List.length (L1 ++ L2 ++ L3)))
    have H76_ := Holds.pkF H75_ [0, 0] 1
    exact ⟨_, _, rfl, ⟨v66_, rfl, rfl⟩, S70_, H76_⟩

set_option maxHeartbeats 1600000 in
theorem lwFew (R : HP) (v : Value) (mb : Nat) (m : Int) (L : List EL) (hv : RS R 2 v (List.length L) (L.flatMap EL.cells)) (hm : 1 ≤ m) :
    Tri Try.prog 12 #[v, (vP (some ⟨mb, 0, none⟩))] R [cl mb 3 [(vI .i64 m)]] (fun v__ post__ => ∃ (v' : Value), v__ = v' ∧ post__ = [cl mb 3 [(vI .i64 m)]] ∧ (RS R 2 v' (List.length (L.take m.toNat)) ((L.take m.toNat).flatMap EL.cells))) := by
 refine Tri.into (n := 10) (al := [v, (vP (some ⟨mb, 0, none⟩))]) func12 rfl ntmps12 rfl rfl fun w F H => ?_
 refine cR fun _ hK1_ => ?_
 refine sv (v := (vS none 0 0)) (x_assign rfl) ?_
 refine wn (hK1_ _ _ ?_)
 refine cR fun _ hK2_ => ?_
 refine sv (v := v) (x_move rfl) ?_
 refine sv (v := (vI .i64 m)) (x_load1 rfl underlying3 rfl ((Holds.rd H 1 rfl) 0 (vI .i64 m) rfl)) ?_
 refine sv (v := v) (x_move rfl) ?_
 refine sv (v := (vI .i64 ((List.length L) : Int))) (x_lenRS rfl hv underlying22) ?_
 refine sv (v := (vI .i64 (min m ((List.length L) : Int)))) (x_min2 rfl rfl (min_ite _ _)) ?_
 refine sv (v := (slc v 0 (min m.toNat L.length) 2)) (x_sliceRS (l := 0) (h := (min m.toNat L.length)) rfl hv underlying22 z24 (by omega) ⟨_, _, rfl, by omega, by omega, by omega⟩ rfl) ?_
 refine sv (v := (slc v 0 (min m.toNat L.length) 2)) (x_assign rfl) ?_
 refine wn (hK2_ _ _ ?_)
 refine C_ret ?_
 refine R_any (v := (slc v 0 (min m.toNat L.length) 2)) (run_results1 rfl rfl) ?_
 exact ⟨_, _, rfl, ⟨slc v 0 (min m.toNat L.length) 2, (rfl : (slc v 0 (min m.toNat L.length) 2) = ((slc v 0 (min m.toNat L.length) 2))), rfl, (by have hz__ := (RS.slcF EL.len hv (by omega : 0 ≤ (min m.toNat L.length)) (by omega)); simp only [Nat.sub_zero, List.drop_zero, take_min] at hz__; exact hz__)⟩, (Same.refl w), H⟩
end Go.Proofs.Ytdfjdmmmlidamaa
set_option linter.unusedVariables false
set_option linter.unusedSimpArgs false
namespace Go.Proofs.Ytdfjdmmmlidamaa
open Go Go.RowKit Gw Try
open Go.Value renaming int → vI, bool → vB, slice → vS, pointer → vP, agg → vA, tuple → vT

theorem tail_at {R : HP} {l : List EL} {ops : List BO} {A : List BA} {i : Nat} {o : BO} {a : BA} (h : RunB R (l.map putO ++ ops) A) (ho : ops[i]? = some o) (ha : (A.drop l.length)[i]? = some a) : BAns R o ((ops.take i).foldl (fun l o => bNext o l) (stB (l.map putO))) a := by
  have hl : (l.map putO).length = l.length := List.length_map ..
  rw [List.getElem?_drop] at ha
  have := h.2 (l.length + i) o a (by rw [List.getElem?_append_right (by omega), hl, Nat.add_sub_cancel_left]; exact ho) ha
  rw [← hl, List.take_length_add_append] at this
  have e : stB (l.map putO ++ ops.take i) = (ops.take i).foldl (fun l o => bNext o l) (stB (l.map putO)) := by unfold stB; rw [List.foldl_append]
  rwa [e] at this
theorem told_same {e x y : EL} {b c : Bool} {l : List EL} (h1 : Told e l x b) (h2 : Told e l y c) : b = c ∧ x = y := by
  rcases h1 with ⟨rfl, a⟩ | ⟨rfl, a, rfl⟩ <;> rcases h2 with ⟨rfl, a'⟩ | ⟨rfl, a', rfl⟩ <;> rw [a] at a'
  · cases a'; exact ⟨rfl, rfl⟩
  · cases a'
  · cases a'
  · exact ⟨rfl, rfl⟩
theorem stB_len (ops : List BO) : (stB ops).length ≤ ops.length := by
  have : ∀ (l : List BO) (s : List EL), (l.foldl (fun l o => bNext o l) s).length ≤ s.length + l.length := by
    intro l
    induction l with
    | nil => intro s; simp
    | cons o l ih => intro s; have h1 := ih (bNext o s); have h2 := bNext_len o s; simp only [List.foldl_cons, List.length_cons]; omega
  have h := this ops []
  rw [List.length_nil, Nat.zero_add] at h
  exact h


theorem law_live {R : HP} {A : List BA} {a : BA} (h : RunB R [⟨1, 0, 4, 7, 0, 0, 0, false⟩, ⟨3, 0, 4, 0, 0, 0, 0, false⟩] A) (h1 : A[1]? = some a) : a.oK = true ∧ a.el_Key = 4 ∧ a.el_Val = 7 := by
  have q : Told ⟨4, 0⟩ (stB [⟨1, 0, 4, 7, 0, 0, 0, false⟩]) ⟨a.el_Key, a.el_Val⟩ a.oK := (h.2 1 _ a rfl h1).told (.inr rfl)
  have q2 : Told ⟨4, 0⟩ (stB [⟨1, 0, 4, 7, 0, 0, 0, false⟩]) ⟨4, 7⟩ true := .inl ⟨rfl, rfl⟩
  obtain ⟨e1, e2⟩ := told_same q q2
  rw [EL.mk.injEq] at e2
  exact ⟨e1, e2.1, e2.2⟩


def rO (k f t m : Int) : BO := ⟨k, 0, 0, 0, f, t, m, false⟩
theorem fold_same {ops : List BO} {S : List EL} (h : ∀ o ∈ ops, o.kind ≠ 1) : ops.foldl (fun l o => bNext o l) S = S := by
  induction ops with
  | nil => rfl
  | cons o ops ih =>
    rw [List.foldl_cons, show bNext o S = S by unfold bNext; rw [if_neg (h o List.mem_cons_self)]]
    exact ih fun x hx => h x (List.mem_cons_of_mem _ hx)
theorem rng_at {R : HP} {l : List EL} {ops : List BO} {A : List BA} {i : Nat} {o : BO} {a : BA} (h : RunB R (l.map putO ++ ops) A) (hne : ∀ o ∈ ops, o.kind ≠ 1) (ho : ops[i]? = some o) (ha : (A.drop l.length)[i]? = some a) : BAns R o (stB (l.map putO)) a := by
  have := tail_at h ho ha
  rwa [fold_same fun x hx => hne x (List.mem_of_mem_take hx)] at this
theorem cutM_len (m : Int) (l : List EL) : (cutM m l).length ≤ l.length := by
  unfold cutM
  split
  · exact Nat.le_refl _
  · rw [List.length_take]; exact Nat.min_le_right _ _
theorem bList_len (o : BO) (l : List EL) : (bList o l).length ≤ l.length := by
  unfold bList
  repeat' split
  all_goals first | exact Nat.zero_le _ | exact Nat.le_trans (cutM_len _ _) (Nat.le_refl _) | exact Nat.le_trans (cutM_len _ _) (List.length_filter_le ..) | exact Nat.le_trans (cutM_len _ _) (by rw [List.length_reverse]; first | exact Nat.le_refl _ | exact List.length_filter_le ..)
theorem part3 {f t : Int} (hft : f ≤ t) : ∀ {S : List EL}, SrtE S → S.filter (fun x => decide (x.key < f)) ++ S.filter (fun x => decide (f ≤ x.key) && decide (x.key < t)) ++ S.filter (fun x => decide (t ≤ x.key)) = S
  | [], _ => rfl
  | x :: S, h => by
    obtain ⟨h1, h2⟩ := List.pairwise_cons.1 h
    have ih := part3 hft (S := S) h2
    rw [List.filter_cons, List.filter_cons, List.filter_cons]
    by_cases a : x.key < f
    · have b : ¬ f ≤ x.key := by omega
      have c : ¬ t ≤ x.key := by omega
      simp only [a, b, c, decide_true, decide_false, if_true, Bool.false_and, Bool.false_eq_true, if_false, List.cons_append]
      rw [ih]
    · have e1 : S.filter (fun y => decide (y.key < f)) = [] := List.filter_eq_nil_iff.2 fun y hy => by have := h1 y hy; simp; omega
      have b : f ≤ x.key := by omega
      by_cases c : x.key < t
      · have c' : ¬ t ≤ x.key := by omega
        simp only [a, b, c, c', decide_true, decide_false, if_true, Bool.and_self, Bool.false_eq_true, if_false, e1, List.nil_append, List.cons_append] at ih ⊢
        rw [ih]
      · have c' : t ≤ x.key := by omega
        have e2 : S.filter (fun y => decide (f ≤ y.key) && decide (y.key < t)) = [] := List.filter_eq_nil_iff.2 fun y hy => by have := h1 y hy; simp; omega
        simp only [a, b, c, c', decide_true, decide_false, if_true, Bool.and_false, Bool.false_eq_true, if_false, e1, e2, List.nil_append] at ih ⊢
        rw [ih]
theorem part3' {f t : Int} (hft : f ≤ t) {S : List EL} (hs : SrtE S) : S.filter (fun x => decide (x.key ≤ f)) ++ S.filter (fun x => decide (x.key ≤ t) && decide (f < x.key)) ++ S.filter (fun x => decide (t < x.key)) = S := by
  have h := part3 (f := f + 1) (t := t + 1) (by omega) hs
  rw [show (fun x : EL => decide (x.key < f + 1)) = (fun x => decide (x.key ≤ f)) from funext fun x => decide_eq_decide.2 Int.lt_add_one_iff,
    show (fun x : EL => decide (f + 1 ≤ x.key) && decide (x.key < t + 1)) = (fun x => decide (x.key ≤ t) && decide (f < x.key)) from funext fun x => by rw [Bool.and_comm]; congr 1; exact decide_eq_decide.2 Int.lt_add_one_iff,
    show (fun x : EL => decide (t + 1 ≤ x.key)) = (fun x => decide (t < x.key)) from funext fun x => decide_eq_decide.2 Iff.rfl] at h
  exact h
theorem law_rng {S : List EL} {f t m : Int} (hs : SrtE S) (hft : f ≤ t) (hm : 1 ≤ m) :
    bList (rO 12 0 f 0) S ++ bList (rO 11 f t 0) S ++ bList (rO 13 t 0 0) S = bList (rO 10 0 0 0) S ∧ bList (rO 17 0 t 0) S ++ bList (rO 15 t f 0) S ++ bList (rO 16 f 0 0) S = bList (rO 14 0 0 0) S ∧
    bList (rO 11 f t m) S = (bList (rO 11 f t 0) S).take m.toNat ∧ bList (rO 15 t f m) S = (bList (rO 15 t f 0) S).take m.toNat ∧
    (∀ y ∈ bList (rO 11 f t 0) S, f ≤ y.key ∧ y.key < t) ∧ (∀ y ∈ bList (rO 15 t f 0) S, f < y.key ∧ y.key ≤ t) := by
  have c0 : ∀ l, cutM 0 l = l := fun l => rfl
  have cm : ∀ l, cutM m l = l.take m.toNat := fun l => by unfold cutM; rw [if_neg (by omega)]
  refine ⟨?_, ?_, ?_, ?_, ?_, ?_⟩
  · simp [bList, rO, c0]
    have h := part3 hft hs
    rw [List.append_assoc] at h
    exact h
  · simp [bList, rO, c0]
    have h := congrArg List.reverse (part3' hft hs)
    rw [List.reverse_append, List.reverse_append] at h
    exact h
  · simp [bList, rO, c0, cm]
    rfl
  · simp [bList, rO, c0, cm]
    rfl
  · intro y hy
    simp [bList, rO, c0] at hy
    exact ⟨of_decide_eq_true hy.2.1, of_decide_eq_true hy.2.2⟩
  · intro y hy
    simp [bList, rO, c0] at hy
    exact ⟨of_decide_eq_true hy.2.2, of_decide_eq_true hy.2.1⟩


set_option maxHeartbeats 1600000 in
theorem lwLive (R : HP) :
    Tri Try.prog 6 #[] R [] (fun v__ post__ => v__ = (vB true) ∧ post__ = []) := by
 refine Tri.into (n := 25) (al := []) func6 rfl ntmps6 rfl rfl fun w F H => ?_
 refine cR fun _ hK1_ => ?_
 refine sv (v := (vB false)) (x_assign rfl) ?_
 refine wn (hK1_ _ _ ?_)
 refine cR fun _ hK2_ => ?_
 refine sv (v := (vA #[(vI .i64 4), (vI .i64 7)])) (by kernel_rfl) ?_
 refine sv (v := (vA #[(vI .i64 1), (vI .i64 0), (vI .i64 4), (vI .i64 7), (vI .i64 0), (vI .i64 0), (vI .i64 0), (vB false)])) (by kernel_rfl) ?_
 refine sv (v := (vA #[(vI .i64 4), (vI .i64 0)])) (by kernel_rfl) ?_
 refine sv (v := (vA #[(vI .i64 3), (vI .i64 0), (vI .i64 4), (vI .i64 0), (vI .i64 0), (vI .i64 0), (vI .i64 0), (vB false)])) (by kernel_rfl) ?_
 refine S_list (T_new (obj := .cells #[(vI .i64 1), (vI .i64 0), (vI .i64 4), (vI .i64 7), (vI .i64 0), (vI .i64 0), (vI .i64 0), (vB false), (vI .i64 3), (vI .i64 0), (vI .i64 4), (vI .i64 0), (vI .i64 0), (vI .i64 0), (vI .i64 0), (vB false)] 30) (f := fun b__ => .slice (some ⟨b__, 0, none⟩) 2 2) (A := fun b__ => cl b__ 30 [(vI .i64 1), (vI .i64 0), (vI .i64 4), (vI .i64 7), (vI .i64 0), (vI .i64 0), (vI .i64 0), (vB false), (vI .i64 3), (vI .i64 0), (vI .i64 4), (vI .i64 0), (vI .i64 0), (vI .i64 0), (vI .i64 0), (vB false)]) (by kernel_rfl) (fun l h => h.alloc _ _) H ?_)
 intro b3_ w4_ S6_ H5_
 have S7_ := Same.trans (Same.refl w) S6_
 have H8_ := ((Holds.bring H5_ 1 rfl) :)
 obtain ⟨R9_, hs10_, ⟨R11_, ha12_, hs13_⟩, H14_⟩ := Holds.gift H8_
 have hr15_ : RS R9_ 8 (vS (some ⟨b3_, 0, none⟩) 2 2) 2 (([⟨1, 0, 4, 7, 0, 0, 0, false⟩, ⟨3, 0, 4, 0, 0, 0, 0, false⟩] : List BO).flatMap BO.cells) := (RS.set_ (cl_RSn (sz := 8) ha12_ (Sub.rfl' _) (by rfl) (by omega)) rfl rfl).mono hs13_
 refine S_list (T_callG (al := [(vI .i64 2), ((vS (some ⟨b3_, 0, none⟩) 2 2))]) (pre := []) rfl (lcons rfl (lcons (rfl : (vS (some ⟨b3_, 0, none⟩) 2 2) = ((vS (some ⟨b3_, 0, none⟩) 2 2))) rfl)) cb9 (btBTree R9_ 2 (vS (some ⟨b3_, 0, none⟩) 2 2) ([⟨1, 0, 4, 7, 0, 0, 0, false⟩, ⟨3, 0, 4, 0, 0, 0, 0, false⟩] : List BO) (RS.set_ hr15_ rfl (by first | rfl | omega | (simp; done) | (simp; omega))) (by intro o ho; simp at ho; rcases ho with rfl | rfl <;> decide) (by decide)) H14_ ?_)
 rintro R17_ v18_ p24_ w21_ hs16_ ⟨_, A19_, rfl, rfl, he20_⟩ S23_ H22_
 have S25_ := Same.trans S7_ S23_
 have hz_R_R17_ := Sub.trans' hs10_ hs16_
 obtain ⟨R26_, hs27_, ⟨R28_, ha29_, hs30_⟩, H31_⟩ := Holds.gift H22_
 have hz_R_R26_ := Sub.trans' hz_R_R17_ hs27_
 have hz_R9__R26_ := Sub.trans' hs16_ hs27_
 have hr32_ : RS R26_ 6 v18_ (List.length A19_) (A19_.flatMap BA.cells) := (sl_RS ha29_ (Sub.rfl' _)).mono hs30_
 have hrl_ : List.length A19_ = 2 := he20_.1
 refine sv (v := v18_) (x_assign rfl) ?_
 refine wn (hK2_ _ _ ?_)
 refine cR fun _ hK33_ => ?_
 refine sv (v := v18_) (x_move rfl) ?_
 refine sv (v := (vI .i64 ((List.length A19_) : Int))) (x_lenRS rfl hr32_ underlying26) ?_
 refine sv (v := (vB (decide (((List.length A19_) : Int) = 2)))) (x_bin rfl rfl rfl) ?_
 refine sv (v := (vB (decide (((List.length A19_) : Int) = 2)))) (x_move rfl) ?_
 rcases Bool.eq_false_or_eq_true (decide (((List.length A19_) : Int) = 2)) with c34_t | c34_f
 ·have c34_tp : ((List.length A19_) : Int) = 2 := of_decide_eq_true c34_t
  refine S_yes (j := 3) (dj := 11) (b := true) rfl rfl (congrArg vB c34_t) (T_val (v := v18_) (x_move rfl) ?_)
  obtain ⟨x35_, hx36_, hm37_⟩ := elem_at A19_ 1 (by omega)
  obtain ⟨hv1_, hv2_, hv3_⟩ := law_live he20_ hx36_
  refine S_yes (j := 3) (dj := 11) (b := true) rfl rfl (congrArg vB c34_t) (T_val (v := (vP (some ⟨(sb v18_), so v18_ + (6 + 0), none⟩))) (x_idxRS (v := v18_) rfl hr32_ rfl underlying26 z32 (by omega) (by omega) (by omega : _ = 1) rfl) ?_)
  refine S_yes (j := 3) (dj := 11) (b := true) rfl rfl (congrArg vB c34_t) (T_val (v := (vP (some ⟨(sb v18_), so v18_ + (6 + 1), none⟩))) (by kernel_rfl) ?_)
  refine S_yes (j := 3) (dj := 11) (b := true) rfl rfl (congrArg vB c34_t) (T_val (v := (vB x35_.oK)) (x_load1 rfl underlying4 rfl (RC.cell (RS.rc hr32_) (Holds.ro_at H31_ 0 rfl) (j := 6 + 1) (u := (vB x35_.oK)) (fm_cell BA.len hx36_ (i := 1) rfl))) ?_)
  refine S_list (T_pickT (v := (vB x35_.oK)) (congrArg vB c34_t) rfl ?_)
  refine sm (vB x35_.oK) ?_
  rcases Bool.eq_false_or_eq_true (x35_.oK) with c38_t | c38_f
  ·skip
   refine S_yes (j := 9) (dj := 17) (b := true) rfl rfl (congrArg vB c38_t) (T_val (v := v18_) (x_move rfl) ?_)
   refine S_yes (j := 9) (dj := 17) (b := true) rfl rfl (congrArg vB c38_t) (T_val (v := (vP (some ⟨(sb v18_), so v18_ + (6 + 0), none⟩))) (x_idxRS (v := v18_) rfl hr32_ rfl underlying26 z32 (by omega) (by omega) (by omega : _ = 1) rfl) ?_)
   refine S_yes (j := 9) (dj := 17) (b := true) rfl rfl (congrArg vB c38_t) (T_val (v := (vP (some ⟨(sb v18_), so v18_ + (6 + 3), none⟩))) (by kernel_rfl) ?_)
   refine S_yes (j := 9) (dj := 17) (b := true) rfl rfl (congrArg vB c38_t) (T_val (v := (vA #[(vI .i64 x35_.el_Key), (vI .i64 x35_.el_Val)])) (x_loadN (vs := [(vI .i64 x35_.el_Key), (vI .i64 x35_.el_Val)]) rfl underlying24 rfl z24 rfl (RC.cells (RS.rc hr32_) (Holds.ro_at H31_ 0 rfl) (6 + 3) (fm_cells BA.len hx36_ (i := 3) rfl))) ?_)
   refine S_yes (j := 9) (dj := 17) (b := true) rfl rfl (congrArg vB c38_t) (T_val (v := (vA #[(vI .i64 4), (vI .i64 7)])) (by kernel_rfl) ?_)
   refine S_yes (j := 9) (dj := 17) (b := true) rfl rfl (congrArg vB c38_t) (T_val (v := (vB ((decide (x35_.el_Key = 4)) && ((decide (x35_.el_Val = 7)) && (true))))) (x_eqS rfl rfl (by kernel_rfl) (eq_struct underlying24 (by kernel_rfl) (eqf_cons rfl (run_part1 underlying3 rfl rfl) (run_part1 underlying3 rfl rfl) (eq_int underlying3) (eqf_cons rfl (run_part1 underlying3 rfl rfl) (run_part1 underlying3 rfl rfl) (eq_int underlying3) (eqf_nil))))) ?_)
   refine S_list (T_pickT (v := (vB ((decide (x35_.el_Key = 4)) && ((decide (x35_.el_Val = 7)) && (true))))) (congrArg vB c38_t) rfl ?_)
   refine sv (v := (vB ((decide (x35_.el_Key = 4)) && ((decide (x35_.el_Val = 7)) && (true))))) (x_assign rfl) ?_
   refine wn (hK33_ _ _ ?_)
   refine C_ret ?_
   refine R_any (v := (vB ((decide (x35_.el_Key = 4)) && ((decide (x35_.el_Val = 7)) && (true))))) (run_results1 rfl rfl) ?_
   have H39_ : Holds w21_ (ro R :: F) := Holds.ro_less H31_ hz_R_R26_
   exact ⟨_, _, rfl, ⟨(congrArg vB ((by simp [hv2_, hv3_]) : ((decide (x35_.el_Key = 4)) && ((decide (x35_.el_Val = 7)) && (true))) = true)), rfl⟩, S25_, H39_⟩
  ·skip
   rw [hv1_] at c38_f; cases c38_f
 ·have c34_fp : ¬ (((List.length A19_) : Int) = 2) := of_decide_eq_false c34_f
  omega
end Go.Proofs.Ytdfjdmmmlidamaa
set_option linter.unusedVariables false
set_option linter.unusedSimpArgs false
namespace Go.Proofs.Ytdfjdmmmlidamaa
open Go Go.RowKit Gw Try
open Go.Value renaming int → vI, bool → vB, slice → vS, pointer → vP, agg → vA, tuple → vT

set_option maxHeartbeats 16000000 in
theorem fnBTreeRanges (R : HP) (dg : Int) (lv : Value) (l : List EL) (fr tl mo : Int) (hl : RS R 2 lv (List.length l) (l.flatMap EL.cells)) :
    Tri Try.prog 5 #[(vI .i64 dg), lv, (vI .i64 fr), (vI .i64 tl), (vI .i64 mo)] R [] (fun v__ post__ => v__ = (vB true) ∧ post__ = []) := by
 refine Tri.into (n := 189) (al := [(vI .i64 dg), lv, (vI .i64 fr), (vI .i64 tl), (vI .i64 mo)]) func5 rfl ntmps5 rfl rfl fun w F H => ?_
 refine cR fun _ hK1_ => ?_
 refine S_list (T_box (v := (vI .i64 mo)) rfl H ?_)
 intro b2_ w3_ S5_ H4_
 have S6_ := Same.trans (Same.refl w) S5_
 refine sv (v := (vB false)) (x_assign rfl) ?_
 refine wn (hK1_ _ _ ?_)
 refine C_seq (fun _ hK7_ => ?_)
 refine cR fun _ hK8_ => ?_
 refine sv (v := lv) (x_move rfl) ?_
 refine sv (v := (vI .i64 ((List.length l) : Int))) (x_lenRS rfl hl underlying22) ?_
 refine sv (v := (vB (decide (2147483647 < ((List.length l) : Int))))) (x_bin rfl rfl rfl) ?_
 refine wn (hK8_ _ _ ?_)
 refine C_cond (b := decide (2147483647 < ((List.length l) : Int))) rfl (fun c9_t => ?_) (fun c9_f => ?_)
 ·have c9_tp : 2147483647 < ((List.length l) : Int) := of_decide_eq_true c9_t
  refine cR fun _ hK10_ => ?_
  refine sv (v := (vB true)) (x_assign rfl) ?_
  refine wn (hK10_ _ _ ?_)
  refine C_ret (X_thenR ?_)
  refine R_any (v := (vB true)) (run_results1 rfl rfl) ?_
  have H11_ := Holds.pkF H4_ [1] 1
  exact ⟨_, _, rfl, ⟨rfl, rfl⟩, S6_, H11_⟩
 ·have c9_fp : ¬ (2147483647 < ((List.length l) : Int)) := of_decide_eq_false c9_f
  refine C_skip (X_then (hK7_ _ _ ?_))
  refine C_seq (fun _ hK12_ => ?_)
  refine cR fun _ hK13_ => ?_
  refine sm (vI .i64 dg) ?_
  refine sv (v := (vB (decide (dg < 2)))) (x_bin rfl rfl rfl) ?_
  refine sm (vB (decide (dg < 2))) ?_
  rcases Bool.eq_false_or_eq_true (decide (dg < 2)) with c14_t | c14_f
  ·have c14_tp : dg < 2 := of_decide_eq_true c14_t
   refine S_no (j := 2) (dj := 25) (b := true) rfl rfl (congrArg vB c14_t) (by decide) ?_
   refine S_no (j := 2) (dj := 25) (b := true) rfl rfl (congrArg vB c14_t) (by decide) ?_
   refine S_list (T_pickT (v := (vB true)) (congrArg vB c14_t) rfl ?_)
   refine sm (vB true) ?_
   refine S_no (j := 6) (dj := 29) (b := true) rfl rfl rfl (by decide) ?_
   refine S_no (j := 6) (dj := 29) (b := true) rfl rfl rfl (by decide) ?_
   refine S_no (j := 6) (dj := 29) (b := true) rfl rfl rfl (by decide) ?_
   refine S_list (T_pickT (v := (vB true)) rfl rfl ?_)
   refine sm (vB true) ?_
   refine S_no (j := 11) (dj := 34) (b := true) rfl rfl rfl (by decide) ?_
   refine S_no (j := 11) (dj := 34) (b := true) rfl rfl rfl (by decide) ?_
   refine S_no (j := 11) (dj := 34) (b := true) rfl rfl rfl (by decide) ?_
   refine S_list (T_pickT (v := (vB true)) rfl rfl ?_)
   refine sm (vB true) ?_
   refine S_no (j := 16) (dj := 39) (b := true) rfl rfl rfl (by decide) ?_
   refine S_no (j := 16) (dj := 39) (b := true) rfl rfl rfl (by decide) ?_
   refine S_list (T_pickT (v := (vB true)) rfl rfl ?_)
   refine wn (hK13_ _ _ ?_)
   refine C_condT rfl ?_
   refine cR fun _ hK15_ => ?_
   have H17_ := ((Holds.bring H4_ 1 rfl) :)
   refine S_list (T_call (al := []) (pre := []) rfl rfl cb6 (lwLive R) H17_ ?_)
   rintro v16_ p21_ w18_ ⟨rfl, rfl⟩ S20_ H19_
   have S22_ := Same.trans S6_ S20_
   refine sv (v := (vB true)) (x_assign rfl) ?_
   refine wn (hK15_ _ _ ?_)
   refine C_ret (X_thenR ?_)
   refine R_any (v := (vB true)) (run_results1 rfl rfl) ?_
   have H23_ := Holds.pkF H19_ [0] 1
   exact ⟨_, _, rfl, ⟨rfl, rfl⟩, S22_, H23_⟩
  ·have c14_fp : ¬ (dg < 2) := of_decide_eq_false c14_f
   refine S_yes (j := 2) (dj := 25) (b := false) rfl rfl (congrArg vB c14_f) (T_val (v := (vI .i64 dg)) (x_move rfl) ?_)
   refine S_yes (j := 2) (dj := 25) (b := false) rfl rfl (congrArg vB c14_f) (T_val (v := (vB (decide (64 < dg)))) (x_bin rfl rfl rfl) ?_)
   refine S_list (T_pickF (v := (vB (decide (64 < dg)))) (congrArg vB c14_f) rfl ?_)
   refine sm (vB (decide (64 < dg))) ?_
   rcases Bool.eq_false_or_eq_true (decide (64 < dg)) with c24_t | c24_f
   ·have c24_tp : 64 < dg := of_decide_eq_true c24_t
    refine S_no (j := 6) (dj := 29) (b := true) rfl rfl (congrArg vB c24_t) (by decide) ?_
    refine S_no (j := 6) (dj := 29) (b := true) rfl rfl (congrArg vB c24_t) (by decide) ?_
    refine S_no (j := 6) (dj := 29) (b := true) rfl rfl (congrArg vB c24_t) (by decide) ?_
    refine S_list (T_pickT (v := (vB true)) (congrArg vB c24_t) rfl ?_)
    refine sm (vB true) ?_
    refine S_no (j := 11) (dj := 34) (b := true) rfl rfl rfl (by decide) ?_
    refine S_no (j := 11) (dj := 34) (b := true) rfl rfl rfl (by decide) ?_
    refine S_no (j := 11) (dj := 34) (b := true) rfl rfl rfl (by decide) ?_
    refine S_list (T_pickT (v := (vB true)) rfl rfl ?_)
    refine sm (vB true) ?_
    refine S_no (j := 16) (dj := 39) (b := true) rfl rfl rfl (by decide) ?_
    refine S_no (j := 16) (dj := 39) (b := true) rfl rfl rfl (by decide) ?_
    refine S_list (T_pickT (v := (vB true)) rfl rfl ?_)
    refine wn (hK13_ _ _ ?_)
    refine C_condT rfl ?_
    refine cR fun _ hK25_ => ?_
    have H27_ := ((Holds.bring H4_ 1 rfl) :)
    refine S_list (T_call (al := []) (pre := []) rfl rfl cb6 (lwLive R) H27_ ?_)
    rintro v26_ p31_ w28_ ⟨rfl, rfl⟩ S30_ H29_
    have S32_ := Same.trans S6_ S30_
    refine sv (v := (vB true)) (x_assign rfl) ?_
    refine wn (hK25_ _ _ ?_)
    refine C_ret (X_thenR ?_)
    refine R_any (v := (vB true)) (run_results1 rfl rfl) ?_
    have H33_ := Holds.pkF H29_ [0] 1
    exact ⟨_, _, rfl, ⟨rfl, rfl⟩, S32_, H33_⟩
   ·have c24_fp : ¬ (64 < dg) := of_decide_eq_false c24_f
    refine S_yes (j := 6) (dj := 29) (b := false) rfl rfl (congrArg vB c24_f) (T_val (v := lv) (x_move rfl) ?_)
    refine S_yes (j := 6) (dj := 29) (b := false) rfl rfl (congrArg vB c24_f) (T_val (v := (vI .i64 ((List.length l) : Int))) (x_lenRS rfl hl underlying22) ?_)
    refine S_yes (j := 6) (dj := 29) (b := false) rfl rfl (congrArg vB c24_f) (T_val (v := (vB (decide (600 < ((List.length l) : Int))))) (x_bin rfl rfl rfl) ?_)
    refine S_list (T_pickF (v := (vB (decide (600 < ((List.length l) : Int))))) (congrArg vB c24_f) rfl ?_)
    refine sv (v := (vB (decide (600 < ((List.length l) : Int))))) (x_move rfl) ?_
    rcases Bool.eq_false_or_eq_true (decide (600 < ((List.length l) : Int))) with c34_t | c34_f
    ·have c34_tp : 600 < ((List.length l) : Int) := of_decide_eq_true c34_t
     refine S_no (j := 11) (dj := 34) (b := true) rfl rfl (congrArg vB c34_t) (by decide) ?_
     refine S_no (j := 11) (dj := 34) (b := true) rfl rfl (congrArg vB c34_t) (by decide) ?_
     refine S_no (j := 11) (dj := 34) (b := true) rfl rfl (congrArg vB c34_t) (by decide) ?_
     refine S_list (T_pickT (v := (vB true)) (congrArg vB c34_t) rfl ?_)
     refine sm (vB true) ?_
     refine S_no (j := 16) (dj := 39) (b := true) rfl rfl rfl (by decide) ?_
     refine S_no (j := 16) (dj := 39) (b := true) rfl rfl rfl (by decide) ?_
     refine S_list (T_pickT (v := (vB true)) rfl rfl ?_)
     refine wn (hK13_ _ _ ?_)
     refine C_condT rfl ?_
     refine cR fun _ hK35_ => ?_
     have H37_ := ((Holds.bring H4_ 1 rfl) :)
     refine S_list (T_call (al := []) (pre := []) rfl rfl cb6 (lwLive R) H37_ ?_)
     rintro v36_ p41_ w38_ ⟨rfl, rfl⟩ S40_ H39_
     have S42_ := Same.trans S6_ S40_
     refine sv (v := (vB true)) (x_assign rfl) ?_
     refine wn (hK35_ _ _ ?_)
     refine C_ret (X_thenR ?_)
     refine R_any (v := (vB true)) (run_results1 rfl rfl) ?_
     have H43_ := Holds.pkF H39_ [0] 1
     exact ⟨_, _, rfl, ⟨rfl, rfl⟩, S42_, H43_⟩
    ·have c34_fp : ¬ (600 < ((List.length l) : Int)) := of_decide_eq_false c34_f
     refine S_yes (j := 11) (dj := 34) (b := false) rfl rfl (congrArg vB c34_f) (T_val (v := (vI .i64 fr)) (x_move rfl) ?_)
     refine S_yes (j := 11) (dj := 34) (b := false) rfl rfl (congrArg vB c34_f) (T_val (v := (vI .i64 tl)) (x_move rfl) ?_)
     refine S_yes (j := 11) (dj := 34) (b := false) rfl rfl (congrArg vB c34_f) (T_val (v := (vB (decide (tl < fr)))) (x_bin rfl rfl rfl) ?_)
     refine S_list (T_pickF (v := (vB (decide (tl < fr)))) (congrArg vB c34_f) rfl ?_)
     refine sm (vB (decide (tl < fr))) ?_
     rcases Bool.eq_false_or_eq_true (decide (tl < fr)) with c44_t | c44_f
     ·have c44_tp : tl < fr := of_decide_eq_true c44_t
      refine S_no (j := 16) (dj := 39) (b := true) rfl rfl (congrArg vB c44_t) (by decide) ?_
      refine S_no (j := 16) (dj := 39) (b := true) rfl rfl (congrArg vB c44_t) (by decide) ?_
      refine S_list (T_pickT (v := (vB true)) (congrArg vB c44_t) rfl ?_)
      refine wn (hK13_ _ _ ?_)
      refine C_condT rfl ?_
      refine cR fun _ hK45_ => ?_
      have H47_ := ((Holds.bring H4_ 1 rfl) :)
      refine S_list (T_call (al := []) (pre := []) rfl rfl cb6 (lwLive R) H47_ ?_)
      rintro v46_ p51_ w48_ ⟨rfl, rfl⟩ S50_ H49_
      have S52_ := Same.trans S6_ S50_
      refine sv (v := (vB true)) (x_assign rfl) ?_
      refine wn (hK45_ _ _ ?_)
      refine C_ret (X_thenR ?_)
      refine R_any (v := (vB true)) (run_results1 rfl rfl) ?_
      have H53_ := Holds.pkF H49_ [0] 1
      exact ⟨_, _, rfl, ⟨rfl, rfl⟩, S52_, H53_⟩
     ·have c44_fp : ¬ (tl < fr) := of_decide_eq_false c44_f
      refine S_yes (j := 16) (dj := 39) (b := false) rfl rfl (congrArg vB c44_f) (T_val (v := (vI .i64 mo)) (x_load1 rfl underlying3 rfl ((Holds.rd H4_ 0 rfl) 0 (vI .i64 mo) rfl)) ?_)
      refine S_yes (j := 16) (dj := 39) (b := false) rfl rfl (congrArg vB c44_f) (T_val (v := (vB (decide (mo < 1)))) (x_bin rfl rfl rfl) ?_)
      refine S_list (T_pickF (v := (vB (decide (mo < 1)))) (congrArg vB c44_f) rfl ?_)
      refine wn (hK13_ _ _ ?_)
      refine C_cond (b := decide (mo < 1)) rfl (fun c54_t => ?_) (fun c54_f => ?_)
      ·have c54_tp : mo < 1 := of_decide_eq_true c54_t
       refine cR fun _ hK55_ => ?_
       have H57_ := ((Holds.bring H4_ 1 rfl) :)
       refine S_list (T_call (al := []) (pre := []) rfl rfl cb6 (lwLive R) H57_ ?_)
       rintro v56_ p61_ w58_ ⟨rfl, rfl⟩ S60_ H59_
       have S62_ := Same.trans S6_ S60_
       refine sv (v := (vB true)) (x_assign rfl) ?_
       refine wn (hK55_ _ _ ?_)
       refine C_ret (X_thenR ?_)
       refine R_any (v := (vB true)) (run_results1 rfl rfl) ?_
       have H63_ := Holds.pkF H59_ [0] 1
       exact ⟨_, _, rfl, ⟨rfl, rfl⟩, S62_, H63_⟩
      ·have c54_fp : ¬ (mo < 1) := of_decide_eq_false c54_f
       refine C_skip (X_then (hK12_ _ _ ?_))
       refine cR fun _ hK64_ => ?_
       refine sm (vI .i64 dg) ?_
       refine sv (v := lv) (x_move rfl) ?_
       refine sv (v := (vA #[(vI .i64 10), (vI .i64 0), (vI .i64 0), (vI .i64 0), (vI .i64 0), (vI .i64 0), (vI .i64 0), (vB false)])) (by kernel_rfl) ?_
       refine sm (vI .i64 fr) ?_
       refine sv (v := (vA #[(vI .i64 12), (vI .i64 0), (vI .i64 0), (vI .i64 0), (vI .i64 0), (vI .i64 fr), (vI .i64 0), (vB false)])) (by kernel_rfl) ?_
       refine sm (vI .i64 fr) ?_
       refine sm (vI .i64 tl) ?_
       refine sv (v := (vA #[(vI .i64 11), (vI .i64 0), (vI .i64 0), (vI .i64 0), (vI .i64 fr), (vI .i64 tl), (vI .i64 0), (vB false)])) (by kernel_rfl) ?_
       refine sm (vI .i64 tl) ?_
       refine sv (v := (vA #[(vI .i64 13), (vI .i64 0), (vI .i64 0), (vI .i64 0), (vI .i64 tl), (vI .i64 0), (vI .i64 0), (vB false)])) (by kernel_rfl) ?_
       refine sm (vI .i64 fr) ?_
       refine sm (vI .i64 tl) ?_
       refine sv (v := (vI .i64 mo)) (x_load1 rfl underlying3 rfl ((Holds.rd H4_ 0 rfl) 0 (vI .i64 mo) rfl)) ?_
       refine sv (v := (vA #[(vI .i64 11), (vI .i64 0), (vI .i64 0), (vI .i64 0), (vI .i64 fr), (vI .i64 tl), (vI .i64 mo), (vB false)])) (by kernel_rfl) ?_
       refine sv (v := (vA #[(vI .i64 14), (vI .i64 0), (vI .i64 0), (vI .i64 0), (vI .i64 0), (vI .i64 0), (vI .i64 0), (vB false)])) (by kernel_rfl) ?_
       refine sm (vI .i64 tl) ?_
       refine sv (v := (vA #[(vI .i64 17), (vI .i64 0), (vI .i64 0), (vI .i64 0), (vI .i64 0), (vI .i64 tl), (vI .i64 0), (vB false)])) (by kernel_rfl) ?_
       refine sm (vI .i64 tl) ?_
       refine sm (vI .i64 fr) ?_
       refine sv (v := (vA #[(vI .i64 15), (vI .i64 0), (vI .i64 0), (vI .i64 0), (vI .i64 tl), (vI .i64 fr), (vI .i64 0), (vB false)])) (by kernel_rfl) ?_
       refine sm (vI .i64 fr) ?_
       refine sv (v := (vA #[(vI .i64 16), (vI .i64 0), (vI .i64 0), (vI .i64 0), (vI .i64 fr), (vI .i64 0), (vI .i64 0), (vB false)])) (by kernel_rfl) ?_
       refine sm (vI .i64 tl) ?_
       refine sm (vI .i64 fr) ?_
       refine sv (v := (vI .i64 mo)) (x_load1 rfl underlying3 rfl ((Holds.rd H4_ 0 rfl) 0 (vI .i64 mo) rfl)) ?_
       refine sv (v := (vA #[(vI .i64 15), (vI .i64 0), (vI .i64 0), (vI .i64 0), (vI .i64 tl), (vI .i64 fr), (vI .i64 mo), (vB false)])) (by kernel_rfl) ?_
       refine S_list (T_new (obj := .cells #[(vI .i64 10), (vI .i64 0), (vI .i64 0), (vI .i64 0), (vI .i64 0), (vI .i64 0), (vI .i64 0), (vB false), (vI .i64 12), (vI .i64 0), (vI .i64 0), (vI .i64 0), (vI .i64 0), (vI .i64 fr), (vI .i64 0), (vB false), (vI .i64 11), (vI .i64 0), (vI .i64 0), (vI .i64 0), (vI .i64 fr), (vI .i64 tl), (vI .i64 0), (vB false), (vI .i64 13), (vI .i64 0), (vI .i64 0), (vI .i64 0), (vI .i64 tl), (vI .i64 0), (vI .i64 0), (vB false), (vI .i64 11), (vI .i64 0), (vI .i64 0), (vI .i64 0), (vI .i64 fr), (vI .i64 tl), (vI .i64 mo), (vB false), (vI .i64 14), (vI .i64 0), (vI .i64 0), (vI .i64 0), (vI .i64 0), (vI .i64 0), (vI .i64 0), (vB false), (vI .i64 17), (vI .i64 0), (vI .i64 0), (vI .i64 0), (vI .i64 0), (vI .i64 tl), (vI .i64 0), (vB false), (vI .i64 15), (vI .i64 0), (vI .i64 0), (vI .i64 0), (vI .i64 tl), (vI .i64 fr), (vI .i64 0), (vB false), (vI .i64 16), (vI .i64 0), (vI .i64 0), (vI .i64 0), (vI .i64 fr), (vI .i64 0), (vI .i64 0), (vB false), (vI .i64 15), (vI .i64 0), (vI .i64 0), (vI .i64 0), (vI .i64 tl), (vI .i64 fr), (vI .i64 mo), (vB false)] 30) (f := fun b__ => .slice (some ⟨b__, 0, none⟩) 10 10) (A := fun b__ => cl b__ 30 [(vI .i64 10), (vI .i64 0), (vI .i64 0), (vI .i64 0), (vI .i64 0), (vI .i64 0), (vI .i64 0), (vB false), (vI .i64 12), (vI .i64 0), (vI .i64 0), (vI .i64 0), (vI .i64 0), (vI .i64 fr), (vI .i64 0), (vB false), (vI .i64 11), (vI .i64 0), (vI .i64 0), (vI .i64 0), (vI .i64 fr), (vI .i64 tl), (vI .i64 0), (vB false), (vI .i64 13), (vI .i64 0), (vI .i64 0), (vI .i64 0), (vI .i64 tl), (vI .i64 0), (vI .i64 0), (vB false), (vI .i64 11), (vI .i64 0), (vI .i64 0), (vI .i64 0), (vI .i64 fr), (vI .i64 tl), (vI .i64 mo), (vB false), (vI .i64 14), (vI .i64 0), (vI .i64 0), (vI .i64 0), (vI .i64 0), (vI .i64 0), (vI .i64 0), (vB false), (vI .i64 17), (vI .i64 0), (vI .i64 0), (vI .i64 0), (vI .i64 0), (vI .i64 tl), (vI .i64 0), (vB false), (vI .i64 15), (vI .i64 0), (vI .i64 0), (vI .i64 0), (vI .i64 tl), (vI .i64 fr), (vI .i64 0), (vB false), (vI .i64 16), (vI .i64 0), (vI .i64 0), (vI .i64 0), (vI .i64 fr), (vI .i64 0), (vI .i64 0), (vB false), (vI .i64 15), (vI .i64 0), (vI .i64 0), (vI .i64 0), (vI .i64 tl), (vI .i64 fr), (vI .i64 mo), (vB false)]) (by kernel_rfl) (fun l h => h.alloc _ _) H4_ ?_)
       intro b65_ w66_ S68_ H67_
       have S69_ := Same.trans S6_ S68_
       have H70_ := ((Holds.bring H67_ 2 rfl) :)
       obtain ⟨R71_, hs72_, ⟨R73_, ha74_, hs75_⟩, H76_⟩ := Holds.gift H70_
       have hr77_ : RS R71_ 8 (vS (some ⟨b65_, 0, none⟩) 10 10) 10 (([(rO 10 0 0 0), (rO 12 0 fr 0), (rO 11 fr tl 0), (rO 13 tl 0 0), (rO 11 fr tl mo), (rO 14 0 0 0), (rO 17 0 tl 0), (rO 15 tl fr 0), (rO 16 fr 0 0), (rO 15 tl fr mo)] : List BO).flatMap BO.cells) := (RS.set_ (cl_RSn (sz := 8) ha74_ (Sub.rfl' _) (by rfl) (by omega)) rfl rfl).mono hs75_
       refine S_list (T_callG (al := [(vI .i64 dg), lv, ((vS (some ⟨b65_, 0, none⟩) 10 10))]) (pre := []) rfl (lcons rfl (lcons rfl (lcons (rfl : (vS (some ⟨b65_, 0, none⟩) 10 10) = ((vS (some ⟨b65_, 0, none⟩) 10 10))) rfl))) cb7 (btTail R71_ dg lv (vS (some ⟨b65_, 0, none⟩) 10 10) l ([(rO 10 0 0 0), (rO 12 0 fr 0), (rO 11 fr tl 0), (rO 13 tl 0 0), (rO 11 fr tl mo), (rO 14 0 0 0), (rO 17 0 tl 0), (rO 15 tl fr 0), (rO 16 fr 0 0), (rO 15 tl fr mo)] : List BO) (RS.mono hl hs72_) (RS.set_ hr77_ rfl (by first | rfl | omega | (simp; done) | (simp; omega))) (by omega) (by simp) (by intro o ho; simp only [List.mem_cons, List.not_mem_nil, or_false] at ho; rcases ho with rfl | rfl | rfl | rfl | rfl | rfl | rfl | rfl | rfl | rfl <;> simp [rO])) H76_ ?_)
       rintro R79_ v80_ p88_ w85_ hs78_ ⟨v81_, A82_, rfl, rfl, he83_, he84_⟩ S87_ H86_
       have S89_ := Same.trans S69_ S87_
       have hz_R_R79_ := Sub.trans' hs72_ hs78_
       have hrl_ := he83_.1
       simp only [List.length_append, List.length_map, List.length_cons, List.length_nil] at hrl_
       have hdl_ : List.length (List.drop (List.length l) A82_) = 10 := by rw [List.length_drop]; omega
       have hne_ : ∀ o ∈ ([(rO 10 0 0 0), (rO 12 0 fr 0), (rO 11 fr tl 0), (rO 13 tl 0 0), (rO 11 fr tl mo), (rO 14 0 0 0), (rO 17 0 tl 0), (rO 15 tl fr 0), (rO 16 fr 0 0), (rO 15 tl fr mo)] : List BO), o.kind ≠ 1 := by intro o ho; simp only [List.mem_cons, List.not_mem_nil, or_false] at ho; rcases ho with rfl | rfl | rfl | rfl | rfl | rfl | rfl | rfl | rfl | rfl <;> simp [rO]
       have hSl_ := stB_len (l.map putO)
       rw [List.length_map] at hSl_
       obtain ⟨hU_, hD_, h4_, h9_, hm2_, hm7_⟩ := law_rng (f := fr) (t := tl) (m := mo) (stB_srt (l.map putO)) (by omega) (by omega)
       obtain ⟨a0_, ha0_, _⟩ := elem_at (List.drop (List.length l) A82_) 0 (by omega)
       have hb0_ := rng_at he83_ hne_ (i := 0) (o := (rO 10 0 0 0)) rfl ha0_
       have hn0_ := bList_len (rO 10 0 0 0) (stB (l.map putO))
       have hr0_ := hb0_.lst
       obtain ⟨a1_, ha1_, _⟩ := elem_at (List.drop (List.length l) A82_) 1 (by omega)
       have hb1_ := rng_at he83_ hne_ (i := 1) (o := (rO 12 0 fr 0)) rfl ha1_
       have hn1_ := bList_len (rO 12 0 fr 0) (stB (l.map putO))
       have hr1_ := hb1_.lst
       obtain ⟨a2_, ha2_, _⟩ := elem_at (List.drop (List.length l) A82_) 2 (by omega)
       have hb2_ := rng_at he83_ hne_ (i := 2) (o := (rO 11 fr tl 0)) rfl ha2_
       have hn2_ := bList_len (rO 11 fr tl 0) (stB (l.map putO))
       have hr2_ := hb2_.lst
       obtain ⟨a3_, ha3_, _⟩ := elem_at (List.drop (List.length l) A82_) 3 (by omega)
       have hb3_ := rng_at he83_ hne_ (i := 3) (o := (rO 13 tl 0 0)) rfl ha3_
       have hn3_ := bList_len (rO 13 tl 0 0) (stB (l.map putO))
       have hr3_ := hb3_.lst
       obtain ⟨a4_, ha4_, _⟩ := elem_at (List.drop (List.length l) A82_) 4 (by omega)
       have hb4_ := rng_at he83_ hne_ (i := 4) (o := (rO 11 fr tl mo)) rfl ha4_
       have hn4_ := bList_len (rO 11 fr tl mo) (stB (l.map putO))
       have hr4_ := hb4_.lst
       obtain ⟨a5_, ha5_, _⟩ := elem_at (List.drop (List.length l) A82_) 5 (by omega)
       have hb5_ := rng_at he83_ hne_ (i := 5) (o := (rO 14 0 0 0)) rfl ha5_
       have hn5_ := bList_len (rO 14 0 0 0) (stB (l.map putO))
       have hr5_ := hb5_.lst
       obtain ⟨a6_, ha6_, _⟩ := elem_at (List.drop (List.length l) A82_) 6 (by omega)
       have hb6_ := rng_at he83_ hne_ (i := 6) (o := (rO 17 0 tl 0)) rfl ha6_
       have hn6_ := bList_len (rO 17 0 tl 0) (stB (l.map putO))
       have hr6_ := hb6_.lst
       obtain ⟨a7_, ha7_, _⟩ := elem_at (List.drop (List.length l) A82_) 7 (by omega)
       have hb7_ := rng_at he83_ hne_ (i := 7) (o := (rO 15 tl fr 0)) rfl ha7_
       have hn7_ := bList_len (rO 15 tl fr 0) (stB (l.map putO))
       have hr7_ := hb7_.lst
       obtain ⟨a8_, ha8_, _⟩ := elem_at (List.drop (List.length l) A82_) 8 (by omega)
       have hb8_ := rng_at he83_ hne_ (i := 8) (o := (rO 16 fr 0 0)) rfl ha8_
       have hn8_ := bList_len (rO 16 fr 0 0) (stB (l.map putO))
       have hr8_ := hb8_.lst
       obtain ⟨a9_, ha9_, _⟩ := elem_at (List.drop (List.length l) A82_) 9 (by omega)
       have hb9_ := rng_at he83_ hne_ (i := 9) (o := (rO 15 tl fr mo)) rfl ha9_
       have hn9_ := bList_len (rO 15 tl fr mo) (stB (l.map putO))
       have hr9_ := hb9_.lst
       obtain ⟨L0_, hL0_⟩ : ∃ L__, L__ = bList (rO 10 0 0 0) (stB (l.map putO)) := ⟨_, rfl⟩
       obtain ⟨L1_, hL1_⟩ : ∃ L__, L__ = bList (rO 12 0 fr 0) (stB (l.map putO)) := ⟨_, rfl⟩
       obtain ⟨L2_, hL2_⟩ : ∃ L__, L__ = bList (rO 11 fr tl 0) (stB (l.map putO)) := ⟨_, rfl⟩
       obtain ⟨L3_, hL3_⟩ : ∃ L__, L__ = bList (rO 13 tl 0 0) (stB (l.map putO)) := ⟨_, rfl⟩
       obtain ⟨L4_, hL4_⟩ : ∃ L__, L__ = bList (rO 11 fr tl mo) (stB (l.map putO)) := ⟨_, rfl⟩
       obtain ⟨L5_, hL5_⟩ : ∃ L__, L__ = bList (rO 14 0 0 0) (stB (l.map putO)) := ⟨_, rfl⟩
       obtain ⟨L6_, hL6_⟩ : ∃ L__, L__ = bList (rO 17 0 tl 0) (stB (l.map putO)) := ⟨_, rfl⟩
       obtain ⟨L7_, hL7_⟩ : ∃ L__, L__ = bList (rO 15 tl fr 0) (stB (l.map putO)) := ⟨_, rfl⟩
       obtain ⟨L8_, hL8_⟩ : ∃ L__, L__ = bList (rO 16 fr 0 0) (stB (l.map putO)) := ⟨_, rfl⟩
       obtain ⟨L9_, hL9_⟩ : ∃ L__, L__ = bList (rO 15 tl fr mo) (stB (l.map putO)) := ⟨_, rfl⟩
       rw [← hL0_, ← hL1_, ← hL2_, ← hL3_] at hU_
       rw [← hL5_, ← hL6_, ← hL7_, ← hL8_] at hD_
       rw [← hL4_, ← hL2_] at h4_
       rw [← hL9_, ← hL7_] at h9_
       rw [← hL2_] at hm2_
       rw [← hL7_] at hm7_
       rw [← hL0_] at hr0_ hn0_
       rw [← hL1_] at hr1_ hn1_
       rw [← hL2_] at hr2_ hn2_
       rw [← hL3_] at hr3_ hn3_
       rw [← hL4_] at hr4_ hn4_
       rw [← hL5_] at hr5_ hn5_
       rw [← hL6_] at hr6_ hn6_
       rw [← hL7_] at hr7_ hn7_
       rw [← hL8_] at hr8_ hn8_
       rw [← hL9_] at hr9_ hn9_
       obtain ⟨s1_, c1_, he1_, _⟩ := RS.len hr1_
       obtain ⟨s2_, c2_, he2_, _⟩ := RS.len hr2_
       obtain ⟨s3_, c3_, he3_, _⟩ := RS.len hr3_
       obtain ⟨s6_, c6_, he6_, _⟩ := RS.len hr6_
       obtain ⟨s7_, c7_, he7_, _⟩ := RS.len hr7_
       obtain ⟨s8_, c8_, he8_, _⟩ := RS.len hr8_
       refine sm (vT #[v81_, (vB true)]) ?_
       refine sv (v := v81_) (by kernel_rfl) ?_
       refine sv (v := (vB true)) (by kernel_rfl) ?_
       refine sv (v := v81_) (x_assign rfl) ?_
       refine sv (v := (vB true)) (x_assign rfl) ?_
       refine wn (hK64_ _ _ ?_)
       refine C_seq (fun _ hK90_ => ?_)
       refine cR fun _ hK91_ => ?_
       refine sm (vB true) ?_
       refine sv (v := (vB false)) (x_cast (x_not (b := true) rfl) rfl) ?_
       refine wn (hK91_ _ _ ?_)
       refine C_condF rfl ?_
       refine C_skip (X_then (hK90_ _ _ ?_))
       refine C_seq (fun _ hK92_ => ?_)
       refine A_start (S := fun w => Sub R79_ (hp w)) (N := 15) foll rfl rfl ?_
       have H93_ := Holds.drew_ H86_
       have hq94_ := ((Holds.ro_at H93_ 0 rfl))
       refine A_tk 0 (v := v81_) rfl (by kernel_rfl) (fun w hS => x_move rfl) hq94_ ?_
       refine A_tk 1 (v := (vP (some ⟨(sb v81_), so v81_ + (6 + 0), none⟩))) rfl (by kernel_rfl) (fun w hS => x_idxRS (v := v81_) rfl he84_ rfl underlying26 z32 (by omega) (by omega) (by omega : _ = 1) rfl) hq94_ ?_
       refine A_tk 2 (v := (vP (some ⟨(sb v81_), so v81_ + (6 + 5), none⟩))) rfl (by kernel_rfl) (fun w hS => by kernel_rfl) hq94_ ?_
       refine A_tk 3 (v := a1_.list) rfl (by kernel_rfl) (fun w hS => x_load1 rfl underlying22 rfl (RC.cell (RS.rc he84_) hS (j := 6 + 5) (u := a1_.list) (fm_cell BA.len ha1_ (i := 5) rfl))) hq94_ ?_
       refine A_tk 4 (v := v81_) rfl (by kernel_rfl) (fun w hS => x_move rfl) hq94_ ?_
       refine A_tk 5 (v := (vP (some ⟨(sb v81_), so v81_ + (12 + 0), none⟩))) rfl (by kernel_rfl) (fun w hS => x_idxRS (v := v81_) rfl he84_ rfl underlying26 z32 (by omega) (by omega) (by omega : _ = 2) rfl) hq94_ ?_
       refine A_tk 6 (v := (vP (some ⟨(sb v81_), so v81_ + (12 + 5), none⟩))) rfl (by kernel_rfl) (fun w hS => by kernel_rfl) hq94_ ?_
       refine A_tk 7 (v := a2_.list) rfl (by kernel_rfl) (fun w hS => x_load1 rfl underlying22 rfl (RC.cell (RS.rc he84_) hS (j := 12 + 5) (u := a2_.list) (fm_cell BA.len ha2_ (i := 5) rfl))) hq94_ ?_
       refine A_tk 8 (v := v81_) rfl (by kernel_rfl) (fun w hS => x_move rfl) hq94_ ?_
       refine A_tk 9 (v := (vP (some ⟨(sb v81_), so v81_ + (18 + 0), none⟩))) rfl (by kernel_rfl) (fun w hS => x_idxRS (v := v81_) rfl he84_ rfl underlying26 z32 (by omega) (by omega) (by omega : _ = 3) rfl) hq94_ ?_
       refine A_tk 10 (v := (vP (some ⟨(sb v81_), so v81_ + (18 + 5), none⟩))) rfl (by kernel_rfl) (fun w hS => by kernel_rfl) hq94_ ?_
       refine A_tk 11 (v := a3_.list) rfl (by kernel_rfl) (fun w hS => x_load1 rfl underlying22 rfl (RC.cell (RS.rc he84_) hS (j := 18 + 5) (u := a3_.list) (fm_cell BA.len ha3_ (i := 5) rfl))) hq94_ ?_
       refine A_ready (i := 12) (rs := []) (by kernel_rfl) ?_
       refine AllR.cons ?_ AllR.nil
       refine A_op (ls' := #[true, true, true, true, true, true, true, true, true, true, true, true, true, false, false]) rfl (by kernel_rfl) (T_new (obj := .cells #[a1_.list, a2_.list, a3_.list] 22) (f := fun b__ => .slice (some ⟨b__, 0, none⟩) 3 3) (A := fun b__ => cl b__ 22 [a1_.list, a2_.list, a3_.list]) (by rw [he1_, he2_, he3_]; kernel_rfl) (fun l h => h.alloc _ _) H93_ ?_)
       intro b104_ w105_ S107_ H106_
       have S108_ := Same.trans (Same.trans S89_ (Same.drew _)) S107_
       refine ⟨((Holds.ro_at H106_ 1 rfl)), ?_⟩
       refine A_ready (i := 13) (rs := []) (by kernel_rfl) ?_
       refine AllR.cons ?_ AllR.nil
       have H110_ := ((Holds.bring H106_ 1 rfl) :)
       refine A_op (ls' := #[true, true, true, true, true, true, true, true, true, true, true, true, true, true, false]) rfl (by kernel_rfl) (T_call (al := [(vS (some ⟨b104_, 0, none⟩) 3 3)]) (pre := [cl b104_ 22 [a1_.list, a2_.list, a3_.list]]) rfl rfl cb11 (slCat R79_ b104_ a1_.list a2_.list a3_.list L1_ L2_ L3_ hr1_ hr2_ hr3_ (⟨by omega, by omega, by omega⟩)) H110_ ?_)
       rintro v109_ p114_ w111_ ⟨_, rfl, rfl⟩ S113_ H112_
       have S115_ := Same.trans S108_ S113_
       refine ⟨((Holds.ro_at H112_ 0 rfl)), ?_⟩
       have hq116_ := ((Holds.ro_at H112_ 0 rfl))
       refine A_tk 14 (v := v109_) rfl (by kernel_rfl) (fun w hS => x_assign rfl) hq116_ ?_
       refine A_done (by kernel_rfl) ?_
       refine (X_then (hK92_ _ _ ?_))
       refine C_seq (fun _ hK117_ => ?_)
       refine A_start (S := fun w => SlRd v109_ ((L1_ ++ L2_ ++ L3_).flatMap EL.cells) w ∧ Sub R79_ (hp w)) (N := 15) foll rfl rfl ?_
       have H118_ := Holds.drew_ H112_
       have hq119_ := And.intro (Holds.slrd H118_ 1 rfl) ((Holds.ro_at H118_ 0 rfl))
       refine A_tk 0 (v := v81_) rfl (by kernel_rfl) (fun w hS => x_move rfl) hq119_ ?_
       refine A_tk 1 (v := (vP (some ⟨(sb v81_), so v81_ + (36 + 0), none⟩))) rfl (by kernel_rfl) (fun w hS => x_idxRS (v := v81_) rfl he84_ rfl underlying26 z32 (by omega) (by omega) (by omega : _ = 6) rfl) hq119_ ?_
       refine A_tk 2 (v := (vP (some ⟨(sb v81_), so v81_ + (36 + 5), none⟩))) rfl (by kernel_rfl) (fun w hS => by kernel_rfl) hq119_ ?_
       refine A_tk 3 (v := a6_.list) rfl (by kernel_rfl) (fun w hS => x_load1 rfl underlying22 rfl (RC.cell (RS.rc he84_) hS.2 (j := 36 + 5) (u := a6_.list) (fm_cell BA.len ha6_ (i := 5) rfl))) hq119_ ?_
       refine A_tk 4 (v := v81_) rfl (by kernel_rfl) (fun w hS => x_move rfl) hq119_ ?_
       refine A_tk 5 (v := (vP (some ⟨(sb v81_), so v81_ + (42 + 0), none⟩))) rfl (by kernel_rfl) (fun w hS => x_idxRS (v := v81_) rfl he84_ rfl underlying26 z32 (by omega) (by omega) (by omega : _ = 7) rfl) hq119_ ?_
       refine A_tk 6 (v := (vP (some ⟨(sb v81_), so v81_ + (42 + 5), none⟩))) rfl (by kernel_rfl) (fun w hS => by kernel_rfl) hq119_ ?_
       refine A_tk 7 (v := a7_.list) rfl (by kernel_rfl) (fun w hS => x_load1 rfl underlying22 rfl (RC.cell (RS.rc he84_) hS.2 (j := 42 + 5) (u := a7_.list) (fm_cell BA.len ha7_ (i := 5) rfl))) hq119_ ?_
       refine A_tk 8 (v := v81_) rfl (by kernel_rfl) (fun w hS => x_move rfl) hq119_ ?_
       refine A_tk 9 (v := (vP (some ⟨(sb v81_), so v81_ + (48 + 0), none⟩))) rfl (by kernel_rfl) (fun w hS => x_idxRS (v := v81_) rfl he84_ rfl underlying26 z32 (by omega) (by omega) (by omega : _ = 8) rfl) hq119_ ?_
       refine A_tk 10 (v := (vP (some ⟨(sb v81_), so v81_ + (48 + 5), none⟩))) rfl (by kernel_rfl) (fun w hS => by kernel_rfl) hq119_ ?_
       refine A_tk 11 (v := a8_.list) rfl (by kernel_rfl) (fun w hS => x_load1 rfl underlying22 rfl (RC.cell (RS.rc he84_) hS.2 (j := 48 + 5) (u := a8_.list) (fm_cell BA.len ha8_ (i := 5) rfl))) hq119_ ?_
       refine A_ready (i := 12) (rs := []) (by kernel_rfl) ?_
       refine AllR.cons ?_ AllR.nil
       refine A_op (ls' := #[true, true, true, true, true, true, true, true, true, true, true, true, true, false, false]) rfl (by kernel_rfl) (T_new (obj := .cells #[a6_.list, a7_.list, a8_.list] 22) (f := fun b__ => .slice (some ⟨b__, 0, none⟩) 3 3) (A := fun b__ => cl b__ 22 [a6_.list, a7_.list, a8_.list]) (by rw [he6_, he7_, he8_]; kernel_rfl) (fun l h => h.alloc _ _) H118_ ?_)
       intro b129_ w130_ S132_ H131_
       have S133_ := Same.trans (Same.trans S115_ (Same.drew _)) S132_
       refine ⟨⟨Holds.slrd H131_ 2 rfl, (Holds.ro_at H131_ 1 rfl)⟩, ?_⟩
       refine A_ready (i := 13) (rs := []) (by kernel_rfl) ?_
       refine AllR.cons ?_ AllR.nil
       have H135_ := ((Holds.bring H131_ 1 rfl) :)
       refine A_op (ls' := #[true, true, true, true, true, true, true, true, true, true, true, true, true, true, false]) rfl (by kernel_rfl) (T_call (al := [(vS (some ⟨b129_, 0, none⟩) 3 3)]) (pre := [cl b129_ 22 [a6_.list, a7_.list, a8_.list]]) rfl rfl cb11 (slCat R79_ b129_ a6_.list a7_.list a8_.list L6_ L7_ L8_ hr6_ hr7_ hr8_ (⟨by omega, by omega, by omega⟩)) H135_ ?_)
       rintro v134_ p139_ w136_ ⟨_, rfl, rfl⟩ S138_ H137_
       have S140_ := Same.trans S133_ S138_
       refine ⟨⟨Holds.slrd H137_ 2 rfl, (Holds.ro_at H137_ 0 rfl)⟩, ?_⟩
       have hq141_ := And.intro (Holds.slrd H137_ 2 rfl) ((Holds.ro_at H137_ 0 rfl))
       refine A_tk 14 (v := v134_) rfl (by kernel_rfl) (fun w hS => x_assign rfl) hq141_ ?_
       refine A_done (by kernel_rfl) ?_
       refine (X_then (hK117_ _ _ ?_))
       refine cR fun _ hK142_ => ?_
       ·skip
        have H143_ := ((Holds.bring (Holds.bring H137_ 2 rfl) 1 rfl) :)
        obtain ⟨R144_, hs145_, ⟨R146_, ha147_, hs148_⟩, H149_⟩ := Holds.gift H143_
        have hz_R_R144_ := Sub.trans' hz_R_R79_ hs145_
        have hz_R71__R144_ := Sub.trans' hs78_ hs145_
        have hr150_ : RS R144_ 2 v109_ (List.length (L1_ ++ L2_ ++ L3_)) ((L1_ ++ L2_ ++ L3_).flatMap EL.cells) := (sl_RS ha147_ (Sub.rfl' _)).mono hs148_
        obtain ⟨R151_, hs152_, ⟨R153_, ha154_, hs155_⟩, H156_⟩ := Holds.gift H149_
        have hz_R_R151_ := Sub.trans' hz_R_R144_ hs152_
        have hz_R71__R151_ := Sub.trans' hz_R71__R144_ hs152_
        have hz_R79__R151_ := Sub.trans' hs145_ hs152_
        have hr157_ : RS R151_ 2 v134_ (List.length (L6_ ++ L7_ ++ L8_)) ((L6_ ++ L7_ ++ L8_).flatMap EL.cells) := (sl_RS ha154_ (Sub.rfl' _)).mono hs155_
        refine sv (v := (Value.func (.func 12) #[] #[(vP (some ⟨b2_, 0, none⟩))])) (by kernel_rfl) ?_
        refine sv (v := (Value.func (.func 12) #[] #[(vP (some ⟨b2_, 0, none⟩))])) (x_assign rfl) ?_
        refine wn (hK142_ _ _ ?_)
        refine C_seq (fun _ hK158_ => ?_)
        refine cR fun _ hK159_ => ?_
        refine sv (v := v81_) (x_move rfl) ?_
        refine sv (v := (vP (some ⟨(sb v81_), so v81_ + (12 + 0), none⟩))) (x_idxRS (v := v81_) rfl (RS.mono he84_ hz_R79__R151_) rfl underlying26 z32 (by omega) (by omega) (by omega : _ = 2) rfl) ?_
        refine sv (v := (vP (some ⟨(sb v81_), so v81_ + (12 + 5), none⟩))) (by kernel_rfl) ?_
        refine sv (v := a2_.list) (x_load1 rfl underlying22 rfl (RC.cell (RS.rc (RS.mono he84_ hz_R79__R151_)) (Holds.ro_at H156_ 0 rfl) (j := 12 + 5) (u := a2_.list) (fm_cell BA.len ha2_ (i := 5) rfl))) ?_
        refine sv (v := (vI .i64 ((List.length L2_) : Int))) (x_lenRS rfl (RS.mono hr2_ hz_R79__R151_) underlying22) ?_
        refine sm (vI .i64 0) ?_
        refine wn (hK159_ _ _ ?_)
        refine C_block ?_
        refine C_loop (γ := Nat × Bool) (fun x__ a__ w1__ => match x__ with | ⟨k, d10_v⟩ => ∃ h : Env, a__ = mkA 189 (upd (upd (upd (upd (upd (upd (upd (upd (upd (upd h 2 (vI .i64 fr)) 3 (vI .i64 tl)) 10 (vB d10_v)) 11 v81_) 13 v109_) 14 v134_) 15 (Value.func (.func 12) #[] #[(vP (some ⟨b2_, 0, none⟩))])) 109 a2_.list) 110 (vI .i64 ((List.length L2_) : Int))) 111 (vI .i64 (k : Int))) [] ∧ Holds w1__ (ro R151_ :: cl b2_ 3 [(vI .i64 mo)] :: F) ∧ Same w w1__ ∧ (k ≤ L2_.length)) (fun x__ => match x__ with | ⟨k, d10_v⟩ => L2_.length - k) (⟨0, false⟩) ⟨_, congrArg (fun e => mkA 189 e []) (ch (ch (ch (ch (ch (ch (ch (ch (ch (ch rfl rfl) rfl) rfl) rfl) rfl) rfl) rfl) rfl) rfl) (congrArg (vI .i64) ((by first | rfl | omega | (simp; done) | (simp; omega)) : 0 = (0 : Int)))), H156_, S140_, (by first | assumption | omega | exact rfl)⟩ ?_
        rintro ⟨k, d10_v⟩ _ w163_ ⟨h, rfl, H164_, S165_, hk⟩
        refine cR fun _ hK166_ => ?_
        refine sv (v := (vB (decide ((k : Int) < ((List.length L2_) : Int))))) (x_bin rfl rfl rfl) ?_
        refine wn (hK166_ _ _ ?_)
        refine C_seq (fun _ hK167_ => ?_)
        refine C_cond (b := decide ((k : Int) < ((List.length L2_) : Int))) rfl (fun c168_t => ?_) (fun c168_f => ?_)
        ·have c168_tp : (k : Int) < ((List.length L2_) : Int) := of_decide_eq_true c168_t
         refine C_skip (X_then (hK167_ _ _ ?_))
         refine C_seq (fun _ hK169_ => ?_)
         refine C_block ?_
         refine cR fun _ hK170_ => ?_
         obtain ⟨x171_, hx172_, hm173_⟩ := elem_at L2_ k (by omega)
         have hp174_ := hm2_ x171_ hm173_
         refine sv (v := (vP (some ⟨(sb a2_.list), so a2_.list + (k * 2 + 0), none⟩))) (x_idxRS (v := a2_.list) rfl (RS.mono hr2_ hz_R79__R151_) rfl underlying22 z24 (by omega) (by omega) (by omega : _ = k) rfl) ?_
         refine sv (v := (vA #[(vI .i64 x171_.key), (vI .i64 x171_.val)])) (x_loadN (vs := [(vI .i64 x171_.key), (vI .i64 x171_.val)]) rfl underlying24 rfl z24 rfl (RC.cells (RS.rc (RS.mono hr2_ hz_R79__R151_)) (Holds.ro_at H164_ 0 rfl) (k * 2 + 0) (fm_cells EL.len hx172_ (i := 0) rfl))) ?_
         refine S_list (T_alloc z24 H164_ ?_)
         intro b175_ w176_ S178_ H177_
         have S179_ := Same.trans S165_ S178_
         refine S_list0 (T_storeN (vs := [(vI .i64 x171_.key), (vI .i64 x171_.val)]) rfl rfl z24 rfl (by simp [Value.oneCell']) H177_ 0 rfl (Nat.le_of_ble_eq_true (by rfl)) ?_)
         intro w180_ S182_ H181_
         have S183_ := Same.trans S179_ S182_
         refine wn (hK170_ _ _ ?_)
         refine cR fun _ hK184_ => ?_
         refine sv (v := (vP (some ⟨b175_, 0, none⟩))) (by kernel_rfl) ?_
         refine sv (v := (vI .i64 x171_.key)) (x_load1 rfl underlying3 rfl ((Holds.rd H181_ 0 rfl) 0 (vI .i64 x171_.key) rfl)) ?_
         refine sm (vI .i64 fr) ?_
         refine sv (v := (vB (decide (x171_.key < fr)))) (x_bin rfl rfl rfl) ?_
         refine sm (vB (decide (x171_.key < fr))) ?_
         rcases Bool.eq_false_or_eq_true (decide (x171_.key < fr)) with c185_t | c185_f
         ·have c185_tp : x171_.key < fr := of_decide_eq_true c185_t
          omega
         ·have c185_fp : ¬ (x171_.key < fr) := of_decide_eq_false c185_f
          refine S_yes (j := 4) (dj := 119) (b := false) rfl rfl (congrArg vB c185_f) (T_val (v := (vP (some ⟨b175_, 0, none⟩))) (by kernel_rfl) ?_)
          refine S_yes (j := 4) (dj := 119) (b := false) rfl rfl (congrArg vB c185_f) (T_val (v := (vI .i64 x171_.key)) (x_load1 rfl underlying3 rfl ((Holds.rd H181_ 0 rfl) 0 (vI .i64 x171_.key) rfl)) ?_)
          refine S_yes (j := 4) (dj := 119) (b := false) rfl rfl (congrArg vB c185_f) (T_val (v := (vI .i64 tl)) (x_move rfl) ?_)
          refine S_yes (j := 4) (dj := 119) (b := false) rfl rfl (congrArg vB c185_f) (T_val (v := (vB (decide (tl ≤ x171_.key)))) (x_bin rfl rfl rfl) ?_)
          refine S_list (T_pickF (v := (vB (decide (tl ≤ x171_.key)))) (congrArg vB c185_f) rfl ?_)
          refine wn (hK184_ _ _ ?_)
          refine C_cond (b := decide (tl ≤ x171_.key)) rfl (fun c186_t => ?_) (fun c186_f => ?_)
          ·have c186_tp : tl ≤ x171_.key := of_decide_eq_true c186_t
           omega
          ·have c186_fp : ¬ (tl ≤ x171_.key) := of_decide_eq_false c186_f
           refine C_skip (X_blkN (X_then (hK169_ _ _ ?_)))
           refine C_reg ?_
           refine sv (v := (vI .i64 ((k : Int) + 1))) (x_bin rfl rfl (ib_add (IntWalk.i64_in _ (by omega)))) ?_
           refine sm (vI .i64 ((k : Int) + 1)) ?_
           refine wpList_nil (X_then ?_)
           have H187_ := Holds.pkF H181_ [1, 1] 1
           exact ⟨⟨k + 1, d10_v⟩, ⟨_, congrArg (fun e => mkA 189 e []) (ch (ch (ch (ch (ch (ch (ch (ch (ch (ch rfl rfl) rfl) rfl) rfl) rfl) rfl) rfl) rfl) rfl) (congrArg (vI .i64) ((by first | rfl | omega | (simp; done) | (simp; omega)) : (k : Int) + 1 = ((k + 1 : Nat) : Int)))), H187_, S183_, (by first | assumption | omega | exact rfl)⟩, by first | omega | (dsimp only; omega) | (simp; omega)⟩
        ·have c168_fp : ¬ ((k : Int) < ((List.length L2_) : Int)) := of_decide_eq_false c168_f
         refine C_exit (X_thenX (X_thenX (X_blkHit ?_)))
         refine (X_then (hK158_ _ _ ?_))
         refine C_seq (fun _ hK188_ => ?_)
         refine cR fun _ hK189_ => ?_
         refine sv (v := v81_) (x_move rfl) ?_
         refine sv (v := (vP (some ⟨(sb v81_), so v81_ + (42 + 0), none⟩))) (x_idxRS (v := v81_) rfl (RS.mono he84_ hz_R79__R151_) rfl underlying26 z32 (by omega) (by omega) (by omega : _ = 7) rfl) ?_
         refine sv (v := (vP (some ⟨(sb v81_), so v81_ + (42 + 5), none⟩))) (by kernel_rfl) ?_
         refine sv (v := a7_.list) (x_load1 rfl underlying22 rfl (RC.cell (RS.rc (RS.mono he84_ hz_R79__R151_)) (Holds.ro_at H164_ 0 rfl) (j := 42 + 5) (u := a7_.list) (fm_cell BA.len ha7_ (i := 5) rfl))) ?_
         refine sv (v := (vI .i64 ((List.length L7_) : Int))) (x_lenRS rfl (RS.mono hr7_ hz_R79__R151_) underlying22) ?_
         refine sm (vI .i64 0) ?_
         refine wn (hK189_ _ _ ?_)
         refine C_block ?_
         refine C_loop (γ := Nat × Bool) (fun x__ a__ w1__ => match x__ with | ⟨k, d10_v⟩ => ∃ h : Env, a__ = mkA 189 (upd (upd (upd (upd (upd (upd (upd (upd (upd (upd h 2 (vI .i64 fr)) 3 (vI .i64 tl)) 10 (vB d10_v)) 11 v81_) 13 v109_) 14 v134_) 15 (Value.func (.func 12) #[] #[(vP (some ⟨b2_, 0, none⟩))])) 129 a7_.list) 130 (vI .i64 ((List.length L7_) : Int))) 131 (vI .i64 (k : Int))) [] ∧ Holds w1__ (ro R151_ :: cl b2_ 3 [(vI .i64 mo)] :: F) ∧ Same w w1__ ∧ (k ≤ L7_.length)) (fun x__ => match x__ with | ⟨k, d10_v⟩ => L7_.length - k) (⟨0, d10_v⟩) ⟨_, congrArg (fun e => mkA 189 e []) (ch (ch (ch (ch (ch (ch (ch (ch (ch (ch rfl rfl) rfl) rfl) rfl) rfl) rfl) rfl) rfl) rfl) (congrArg (vI .i64) ((by first | rfl | omega | (simp; done) | (simp; omega)) : 0 = (0 : Int)))), H164_, S165_, (by first | assumption | omega | exact rfl)⟩ ?_
         rintro ⟨k, d10_v⟩ _ w193_ ⟨h, rfl, H194_, S195_, hk⟩
         refine cR fun _ hK196_ => ?_
         refine sv (v := (vB (decide ((k : Int) < ((List.length L7_) : Int))))) (x_bin rfl rfl rfl) ?_
         refine wn (hK196_ _ _ ?_)
         refine C_seq (fun _ hK197_ => ?_)
         refine C_cond (b := decide ((k : Int) < ((List.length L7_) : Int))) rfl (fun c198_t => ?_) (fun c198_f => ?_)
         ·have c198_tp : (k : Int) < ((List.length L7_) : Int) := of_decide_eq_true c198_t
          refine C_skip (X_then (hK197_ _ _ ?_))
          refine C_seq (fun _ hK199_ => ?_)
          refine C_block ?_
          refine cR fun _ hK200_ => ?_
          obtain ⟨x201_, hx202_, hm203_⟩ := elem_at L7_ k (by omega)
          have hp204_ := hm7_ x201_ hm203_
          refine sv (v := (vP (some ⟨(sb a7_.list), so a7_.list + (k * 2 + 0), none⟩))) (x_idxRS (v := a7_.list) rfl (RS.mono hr7_ hz_R79__R151_) rfl underlying22 z24 (by omega) (by omega) (by omega : _ = k) rfl) ?_
          refine sv (v := (vA #[(vI .i64 x201_.key), (vI .i64 x201_.val)])) (x_loadN (vs := [(vI .i64 x201_.key), (vI .i64 x201_.val)]) rfl underlying24 rfl z24 rfl (RC.cells (RS.rc (RS.mono hr7_ hz_R79__R151_)) (Holds.ro_at H194_ 0 rfl) (k * 2 + 0) (fm_cells EL.len hx202_ (i := 0) rfl))) ?_
          refine S_list (T_alloc z24 H194_ ?_)
          intro b205_ w206_ S208_ H207_
          have S209_ := Same.trans S195_ S208_
          refine S_list0 (T_storeN (vs := [(vI .i64 x201_.key), (vI .i64 x201_.val)]) rfl rfl z24 rfl (by simp [Value.oneCell']) H207_ 0 rfl (Nat.le_of_ble_eq_true (by rfl)) ?_)
          intro w210_ S212_ H211_
          have S213_ := Same.trans S209_ S212_
          refine wn (hK200_ _ _ ?_)
          refine cR fun _ hK214_ => ?_
          refine sv (v := (vP (some ⟨b205_, 0, none⟩))) (by kernel_rfl) ?_
          refine sv (v := (vI .i64 x201_.key)) (x_load1 rfl underlying3 rfl ((Holds.rd H211_ 0 rfl) 0 (vI .i64 x201_.key) rfl)) ?_
          refine sm (vI .i64 tl) ?_
          refine sv (v := (vB (decide (tl < x201_.key)))) (x_bin rfl rfl rfl) ?_
          refine sm (vB (decide (tl < x201_.key))) ?_
          rcases Bool.eq_false_or_eq_true (decide (tl < x201_.key)) with c215_t | c215_f
          ·have c215_tp : tl < x201_.key := of_decide_eq_true c215_t
           omega
          ·have c215_fp : ¬ (tl < x201_.key) := of_decide_eq_false c215_f
           refine S_yes (j := 4) (dj := 139) (b := false) rfl rfl (congrArg vB c215_f) (T_val (v := (vP (some ⟨b205_, 0, none⟩))) (by kernel_rfl) ?_)
           refine S_yes (j := 4) (dj := 139) (b := false) rfl rfl (congrArg vB c215_f) (T_val (v := (vI .i64 x201_.key)) (x_load1 rfl underlying3 rfl ((Holds.rd H211_ 0 rfl) 0 (vI .i64 x201_.key) rfl)) ?_)
           refine S_yes (j := 4) (dj := 139) (b := false) rfl rfl (congrArg vB c215_f) (T_val (v := (vI .i64 fr)) (x_move rfl) ?_)
           refine S_yes (j := 4) (dj := 139) (b := false) rfl rfl (congrArg vB c215_f) (T_val (v := (vB (decide (x201_.key ≤ fr)))) (x_bin rfl rfl rfl) ?_)
           refine S_list (T_pickF (v := (vB (decide (x201_.key ≤ fr)))) (congrArg vB c215_f) rfl ?_)
           refine wn (hK214_ _ _ ?_)
           refine C_cond (b := decide (x201_.key ≤ fr)) rfl (fun c216_t => ?_) (fun c216_f => ?_)
           ·have c216_tp : x201_.key ≤ fr := of_decide_eq_true c216_t
            omega
           ·have c216_fp : ¬ (x201_.key ≤ fr) := of_decide_eq_false c216_f
            refine C_skip (X_blkN (X_then (hK199_ _ _ ?_)))
            refine C_reg ?_
            refine sv (v := (vI .i64 ((k : Int) + 1))) (x_bin rfl rfl (ib_add (IntWalk.i64_in _ (by omega)))) ?_
            refine sm (vI .i64 ((k : Int) + 1)) ?_
            refine wpList_nil (X_then ?_)
            have H217_ := Holds.pkF H211_ [1, 1] 1
            exact ⟨⟨k + 1, d10_v⟩, ⟨_, congrArg (fun e => mkA 189 e []) (ch (ch (ch (ch (ch (ch (ch (ch (ch (ch rfl rfl) rfl) rfl) rfl) rfl) rfl) rfl) rfl) rfl) (congrArg (vI .i64) ((by first | rfl | omega | (simp; done) | (simp; omega)) : (k : Int) + 1 = ((k + 1 : Nat) : Int)))), H217_, S213_, (by first | assumption | omega | exact rfl)⟩, by first | omega | (dsimp only; omega) | (simp; omega)⟩
         ·have c198_fp : ¬ ((k : Int) < ((List.length L7_) : Int)) := of_decide_eq_false c198_f
          refine C_exit (X_thenX (X_thenX (X_blkHit ?_)))
          refine (X_then (hK188_ _ _ ?_))
          refine C_seq (fun _ hK218_ => ?_)
          refine A_start (S := fun w => Rd b2_ [(vI .i64 mo)] w ∧ Sub R151_ (hp w)) (N := 44) foll rfl rfl ?_
          have H219_ := Holds.drew_ H194_
          have hq220_ := And.intro (Holds.rd H219_ 1 rfl) ((Holds.ro_at H219_ 0 rfl))
          refine A_tk 0 (v := v109_) rfl (by kernel_rfl) (fun w hS => x_move rfl) hq220_ ?_
          refine A_tk 1 (v := v81_) rfl (by kernel_rfl) (fun w hS => x_move rfl) hq220_ ?_
          refine A_tk 2 (v := (vP (some ⟨(sb v81_), so v81_ + (0 + 0), none⟩))) rfl (by kernel_rfl) (fun w hS => x_idxRS (v := v81_) rfl (RS.mono he84_ hz_R79__R151_) rfl underlying26 z32 (by omega) (by omega) (by omega : _ = 0) rfl) hq220_ ?_
          refine A_tk 3 (v := (vP (some ⟨(sb v81_), so v81_ + (0 + 5), none⟩))) rfl (by kernel_rfl) (fun w hS => by kernel_rfl) hq220_ ?_
          refine A_tk 4 (v := a0_.list) rfl (by kernel_rfl) (fun w hS => x_load1 rfl underlying22 rfl (RC.cell (RS.rc (RS.mono he84_ hz_R79__R151_)) hS.2 (j := 0 + 5) (u := a0_.list) (fm_cell BA.len ha0_ (i := 5) rfl))) hq220_ ?_
          refine A_ready (i := 5) (rs := []) (by kernel_rfl) ?_
          refine AllR.cons ?_ AllR.nil
          refine A_op (ls' := #[true, true, true, true, true, true, false, false, false, false, false, false, false, false, false, false, false, false, false, false, false, false, false, false, false, false, false, false, false, false, false, false, false, false, false, false, false, false, false, false, false, false, false, false]) rfl (by kernel_rfl) (T_call (al := [v109_, a0_.list]) (pre := []) rfl rfl cb13 (slEq R151_ v109_ a0_.list (L1_ ++ L2_ ++ L3_) L0_ (RS.mono hr150_ hs152_) (RS.mono hr0_ hz_R79__R151_) (hU_.symm) (by simp only [List.length_append]; omega)) H219_ ?_)
          rintro v224_ p228_ w225_ ⟨rfl, rfl⟩ S227_ H226_
          have S229_ := Same.trans (Same.trans S195_ (Same.drew _)) S227_
          refine ⟨⟨Holds.rd H226_ 1 rfl, (Holds.ro_at H226_ 0 rfl)⟩, ?_⟩
          have hq230_ := And.intro (Holds.rd H226_ 1 rfl) ((Holds.ro_at H226_ 0 rfl))
          refine A_tk 6 (v := (vB true)) rfl (by kernel_rfl) (fun w hS => x_move rfl) hq230_ ?_
          refine A_tkY 7 (j := 6) (dj := 152) (b := true) (v := v134_) rfl (by kernel_rfl) rfl rfl rfl (fun w hS => x_move rfl) hq230_ ?_
          refine A_tkY 8 (j := 6) (dj := 152) (b := true) (v := v81_) rfl (by kernel_rfl) rfl rfl rfl (fun w hS => x_move rfl) hq230_ ?_
          refine A_tkY 9 (j := 6) (dj := 152) (b := true) (v := (vP (some ⟨(sb v81_), so v81_ + (30 + 0), none⟩))) rfl (by kernel_rfl) rfl rfl rfl (fun w hS => x_idxRS (v := v81_) rfl (RS.mono he84_ hz_R79__R151_) rfl underlying26 z32 (by omega) (by omega) (by omega : _ = 5) rfl) hq230_ ?_
          refine A_tkY 10 (j := 6) (dj := 152) (b := true) (v := (vP (some ⟨(sb v81_), so v81_ + (30 + 5), none⟩))) rfl (by kernel_rfl) rfl rfl rfl (fun w hS => by kernel_rfl) hq230_ ?_
          refine A_tkY 11 (j := 6) (dj := 152) (b := true) (v := a5_.list) rfl (by kernel_rfl) rfl rfl rfl (fun w hS => x_load1 rfl underlying22 rfl (RC.cell (RS.rc (RS.mono he84_ hz_R79__R151_)) hS.2 (j := 30 + 5) (u := a5_.list) (fm_cell BA.len ha5_ (i := 5) rfl))) hq230_ ?_
          refine A_ready (i := 12) (rs := []) (by kernel_rfl) ?_
          refine AllR.cons ?_ AllR.nil
          refine A_opYes (ls' := #[true, true, true, true, true, true, true, true, true, true, true, true, true, false, false, false, false, false, false, false, false, false, false, false, false, false, false, false, false, false, false, false, false, false, false, false, false, false, false, false, false, false, false, false]) (j := 6) (dj := 152) (b := true) rfl (by kernel_rfl) rfl rfl rfl (T_call (al := [v134_, a5_.list]) (pre := []) rfl rfl cb13 (slEq R151_ v134_ a5_.list (L6_ ++ L7_ ++ L8_) L5_ hr157_ (RS.mono hr5_ hz_R79__R151_) (hD_.symm) (by simp only [List.length_append]; omega)) H226_ ?_)
          rintro v234_ p238_ w235_ ⟨rfl, rfl⟩ S237_ H236_
          have S239_ := Same.trans S229_ S237_
          refine ⟨⟨Holds.rd H236_ 1 rfl, (Holds.ro_at H236_ 0 rfl)⟩, ?_⟩
          have hq240_ := And.intro (Holds.rd H236_ 1 rfl) ((Holds.ro_at H236_ 0 rfl))
          refine A_tk 13 (v := (vB true)) rfl (by kernel_rfl) (fun w hS => (x_pickT rfl rfl)) hq240_ ?_
          refine A_tk 14 (v := (vB true)) rfl (by kernel_rfl) (fun w hS => x_move rfl) hq240_ ?_
          refine A_tkY 15 (j := 14) (dj := 160) (b := true) (v := v81_) rfl (by kernel_rfl) rfl rfl rfl (fun w hS => x_move rfl) hq240_ ?_
          refine A_tkY 16 (j := 14) (dj := 160) (b := true) (v := (vP (some ⟨(sb v81_), so v81_ + (24 + 0), none⟩))) rfl (by kernel_rfl) rfl rfl rfl (fun w hS => x_idxRS (v := v81_) rfl (RS.mono he84_ hz_R79__R151_) rfl underlying26 z32 (by omega) (by omega) (by omega : _ = 4) rfl) hq240_ ?_
          refine A_tkY 17 (j := 14) (dj := 160) (b := true) (v := (vP (some ⟨(sb v81_), so v81_ + (24 + 5), none⟩))) rfl (by kernel_rfl) rfl rfl rfl (fun w hS => by kernel_rfl) hq240_ ?_
          refine A_tkY 18 (j := 14) (dj := 160) (b := true) (v := a4_.list) rfl (by kernel_rfl) rfl rfl rfl (fun w hS => x_load1 rfl underlying22 rfl (RC.cell (RS.rc (RS.mono he84_ hz_R79__R151_)) hS.2 (j := 24 + 5) (u := a4_.list) (fm_cell BA.len ha4_ (i := 5) rfl))) hq240_ ?_
          refine A_tkY 19 (j := 14) (dj := 160) (b := true) (v := (Value.func (.func 12) #[] #[(vP (some ⟨b2_, 0, none⟩))])) rfl (by kernel_rfl) rfl rfl rfl (fun w hS => x_move rfl) hq240_ ?_
          refine A_tkY 20 (j := 14) (dj := 160) (b := true) (v := v81_) rfl (by kernel_rfl) rfl rfl rfl (fun w hS => x_move rfl) hq240_ ?_
          refine A_tkY 21 (j := 14) (dj := 160) (b := true) (v := (vP (some ⟨(sb v81_), so v81_ + (12 + 0), none⟩))) rfl (by kernel_rfl) rfl rfl rfl (fun w hS => x_idxRS (v := v81_) rfl (RS.mono he84_ hz_R79__R151_) rfl underlying26 z32 (by omega) (by omega) (by omega : _ = 2) rfl) hq240_ ?_
          refine A_tkY 22 (j := 14) (dj := 160) (b := true) (v := (vP (some ⟨(sb v81_), so v81_ + (12 + 5), none⟩))) rfl (by kernel_rfl) rfl rfl rfl (fun w hS => by kernel_rfl) hq240_ ?_
          refine A_tkY 23 (j := 14) (dj := 160) (b := true) (v := a2_.list) rfl (by kernel_rfl) rfl rfl rfl (fun w hS => x_load1 rfl underlying22 rfl (RC.cell (RS.rc (RS.mono he84_ hz_R79__R151_)) hS.2 (j := 12 + 5) (u := a2_.list) (fm_cell BA.len ha2_ (i := 5) rfl))) hq240_ ?_
          refine A_ready (i := 24) (rs := []) (by kernel_rfl) ?_
          refine AllR.cons ?_ AllR.nil
          refine A_opYes (ls' := #[true, true, true, true, true, true, true, true, true, true, true, true, true, true, true, true, true, true, true, true, true, true, true, true, true, false, false, false, false, false, false, false, false, false, false, false, false, false, false, false, false, false, false, false]) (j := 14) (dj := 160) (b := true) rfl (by kernel_rfl) rfl rfl rfl (T_call (al := [a2_.list, (vP (some ⟨b2_, 0, none⟩))]) (pre := [cl b2_ 3 [(vI .i64 mo)]]) rfl rfl cb12 (lwFew R151_ a2_.list b2_ mo L2_ (RS.mono hr2_ hz_R79__R151_) (by omega)) H236_ ?_)
          rintro v247_ p252_ w249_ ⟨_, rfl, rfl, he248_⟩ S251_ H250_
          have S253_ := Same.trans S239_ S251_
          refine ⟨⟨Holds.rd H250_ 1 rfl, (Holds.ro_at H250_ 0 rfl)⟩, ?_⟩
          refine A_ready (i := 25) (rs := []) (by kernel_rfl) ?_
          refine AllR.cons ?_ AllR.nil
          refine A_opYes (ls' := #[true, true, true, true, true, true, true, true, true, true, true, true, true, true, true, true, true, true, true, true, true, true, true, true, true, true, false, false, false, false, false, false, false, false, false, false, false, false, false, false, false, false, false, false]) (j := 14) (dj := 160) (b := true) rfl (by kernel_rfl) rfl rfl rfl (T_call (al := [a4_.list, v247_]) (pre := []) rfl rfl cb13 (slEq R151_ a4_.list v247_ L4_ (L2_.take mo.toNat) (RS.mono hr4_ hz_R79__R151_) he248_ (h4_.symm) (by omega)) H250_ ?_)
          rintro v254_ p258_ w255_ ⟨rfl, rfl⟩ S257_ H256_
          have S259_ := Same.trans S253_ S257_
          refine ⟨⟨Holds.rd H256_ 1 rfl, (Holds.ro_at H256_ 0 rfl)⟩, ?_⟩
          have hq260_ := And.intro (Holds.rd H256_ 1 rfl) ((Holds.ro_at H256_ 0 rfl))
          refine A_tk 26 (v := (vB true)) rfl (by kernel_rfl) (fun w hS => (x_pickT rfl rfl)) hq260_ ?_
          refine A_tk 27 (v := (vB true)) rfl (by kernel_rfl) (fun w hS => x_move rfl) hq260_ ?_
          refine A_tkY 28 (j := 27) (dj := 173) (b := true) (v := v81_) rfl (by kernel_rfl) rfl rfl rfl (fun w hS => x_move rfl) hq260_ ?_
          refine A_tkY 29 (j := 27) (dj := 173) (b := true) (v := (vP (some ⟨(sb v81_), so v81_ + (54 + 0), none⟩))) rfl (by kernel_rfl) rfl rfl rfl (fun w hS => x_idxRS (v := v81_) rfl (RS.mono he84_ hz_R79__R151_) rfl underlying26 z32 (by omega) (by omega) (by omega : _ = 9) rfl) hq260_ ?_
          refine A_tkY 30 (j := 27) (dj := 173) (b := true) (v := (vP (some ⟨(sb v81_), so v81_ + (54 + 5), none⟩))) rfl (by kernel_rfl) rfl rfl rfl (fun w hS => by kernel_rfl) hq260_ ?_
          refine A_tkY 31 (j := 27) (dj := 173) (b := true) (v := a9_.list) rfl (by kernel_rfl) rfl rfl rfl (fun w hS => x_load1 rfl underlying22 rfl (RC.cell (RS.rc (RS.mono he84_ hz_R79__R151_)) hS.2 (j := 54 + 5) (u := a9_.list) (fm_cell BA.len ha9_ (i := 5) rfl))) hq260_ ?_
          refine A_tkY 32 (j := 27) (dj := 173) (b := true) (v := (Value.func (.func 12) #[] #[(vP (some ⟨b2_, 0, none⟩))])) rfl (by kernel_rfl) rfl rfl rfl (fun w hS => x_move rfl) hq260_ ?_
          refine A_tkY 33 (j := 27) (dj := 173) (b := true) (v := v81_) rfl (by kernel_rfl) rfl rfl rfl (fun w hS => x_move rfl) hq260_ ?_
          refine A_tkY 34 (j := 27) (dj := 173) (b := true) (v := (vP (some ⟨(sb v81_), so v81_ + (42 + 0), none⟩))) rfl (by kernel_rfl) rfl rfl rfl (fun w hS => x_idxRS (v := v81_) rfl (RS.mono he84_ hz_R79__R151_) rfl underlying26 z32 (by omega) (by omega) (by omega : _ = 7) rfl) hq260_ ?_
          refine A_tkY 35 (j := 27) (dj := 173) (b := true) (v := (vP (some ⟨(sb v81_), so v81_ + (42 + 5), none⟩))) rfl (by kernel_rfl) rfl rfl rfl (fun w hS => by kernel_rfl) hq260_ ?_
          refine A_tkY 36 (j := 27) (dj := 173) (b := true) (v := a7_.list) rfl (by kernel_rfl) rfl rfl rfl (fun w hS => x_load1 rfl underlying22 rfl (RC.cell (RS.rc (RS.mono he84_ hz_R79__R151_)) hS.2 (j := 42 + 5) (u := a7_.list) (fm_cell BA.len ha7_ (i := 5) rfl))) hq260_ ?_
          refine A_ready (i := 37) (rs := []) (by kernel_rfl) ?_
          refine AllR.cons ?_ AllR.nil
          refine A_opYes (ls' := #[true, true, true, true, true, true, true, true, true, true, true, true, true, true, true, true, true, true, true, true, true, true, true, true, true, true, true, true, true, true, true, true, true, true, true, true, true, true, false, false, false, false, false, false]) (j := 27) (dj := 173) (b := true) rfl (by kernel_rfl) rfl rfl rfl (T_call (al := [a7_.list, (vP (some ⟨b2_, 0, none⟩))]) (pre := [cl b2_ 3 [(vI .i64 mo)]]) rfl rfl cb12 (lwFew R151_ a7_.list b2_ mo L7_ (RS.mono hr7_ hz_R79__R151_) (by omega)) H256_ ?_)
          rintro v267_ p272_ w269_ ⟨_, rfl, rfl, he268_⟩ S271_ H270_
          have S273_ := Same.trans S259_ S271_
          refine ⟨⟨Holds.rd H270_ 1 rfl, (Holds.ro_at H270_ 0 rfl)⟩, ?_⟩
          refine A_ready (i := 38) (rs := []) (by kernel_rfl) ?_
          refine AllR.cons ?_ AllR.nil
          refine A_opYes (ls' := #[true, true, true, true, true, true, true, true, true, true, true, true, true, true, true, true, true, true, true, true, true, true, true, true, true, true, true, true, true, true, true, true, true, true, true, true, true, true, true, false, false, false, false, false]) (j := 27) (dj := 173) (b := true) rfl (by kernel_rfl) rfl rfl rfl (T_call (al := [a9_.list, v267_]) (pre := []) rfl rfl cb13 (slEq R151_ a9_.list v267_ L9_ (L7_.take mo.toNat) (RS.mono hr9_ hz_R79__R151_) he268_ (h9_.symm) (by omega)) H270_ ?_)
          rintro v274_ p278_ w275_ ⟨rfl, rfl⟩ S277_ H276_
          have S279_ := Same.trans S273_ S277_
          refine ⟨⟨Holds.rd H276_ 1 rfl, (Holds.ro_at H276_ 0 rfl)⟩, ?_⟩
          have hq280_ := And.intro (Holds.rd H276_ 1 rfl) ((Holds.ro_at H276_ 0 rfl))
          refine A_tk 39 (v := (vB true)) rfl (by kernel_rfl) (fun w hS => (x_pickT rfl rfl)) hq280_ ?_
          refine A_tk 40 (v := (vB true)) rfl (by kernel_rfl) (fun w hS => x_move rfl) hq280_ ?_
          refine A_ready (i := 41) (rs := []) (by kernel_rfl) ?_
          refine AllR.cons ?_ AllR.nil
          refine A_opYes (ls' := #[true, true, true, true, true, true, true, true, true, true, true, true, true, true, true, true, true, true, true, true, true, true, true, true, true, true, true, true, true, true, true, true, true, true, true, true, true, true, true, true, true, true, false, false]) (j := 40) (dj := 186) (b := true) rfl (by kernel_rfl) rfl rfl rfl (T_call (al := []) (pre := []) rfl rfl cb6 (lwLive R151_) H276_ ?_)
          rintro v281_ p285_ w282_ ⟨rfl, rfl⟩ S284_ H283_
          have S286_ := Same.trans S279_ S284_
          refine ⟨⟨Holds.rd H283_ 1 rfl, (Holds.ro_at H283_ 0 rfl)⟩, ?_⟩
          have hq287_ := And.intro (Holds.rd H283_ 1 rfl) ((Holds.ro_at H283_ 0 rfl))
          refine A_tk 42 (v := (vB true)) rfl (by kernel_rfl) (fun w hS => (x_pickT rfl rfl)) hq287_ ?_
          refine A_tk 43 (v := (vB true)) rfl (by kernel_rfl) (fun w hS => x_assign rfl) hq287_ ?_
          refine A_done (by kernel_rfl) ?_
          refine (X_then (hK218_ _ _ ?_))
          refine C_ret ?_
          refine R_any (v := (vB true)) (run_results1 rfl rfl) ?_
          have H288_ : Holds w282_ (ro R :: cl b2_ 3 [(vI .i64 mo)] :: F) := Holds.ro_less H283_ hz_R_R151_
          have H289_ := Holds.pkF H288_ [0] 1
          exact ⟨_, _, rfl, ⟨rfl, rfl⟩, S286_, H289_⟩
end Go.Proofs.Ytdfjdmmmlidamaa
