/- Words, and proved steps, on which the proof leans. -/
import Derived.Test.YtdfjdmmmlidamaaBs3
set_option linter.unusedVariables false
set_option linter.unusedSimpArgs false
namespace Go.Proofs.Ytdfjdmmmlidamaa
open Go Go.RowKit Gw Try
open Go.Value renaming int → vI, bool → vB, slice → vS, pointer → vP, agg → vA, tuple → vT

set_option maxHeartbeats 16000000 in
theorem itA0 (R : HP) (c fl : Nat) (t : BN) (ss pp : EL) (us ut hit : Bool) (ob pb : Nat) (q : BO) (O : List EL) (hs : SrtE t.xs) (hn : t.xs.length ≤ 100000) (hO : O.length + t.xs.length ≤ 1000000) :
    Tri Try.prog 63 #[(vP (some ⟨t.a, 0, none⟩)), (vI .i64 1), (vA #[(vI .i64 ss.key), (vI .i64 ss.val), (vB us)]), (vA #[(vI .i64 pp.key), (vI .i64 pp.val), (vB ut)]), (vB us), (vB hit), (Value.func (.func 44) #[] #[(vP (some ⟨ob, 0, none⟩)), (vP (some ⟨pb, 0, none⟩))])] R [btp c (leafB t), cl c 58 [(vP (some ⟨fl, 0, none⟩)), (Value.func (.func 16) #[] #[])], outP ob pb q O] (fun v__ post__ => ∃ (h' ok : Bool) (O' : List EL), v__ = (vT #[(vB h'), (vB ok)]) ∧ post__ = [btp c (leafB t), cl c 58 [(vP (some ⟨fl, 0, none⟩)), (Value.func (.func 16) #[] #[])], outP ob pb q O'] ∧ (runA (stA ut pp) q.most (selA us ss t.xs) O = (O', ok))) := by
 have hKl : (KR t.xs).length = t.xs.length + 1 := KR_len t.xs
 have hse : SrtE (inter t.xs (KR t.xs)) := by rw [KR_inter]; exact hs
 have hel : (inter t.xs (KR t.xs)).length ≤ 100000 ∧ O.length + (inter t.xs (KR t.xs)).length ≤ 1000000 := by rw [KR_inter]; exact ⟨hn, hO⟩
 have hso := hs
 have hn2 : t.xs.length ≤ 1000000 := by omega
 refine Tri.into (n := 343) (al := [(vP (some ⟨t.a, 0, none⟩)), (vI .i64 1), (vA #[(vI .i64 ss.key), (vI .i64 ss.val), (vB us)]), (vA #[(vI .i64 pp.key), (vI .i64 pp.val), (vB ut)]), (vB us), (vB hit), (Value.func (.func 44) #[] #[(vP (some ⟨ob, 0, none⟩)), (vP (some ⟨pb, 0, none⟩))])]) func63 rfl ntmps63 rfl rfl fun w F H => ?_
 have H1_ := ((Holds.bring H 1 rfl) :)
 have H2_ := Holds.leafO H1_
 refine cR fun _ hK3_ => ?_
 refine S_list (T_box (v := (vA #[(vI .i64 ss.key), (vI .i64 ss.val), (vB us)])) rfl H2_ ?_)
 intro b4_ w5_ S7_ H6_
 have S8_ := Same.trans (Same.refl w) S7_
 refine S_list (T_box (v := (vA #[(vI .i64 pp.key), (vI .i64 pp.val), (vB ut)])) rfl H6_ ?_)
 intro b9_ w10_ S12_ H11_
 have S13_ := Same.trans S8_ S12_
 refine sv (v := (vB false)) (x_assign rfl) ?_
 refine sv (v := (vB false)) (x_assign rfl) ?_
 refine wn (hK3_ _ _ ?_)
 refine cR fun _ hK14_ => ?_
 refine sv (v := (vB false)) (x_assign rfl) ?_
 refine sv (v := (vB false)) (x_assign rfl) ?_
 refine wn (hK14_ _ _ ?_)
 refine cR fun _ hK15_ => ?_
 refine sv (v := (vI .i64 0)) (x_assign rfl) ?_
 refine wn (hK15_ _ _ ?_)
 refine C_seq (fun _ hK16_ => ?_)
 refine cR fun _ hK17_ => ?_
 refine sm (vI .i64 1) ?_
 refine wn (hK17_ _ _ ?_)
 refine C_block ?_
 refine cR fun _ hK18_ => ?_
 refine sv (v := (vB true)) (x_bin rfl rfl rfl) ?_
 refine sv (v := (vB true)) (x_assign rfl) ?_
 refine wn (hK18_ _ _ ?_)
 refine C_condT rfl ?_
 refine C_cut (fun a__ w1__ => ∃ i0 : Nat, ∃ h : Env, a__ = mkA 343 (upd (upd (upd (upd (upd (upd (upd (upd (upd (upd h 0 (vP (some ⟨t.a, 0, none⟩))) 1 (vI .i64 1)) 4 (vB us)) 5 (vB hit)) 6 (Value.func (.func 44) #[] #[(vP (some ⟨ob, 0, none⟩)), (vP (some ⟨pb, 0, none⟩))])) 9 (vP (some ⟨b4_, 0, none⟩))) 10 (vP (some ⟨b9_, 0, none⟩))) 14 (vB false)) 15 (vB false)) 18 (vI .i64 (i0 : Int))) [] ∧ Holds w1__ (cl b9_ 105 [(vI .i64 pp.key), (vI .i64 pp.val), (vB ut)] :: cl b4_ 105 [(vI .i64 ss.key), (vI .i64 ss.val), (vB us)] :: cl t.a 79 [t.iv, (vS none 0 0), (vP (some ⟨c, 0, none⟩))] :: sl 24 2 t.iv (List.length t.xs) (t.xs.flatMap EL.cells) :: ro R :: cl c 58 [(vP (some ⟨fl, 0, none⟩)), (Value.func (.func 16) #[] #[])] :: outP ob pb q O :: F) ∧ Same w w1__ ∧ (i0 ≤ t.xs.length) ∧ (∀ y ∈ t.xs.take i0, us = true ∧ y.key < ss.key) ∧ (∀ y ∈ t.xs.drop i0, us = true → ss.key ≤ y.key)) ?_ ?_
 ·refine cR fun _ hK22_ => ?_
  refine sv (v := (vP (some ⟨b4_, 2, none⟩))) (by kernel_rfl) ?_
  refine sv (v := (vB us)) (x_load1 rfl underlying4 rfl ((Holds.rd H11_ 1 rfl) 2 (vB us) rfl)) ?_
  refine wn (hK22_ _ _ ?_)
  refine C_cond (b := us) rfl (fun c23_t => ?_) (fun c23_f => ?_)
  ·skip
   refine A_start (S := fun w => Rd b4_ [(vI .i64 ss.key), (vI .i64 ss.val), (vB us)] w ∧ Rd t.a [t.iv, (vS none 0 0), (vP (some ⟨c, 0, none⟩))] w ∧ SlRd t.iv (t.xs.flatMap EL.cells) w ∧ Rd c [(vP (some ⟨fl, 0, none⟩)), (Value.func (.func 16) #[] #[])] w ∧ Sub R (hp w)) (N := 18) foll rfl rfl ?_
   have H24_ := Holds.drew_ H11_
   have hq25_ := And.intro (Holds.rd H24_ 1 rfl) (And.intro (Holds.rd H24_ 2 rfl) (And.intro (Holds.slrd H24_ 3 rfl) (And.intro (Holds.rd H24_ 5 rfl) ((Holds.ro_at H24_ 4 rfl)))))
   refine A_tk 0 (v := (vP (some ⟨t.a, 0, none⟩))) rfl (by kernel_rfl) (fun w hS => x_move rfl) hq25_ ?_
   refine A_tk 1 (v := (vP (some ⟨t.a, 0, none⟩))) rfl (by kernel_rfl) (fun w hS => by kernel_rfl) hq25_ ?_
   refine A_tk 2 (v := (vP (some ⟨t.a, 0, none⟩))) rfl (by kernel_rfl) (fun w hS => by kernel_rfl) hq25_ ?_
   refine A_tk 3 (v := t.iv) rfl (by kernel_rfl) (fun w hS => x_load1 rfl underlying76 rfl (hS.2.1 0 t.iv rfl)) hq25_ ?_
   refine A_tk 4 (v := (vP (some ⟨b4_, 0, none⟩))) rfl (by kernel_rfl) (fun w hS => by kernel_rfl) hq25_ ?_
   refine A_tk 5 (v := (vA #[(vI .i64 ss.key), (vI .i64 ss.val)])) rfl (by kernel_rfl) (fun w hS => x_loadN (vs := [(vI .i64 ss.key), (vI .i64 ss.val)]) rfl underlying24 rfl z24 rfl (Rd.cells hS.1 0 rfl)) hq25_ ?_
   refine A_tk 6 (v := (vP (some ⟨t.a, 0, none⟩))) rfl (by kernel_rfl) (fun w hS => x_move rfl) hq25_ ?_
   refine A_tk 7 (v := (vP (some ⟨t.a, 0, none⟩))) rfl (by kernel_rfl) (fun w hS => by kernel_rfl) hq25_ ?_
   refine A_tk 8 (v := (vP (some ⟨t.a, 2, none⟩))) rfl (by kernel_rfl) (fun w hS => by kernel_rfl) hq25_ ?_
   refine A_tk 9 (v := (vP (some ⟨c, 0, none⟩))) rfl (by kernel_rfl) (fun w hS => x_load1 rfl underlying60 rfl (hS.2.1 2 (vP (some ⟨c, 0, none⟩)) rfl)) hq25_ ?_
   refine A_tk 10 (v := (vP (some ⟨c, 0, none⟩))) rfl (by kernel_rfl) (fun w hS => by kernel_rfl) hq25_ ?_
   refine A_tk 11 (v := (vP (some ⟨c, 1, none⟩))) rfl (by kernel_rfl) (fun w hS => by kernel_rfl) hq25_ ?_
   refine A_tk 12 (v := (Value.func (.func 16) #[] #[])) rfl (by kernel_rfl) (fun w hS => x_load1 rfl underlying53 rfl (hS.2.2.2.1 1 (Value.func (.func 16) #[] #[]) rfl)) hq25_ ?_
   refine A_ready (i := 13) (rs := []) (by kernel_rfl) ?_
   refine AllR.cons ?_ AllR.nil
   have H30_ := ((Holds.bring (Holds.bring H24_ 3 rfl) 4 rfl) :)
   refine A_op (ls' := #[true, true, true, true, true, true, true, true, true, true, true, true, true, true, false, false, false, false]) rfl (by kernel_rfl) (T_call (al := [t.iv, (vA #[(vI .i64 ss.key), (vI .i64 ss.val)]), (Value.func (.func 16) #[] #[])]) (pre := [sl 24 2 t.iv (List.length t.xs) (t.xs.flatMap EL.cells)]) rfl rfl cb56 (btFind R t.iv t.xs ss (hso) (hn2)) H30_ ?_)
   rintro v26_ p34_ w31_ ⟨i27_, b28_, rfl, rfl, he29_⟩ S33_ H32_
   have S35_ := Same.trans (Same.trans S13_ (Same.drew _)) S33_
   have hplq_ := (pl_le hso he29_).1
   refine ⟨⟨Holds.rd H32_ 3 rfl, Holds.rd H32_ 4 rfl, Holds.slrd H32_ 1 rfl, Holds.rd H32_ 5 rfl, (Holds.ro_at H32_ 0 rfl)⟩, ?_⟩
   have hq36_ := And.intro (Holds.rd H32_ 3 rfl) (And.intro (Holds.rd H32_ 4 rfl) (And.intro (Holds.slrd H32_ 1 rfl) (And.intro (Holds.rd H32_ 5 rfl) ((Holds.ro_at H32_ 0 rfl)))))
   refine A_tk 14 (v := (vT #[(vI .i64 (i27_ : Int)), (vB b28_)])) rfl (by kernel_rfl) (fun w hS => x_move rfl) hq36_ ?_
   refine A_tk 15 (v := (vI .i64 (i27_ : Int))) rfl (by kernel_rfl) (fun w hS => by kernel_rfl) hq36_ ?_
   refine A_tk 16 (v := (vB b28_)) rfl (by kernel_rfl) (fun w hS => by kernel_rfl) hq36_ ?_
   refine A_tk 17 (v := (vI .i64 (i27_ : Int))) rfl (by kernel_rfl) (fun w hS => x_assign rfl) hq36_ ?_
   refine A_done (by kernel_rfl) ?_
   refine (X_then ?_)
   have H37_ := Holds.pkF H32_ [2, 2, 2, 1, 0, 0, 0] 0
   exact ⟨i27_, _, congrArg (fun e => mkA 343 e []) (ch (ch (ch (ch (ch (ch (ch (ch (ch (ch rfl rfl) rfl) rfl) rfl) rfl) rfl) rfl) rfl) rfl) rfl), H37_, S35_, ((pl_le hso he29_).1), (fun y hy => ⟨c23_t, (pl_le hso he29_).2.1 y hy⟩), (fun y hy _ => (pl_le hso he29_).2.2.1 y hy)⟩
  ·skip
   refine C_skip (X_then ?_)
   exact ⟨0, _, congrArg (fun e => mkA 343 e []) (ch (ch (ch (ch (ch (ch (ch (ch (ch (ch rfl rfl) rfl) rfl) rfl) rfl) rfl) rfl) rfl) rfl) (congrArg (vI .i64) ((by first | rfl | omega | (simp; done) | (simp; omega)) : 0 = (0 : Int)))), H11_, S13_, (Nat.zero_le _), (fun y hy => by simp at hy), (fun y hy h__ => absurd h__ (by rw [c23_f]; decide))⟩
 ·rintro _ w19_ ⟨i0, h, rfl, H20_, S21_, hi00, hlo0, hhi0⟩
  refine C_seq (fun _ hK38_ => ?_)
  refine cR fun _ hK39_ => ?_
  refine sm (vI .i64 (i0 : Int)) ?_
  refine sv (v := (vI .i64 (i0 : Int))) (x_assign rfl) ?_
  refine wn (hK39_ _ _ ?_)
  refine C_block ?_
  refine C_loop (γ := Nat × Bool × (List EL) × Bool × Bool) (fun x__ a__ w1__ => match x__ with | ⟨i, hb, O1, t14_v, t15_v⟩ => ∃ h : Env, a__ = mkA 343 (upd (upd (upd (upd (upd (upd (upd (upd (upd (upd h 0 (vP (some ⟨t.a, 0, none⟩))) 1 (vI .i64 1)) 4 (vB us)) 5 (vB hb)) 6 (Value.func (.func 44) #[] #[(vP (some ⟨ob, 0, none⟩)), (vP (some ⟨pb, 0, none⟩))])) 9 (vP (some ⟨b4_, 0, none⟩))) 10 (vP (some ⟨b9_, 0, none⟩))) 14 (vB t14_v)) 15 (vB t15_v)) 19 (vI .i64 (i : Int))) [] ∧ Holds w1__ (cl b9_ 105 [(vI .i64 pp.key), (vI .i64 pp.val), (vB ut)] :: cl b4_ 105 [(vI .i64 ss.key), (vI .i64 ss.val), (vB us)] :: cl t.a 79 [t.iv, (vS none 0 0), (vP (some ⟨c, 0, none⟩))] :: sl 24 2 t.iv (List.length t.xs) (t.xs.flatMap EL.cells) :: ro R :: cl c 58 [(vP (some ⟨fl, 0, none⟩)), (Value.func (.func 16) #[] #[])] :: outP ob pb q O1 :: F) ∧ Same w w1__ ∧ (i0 ≤ i ∧ i ≤ t.xs.length) ∧ (runA (stA ut pp) q.most (selA us ss (preI (t.xs.take i) ((KR t.xs).take i))) O = (O1, true))) (fun x__ => match x__ with | ⟨i, hb, O1, t14_v, t15_v⟩ => t.xs.length - i) (⟨i0, hit, O, false, false⟩) ⟨_, congrArg (fun e => mkA 343 e []) (ch (ch (ch (ch (ch (ch (ch (ch (ch (ch rfl rfl) rfl) rfl) rfl) rfl) rfl) rfl) rfl) rfl) rfl), H20_, S21_, (⟨Nat.le_refl _, hi00⟩), (itA_start hKl hse hi00 hlo0)⟩ ?_
  rintro ⟨i, hb, O1, t14_v, t15_v⟩ _ w40_ ⟨h, rfl, H41_, S42_, hil, hrun⟩
  refine C_seq (fun _ hK43_ => ?_)
  refine cR fun _ hK44_ => ?_
  refine sm (vI .i64 (i : Int)) ?_
  refine sm (vP (some ⟨t.a, 0, none⟩)) ?_
  refine sv (v := (vP (some ⟨t.a, 0, none⟩))) (by kernel_rfl) ?_
  refine sv (v := (vP (some ⟨t.a, 0, none⟩))) (by kernel_rfl) ?_
  refine sv (v := t.iv) (x_load1 rfl underlying76 rfl ((Holds.rd H41_ 2 rfl) 0 t.iv rfl)) ?_
  refine sv (v := (vI .i64 ((List.length t.xs) : Int))) (x_lenSl rfl H41_ 3 rfl underlying76) ?_
  refine sv (v := (vB (decide ((i : Int) < ((List.length t.xs) : Int))))) (x_bin rfl rfl rfl) ?_
  refine wn (hK44_ _ _ ?_)
  refine C_cond (b := decide ((i : Int) < ((List.length t.xs) : Int))) rfl (fun c45_t => ?_) (fun c45_f => ?_)
  ·have c45_tp : (i : Int) < ((List.length t.xs) : Int) := of_decide_eq_true c45_t
   obtain ⟨x_, hx_, _⟩ := elem_at t.xs i (by omega)
   have hxs_ : us = true → ss.key ≤ x_.key := hhi0 x_ (mem_dropI hx_ (by omega))
   obtain ⟨k0_, hk0_⟩ : ∃ k0 : List EL, k0 = [] := ⟨_, rfl⟩
   have hkK_ : (KR t.xs)[i]? = some k0_ := by rw [hk0_]; exact KR_at (by omega)
   have hq1_ : runA (stA ut pp) q.most (selA us ss ((preI (t.xs.take i) ((KR t.xs).take i)) ++ k0_)) O = (O1, true) := itA_kid hrun (by rw [hk0_]; rfl)
   have hbn_ := runA_bnd hrun
   have hpl_ := pre_len1 hKl hkK_ hx_
   refine C_skip (X_then (hK43_ _ _ ?_))
   refine C_seq (fun _ hK46_ => ?_)
   refine C_block ?_
   refine C_seq (fun _ hK47_ => ?_)
   refine cR fun _ hK48_ => ?_
   refine sm (vP (some ⟨t.a, 0, none⟩)) ?_
   refine sv (v := (vP (some ⟨t.a, 0, none⟩))) (by kernel_rfl) ?_
   refine sv (v := (vP (some ⟨t.a, 1, none⟩))) (by kernel_rfl) ?_
   refine sv (v := (vS none 0 0)) (x_load1 rfl underlying77 rfl ((Holds.rd H41_ 2 rfl) 1 (vS none 0 0) rfl)) ?_
   refine sv (v := (vI .i64 0)) (x_lenS rfl underlying77) ?_
   refine sv (v := (vB false)) (x_bin rfl rfl rfl) ?_
   refine wn (hK48_ _ _ ?_)
   refine C_condF rfl ?_
   refine C_skip (X_then (hK47_ _ _ ?_))
   refine C_cut (fun a__ w1__ => ∃ a5_v : Bool, ∃ h : Env, a__ = mkA 343 (upd (upd (upd (upd (upd (upd (upd (upd (upd (upd h 0 (vP (some ⟨t.a, 0, none⟩))) 1 (vI .i64 1)) 4 (vB us)) 5 (vB a5_v)) 6 (Value.func (.func 44) #[] #[(vP (some ⟨ob, 0, none⟩)), (vP (some ⟨pb, 0, none⟩))])) 9 (vP (some ⟨b4_, 0, none⟩))) 10 (vP (some ⟨b9_, 0, none⟩))) 14 (vB t14_v)) 15 (vB t15_v)) 19 (vI .i64 (i : Int))) [] ∧ Holds w1__ (cl b9_ 105 [(vI .i64 pp.key), (vI .i64 pp.val), (vB ut)] :: cl b4_ 105 [(vI .i64 ss.key), (vI .i64 ss.val), (vB us)] :: cl t.a 79 [t.iv, (vS none 0 0), (vP (some ⟨c, 0, none⟩))] :: sl 24 2 t.iv (List.length t.xs) (t.xs.flatMap EL.cells) :: ro R :: cl c 58 [(vP (some ⟨fl, 0, none⟩)), (Value.func (.func 16) #[] #[])] :: outP ob pb q O1 :: F) ∧ Same w w1__) ?_ ?_
   ·refine C_seq (fun _ hK52_ => ?_)
    refine A_start (S := fun w => Rd b4_ [(vI .i64 ss.key), (vI .i64 ss.val), (vB us)] w ∧ Rd t.a [t.iv, (vS none 0 0), (vP (some ⟨c, 0, none⟩))] w ∧ SlRd t.iv (t.xs.flatMap EL.cells) w ∧ Rd c [(vP (some ⟨fl, 0, none⟩)), (Value.func (.func 16) #[] #[])] w ∧ Sub R (hp w)) (N := 30) foll rfl rfl ?_
    have H53_ := Holds.drew_ H41_
    have hq54_ := And.intro (Holds.rd H53_ 1 rfl) (And.intro (Holds.rd H53_ 2 rfl) (And.intro (Holds.slrd H53_ 3 rfl) (And.intro (Holds.rd H53_ 5 rfl) ((Holds.ro_at H53_ 4 rfl)))))
    refine A_tk 0 (v := (vB us)) rfl (by kernel_rfl) (fun w hS => x_move rfl) hq54_ ?_
    refine A_tk 1 (v := (vB (!us))) rfl (by kernel_rfl) (fun w hS => x_not rfl) hq54_ ?_
    refine A_tk 2 (v := (vB (!us))) rfl (by kernel_rfl) (fun w hS => x_move rfl) hq54_ ?_
    rcases Bool.eq_false_or_eq_true (!us) with c55_t | c55_f
    ·skip
     refine A_tkY 3 (j := 2) (dj := 81) (b := true) (v := (vB hb)) rfl (by kernel_rfl) rfl rfl (congrArg vB c55_t) (fun w hS => x_move rfl) hq54_ ?_
     refine A_tkY 4 (j := 2) (dj := 81) (b := true) (v := (vB (!hb))) rfl (by kernel_rfl) rfl rfl (congrArg vB c55_t) (fun w hS => x_not rfl) hq54_ ?_
     refine A_tk 5 (v := (vB (!hb))) rfl (by kernel_rfl) (fun w hS => (x_pickT (congrArg vB c55_t) rfl)) hq54_ ?_
     refine A_tk 6 (v := (vB (!hb))) rfl (by kernel_rfl) (fun w hS => x_move rfl) hq54_ ?_
     rcases Bool.eq_false_or_eq_true (!hb) with c56_t | c56_f
     ·skip
      refine A_tkY 7 (j := 6) (dj := 85) (b := true) (v := (vP (some ⟨b4_, 2, none⟩))) rfl (by kernel_rfl) rfl rfl (congrArg vB c56_t) (fun w hS => by kernel_rfl) hq54_ ?_
      refine A_tkY 8 (j := 6) (dj := 85) (b := true) (v := (vB us)) rfl (by kernel_rfl) rfl rfl (congrArg vB c56_t) (fun w hS => x_load1 rfl underlying4 rfl (hS.1 2 (vB us) rfl)) hq54_ ?_
      refine A_tk 9 (v := (vB us)) rfl (by kernel_rfl) (fun w hS => (x_pickT (congrArg vB c56_t) rfl)) hq54_ ?_
      refine A_tk 10 (v := (vB us)) rfl (by kernel_rfl) (fun w hS => x_move rfl) hq54_ ?_
      rcases Bool.eq_false_or_eq_true (us) with c57_t | c57_f
      ·skip
       simp [c57_t] at c55_t
      ·skip
       refine A_tkN 11 (j := 10) (dj := 89) (b := false) rfl (by kernel_rfl) rfl rfl (congrArg vB c57_f) (by decide) hq54_ ?_
       refine A_tkN 12 (j := 10) (dj := 89) (b := false) rfl (by kernel_rfl) rfl rfl (congrArg vB c57_f) (by decide) hq54_ ?_
       refine A_tkN 13 (j := 10) (dj := 89) (b := false) rfl (by kernel_rfl) rfl rfl (congrArg vB c57_f) (by decide) hq54_ ?_
       refine A_tkN 14 (j := 10) (dj := 89) (b := false) rfl (by kernel_rfl) rfl rfl (congrArg vB c57_f) (by decide) hq54_ ?_
       refine A_tkN 15 (j := 10) (dj := 89) (b := false) rfl (by kernel_rfl) rfl rfl (congrArg vB c57_f) (by decide) hq54_ ?_
       refine A_tkN 16 (j := 10) (dj := 89) (b := false) rfl (by kernel_rfl) rfl rfl (congrArg vB c57_f) (by decide) hq54_ ?_
       refine A_tkN 17 (j := 10) (dj := 89) (b := false) rfl (by kernel_rfl) rfl rfl (congrArg vB c57_f) (by decide) hq54_ ?_
       refine A_tkN 18 (j := 10) (dj := 89) (b := false) rfl (by kernel_rfl) rfl rfl (congrArg vB c57_f) (by decide) hq54_ ?_
       refine A_tkN 19 (j := 10) (dj := 89) (b := false) rfl (by kernel_rfl) rfl rfl (congrArg vB c57_f) (by decide) hq54_ ?_
       refine A_tkN 20 (j := 10) (dj := 89) (b := false) rfl (by kernel_rfl) rfl rfl (congrArg vB c57_f) (by decide) hq54_ ?_
       refine A_tkN 21 (j := 10) (dj := 89) (b := false) rfl (by kernel_rfl) rfl rfl (congrArg vB c57_f) (by decide) hq54_ ?_
       refine A_tkN 22 (j := 10) (dj := 89) (b := false) rfl (by kernel_rfl) rfl rfl (congrArg vB c57_f) (by decide) hq54_ ?_
       refine A_tkN 23 (j := 10) (dj := 89) (b := false) rfl (by kernel_rfl) rfl rfl (congrArg vB c57_f) (by decide) hq54_ ?_
       refine A_tkN 24 (j := 10) (dj := 89) (b := false) rfl (by kernel_rfl) rfl rfl (congrArg vB c57_f) (by decide) hq54_ ?_
       refine A_tkN 25 (j := 10) (dj := 89) (b := false) rfl (by kernel_rfl) rfl rfl (congrArg vB c57_f) (by decide) hq54_ ?_
       refine A_tkN 26 (j := 10) (dj := 89) (b := false) rfl (by kernel_rfl) rfl rfl (congrArg vB c57_f) (by decide) hq54_ ?_
       refine A_tkN 27 (j := 10) (dj := 89) (b := false) rfl (by kernel_rfl) rfl rfl (congrArg vB c57_f) (by decide) hq54_ ?_
       refine A_tkN 28 (j := 10) (dj := 89) (b := false) rfl (by kernel_rfl) rfl rfl (congrArg vB c57_f) (by decide) hq54_ ?_
       refine A_tk 29 (v := (vB false)) rfl (by kernel_rfl) (fun w hS => (x_pickF (congrArg vB c57_f) rfl)) hq54_ ?_
       refine A_done (by kernel_rfl) ?_
       refine (X_then (hK52_ _ _ ?_))
       refine C_condF rfl ?_
       refine C_skip (X_then ?_)
       exact ⟨hb, _, congrArg (fun e => mkA 343 e []) (ch (ch (ch (ch (ch (ch (ch (ch (ch (ch rfl rfl) rfl) rfl) rfl) rfl) rfl) rfl) rfl) rfl) rfl), H53_, (Same.trans S42_ (Same.drew _))⟩
     ·skip
      refine A_tkN 7 (j := 6) (dj := 85) (b := false) rfl (by kernel_rfl) rfl rfl (congrArg vB c56_f) (by decide) hq54_ ?_
      refine A_tkN 8 (j := 6) (dj := 85) (b := false) rfl (by kernel_rfl) rfl rfl (congrArg vB c56_f) (by decide) hq54_ ?_
      refine A_tk 9 (v := (vB false)) rfl (by kernel_rfl) (fun w hS => (x_pickF (congrArg vB c56_f) rfl)) hq54_ ?_
      refine A_tk 10 (v := (vB false)) rfl (by kernel_rfl) (fun w hS => x_move rfl) hq54_ ?_
      refine A_tkN 11 (j := 10) (dj := 89) (b := false) rfl (by kernel_rfl) rfl rfl rfl (by decide) hq54_ ?_
      refine A_tkN 12 (j := 10) (dj := 89) (b := false) rfl (by kernel_rfl) rfl rfl rfl (by decide) hq54_ ?_
      refine A_tkN 13 (j := 10) (dj := 89) (b := false) rfl (by kernel_rfl) rfl rfl rfl (by decide) hq54_ ?_
      refine A_tkN 14 (j := 10) (dj := 89) (b := false) rfl (by kernel_rfl) rfl rfl rfl (by decide) hq54_ ?_
      refine A_tkN 15 (j := 10) (dj := 89) (b := false) rfl (by kernel_rfl) rfl rfl rfl (by decide) hq54_ ?_
      refine A_tkN 16 (j := 10) (dj := 89) (b := false) rfl (by kernel_rfl) rfl rfl rfl (by decide) hq54_ ?_
      refine A_tkN 17 (j := 10) (dj := 89) (b := false) rfl (by kernel_rfl) rfl rfl rfl (by decide) hq54_ ?_
      refine A_tkN 18 (j := 10) (dj := 89) (b := false) rfl (by kernel_rfl) rfl rfl rfl (by decide) hq54_ ?_
      refine A_tkN 19 (j := 10) (dj := 89) (b := false) rfl (by kernel_rfl) rfl rfl rfl (by decide) hq54_ ?_
      refine A_tkN 20 (j := 10) (dj := 89) (b := false) rfl (by kernel_rfl) rfl rfl rfl (by decide) hq54_ ?_
      refine A_tkN 21 (j := 10) (dj := 89) (b := false) rfl (by kernel_rfl) rfl rfl rfl (by decide) hq54_ ?_
      refine A_tkN 22 (j := 10) (dj := 89) (b := false) rfl (by kernel_rfl) rfl rfl rfl (by decide) hq54_ ?_
      refine A_tkN 23 (j := 10) (dj := 89) (b := false) rfl (by kernel_rfl) rfl rfl rfl (by decide) hq54_ ?_
      refine A_tkN 24 (j := 10) (dj := 89) (b := false) rfl (by kernel_rfl) rfl rfl rfl (by decide) hq54_ ?_
      refine A_tkN 25 (j := 10) (dj := 89) (b := false) rfl (by kernel_rfl) rfl rfl rfl (by decide) hq54_ ?_
      refine A_tkN 26 (j := 10) (dj := 89) (b := false) rfl (by kernel_rfl) rfl rfl rfl (by decide) hq54_ ?_
      refine A_tkN 27 (j := 10) (dj := 89) (b := false) rfl (by kernel_rfl) rfl rfl rfl (by decide) hq54_ ?_
      refine A_tkN 28 (j := 10) (dj := 89) (b := false) rfl (by kernel_rfl) rfl rfl rfl (by decide) hq54_ ?_
      refine A_tk 29 (v := (vB false)) rfl (by kernel_rfl) (fun w hS => (x_pickF rfl rfl)) hq54_ ?_
      refine A_done (by kernel_rfl) ?_
      refine (X_then (hK52_ _ _ ?_))
      refine C_condF rfl ?_
      refine C_skip (X_then ?_)
      exact ⟨hb, _, congrArg (fun e => mkA 343 e []) (ch (ch (ch (ch (ch (ch (ch (ch (ch (ch rfl rfl) rfl) rfl) rfl) rfl) rfl) rfl) rfl) rfl) rfl), H53_, (Same.trans S42_ (Same.drew _))⟩
    ·skip
     refine A_tkN 3 (j := 2) (dj := 81) (b := false) rfl (by kernel_rfl) rfl rfl (congrArg vB c55_f) (by decide) hq54_ ?_
     refine A_tkN 4 (j := 2) (dj := 81) (b := false) rfl (by kernel_rfl) rfl rfl (congrArg vB c55_f) (by decide) hq54_ ?_
     refine A_tk 5 (v := (vB false)) rfl (by kernel_rfl) (fun w hS => (x_pickF (congrArg vB c55_f) rfl)) hq54_ ?_
     refine A_tk 6 (v := (vB false)) rfl (by kernel_rfl) (fun w hS => x_move rfl) hq54_ ?_
     refine A_tkN 7 (j := 6) (dj := 85) (b := false) rfl (by kernel_rfl) rfl rfl rfl (by decide) hq54_ ?_
     refine A_tkN 8 (j := 6) (dj := 85) (b := false) rfl (by kernel_rfl) rfl rfl rfl (by decide) hq54_ ?_
     refine A_tk 9 (v := (vB false)) rfl (by kernel_rfl) (fun w hS => (x_pickF rfl rfl)) hq54_ ?_
     refine A_tk 10 (v := (vB false)) rfl (by kernel_rfl) (fun w hS => x_move rfl) hq54_ ?_
     refine A_tkN 11 (j := 10) (dj := 89) (b := false) rfl (by kernel_rfl) rfl rfl rfl (by decide) hq54_ ?_
     refine A_tkN 12 (j := 10) (dj := 89) (b := false) rfl (by kernel_rfl) rfl rfl rfl (by decide) hq54_ ?_
     refine A_tkN 13 (j := 10) (dj := 89) (b := false) rfl (by kernel_rfl) rfl rfl rfl (by decide) hq54_ ?_
     refine A_tkN 14 (j := 10) (dj := 89) (b := false) rfl (by kernel_rfl) rfl rfl rfl (by decide) hq54_ ?_
     refine A_tkN 15 (j := 10) (dj := 89) (b := false) rfl (by kernel_rfl) rfl rfl rfl (by decide) hq54_ ?_
     refine A_tkN 16 (j := 10) (dj := 89) (b := false) rfl (by kernel_rfl) rfl rfl rfl (by decide) hq54_ ?_
     refine A_tkN 17 (j := 10) (dj := 89) (b := false) rfl (by kernel_rfl) rfl rfl rfl (by decide) hq54_ ?_
     refine A_tkN 18 (j := 10) (dj := 89) (b := false) rfl (by kernel_rfl) rfl rfl rfl (by decide) hq54_ ?_
     refine A_tkN 19 (j := 10) (dj := 89) (b := false) rfl (by kernel_rfl) rfl rfl rfl (by decide) hq54_ ?_
     refine A_tkN 20 (j := 10) (dj := 89) (b := false) rfl (by kernel_rfl) rfl rfl rfl (by decide) hq54_ ?_
     refine A_tkN 21 (j := 10) (dj := 89) (b := false) rfl (by kernel_rfl) rfl rfl rfl (by decide) hq54_ ?_
     refine A_tkN 22 (j := 10) (dj := 89) (b := false) rfl (by kernel_rfl) rfl rfl rfl (by decide) hq54_ ?_
     refine A_tkN 23 (j := 10) (dj := 89) (b := false) rfl (by kernel_rfl) rfl rfl rfl (by decide) hq54_ ?_
     refine A_tkN 24 (j := 10) (dj := 89) (b := false) rfl (by kernel_rfl) rfl rfl rfl (by decide) hq54_ ?_
     refine A_tkN 25 (j := 10) (dj := 89) (b := false) rfl (by kernel_rfl) rfl rfl rfl (by decide) hq54_ ?_
     refine A_tkN 26 (j := 10) (dj := 89) (b := false) rfl (by kernel_rfl) rfl rfl rfl (by decide) hq54_ ?_
     refine A_tkN 27 (j := 10) (dj := 89) (b := false) rfl (by kernel_rfl) rfl rfl rfl (by decide) hq54_ ?_
     refine A_tkN 28 (j := 10) (dj := 89) (b := false) rfl (by kernel_rfl) rfl rfl rfl (by decide) hq54_ ?_
     refine A_tk 29 (v := (vB false)) rfl (by kernel_rfl) (fun w hS => (x_pickF rfl rfl)) hq54_ ?_
     refine A_done (by kernel_rfl) ?_
     refine (X_then (hK52_ _ _ ?_))
     refine C_condF rfl ?_
     refine C_skip (X_then ?_)
     exact ⟨hb, _, congrArg (fun e => mkA 343 e []) (ch (ch (ch (ch (ch (ch (ch (ch (ch (ch rfl rfl) rfl) rfl) rfl) rfl) rfl) rfl) rfl) rfl) rfl), H53_, (Same.trans S42_ (Same.drew _))⟩
   ·rintro _ w49_ ⟨a5_v, h, rfl, H50_, S51_⟩
    refine cR fun _ hK58_ => ?_
    refine sv (v := (vB true)) (x_assign rfl) ?_
    refine wn (hK58_ _ _ ?_)
    refine C_cut (fun a__ w1__ => ∃ t14_v : Bool, ∃ t15_v : Bool, ∃ h : Env, a__ = mkA 343 (upd (upd (upd (upd (upd (upd (upd (upd (upd (upd h 0 (vP (some ⟨t.a, 0, none⟩))) 1 (vI .i64 1)) 4 (vB us)) 5 (vB true)) 6 (Value.func (.func 44) #[] #[(vP (some ⟨ob, 0, none⟩)), (vP (some ⟨pb, 0, none⟩))])) 9 (vP (some ⟨b4_, 0, none⟩))) 10 (vP (some ⟨b9_, 0, none⟩))) 14 (vB t14_v)) 15 (vB t15_v)) 19 (vI .i64 (i : Int))) [] ∧ Holds w1__ (cl b9_ 105 [(vI .i64 pp.key), (vI .i64 pp.val), (vB ut)] :: cl b4_ 105 [(vI .i64 ss.key), (vI .i64 ss.val), (vB us)] :: cl t.a 79 [t.iv, (vS none 0 0), (vP (some ⟨c, 0, none⟩))] :: sl 24 2 t.iv (List.length t.xs) (t.xs.flatMap EL.cells) :: ro R :: cl c 58 [(vP (some ⟨fl, 0, none⟩)), (Value.func (.func 16) #[] #[])] :: outP ob pb q O1 :: F) ∧ Same w w1__ ∧ ((stA ut pp x_) = false)) ?_ ?_
    ·refine C_seq (fun _ hK62_ => ?_)
     refine A_start (S := fun w => Rd b9_ [(vI .i64 pp.key), (vI .i64 pp.val), (vB ut)] w ∧ Rd t.a [t.iv, (vS none 0 0), (vP (some ⟨c, 0, none⟩))] w ∧ SlRd t.iv (t.xs.flatMap EL.cells) w ∧ Rd c [(vP (some ⟨fl, 0, none⟩)), (Value.func (.func 16) #[] #[])] w ∧ Sub R (hp w)) (N := 22) foll rfl rfl ?_
     have H63_ := Holds.drew_ H50_
     have hq64_ := And.intro (Holds.rd H63_ 0 rfl) (And.intro (Holds.rd H63_ 2 rfl) (And.intro (Holds.slrd H63_ 3 rfl) (And.intro (Holds.rd H63_ 5 rfl) ((Holds.ro_at H63_ 4 rfl)))))
     refine A_tk 0 (v := (vP (some ⟨b9_, 2, none⟩))) rfl (by kernel_rfl) (fun w hS => by kernel_rfl) hq64_ ?_
     refine A_tk 1 (v := (vB ut)) rfl (by kernel_rfl) (fun w hS => x_load1 rfl underlying4 rfl (hS.1 2 (vB ut) rfl)) hq64_ ?_
     refine A_tk 2 (v := (vB ut)) rfl (by kernel_rfl) (fun w hS => x_move rfl) hq64_ ?_
     rcases Bool.eq_false_or_eq_true (ut) with c65_t | c65_f
     ·skip
      refine A_tkY 3 (j := 2) (dj := 111) (b := true) (v := (vP (some ⟨t.a, 0, none⟩))) rfl (by kernel_rfl) rfl rfl (congrArg vB c65_t) (fun w hS => x_move rfl) hq64_ ?_
      refine A_tkY 4 (j := 2) (dj := 111) (b := true) (v := (vP (some ⟨t.a, 0, none⟩))) rfl (by kernel_rfl) rfl rfl (congrArg vB c65_t) (fun w hS => by kernel_rfl) hq64_ ?_
      refine A_tkY 5 (j := 2) (dj := 111) (b := true) (v := (vP (some ⟨t.a, 2, none⟩))) rfl (by kernel_rfl) rfl rfl (congrArg vB c65_t) (fun w hS => by kernel_rfl) hq64_ ?_
      refine A_tkY 6 (j := 2) (dj := 111) (b := true) (v := (vP (some ⟨c, 0, none⟩))) rfl (by kernel_rfl) rfl rfl (congrArg vB c65_t) (fun w hS => x_load1 rfl underlying60 rfl (hS.2.1 2 (vP (some ⟨c, 0, none⟩)) rfl)) hq64_ ?_
      refine A_tkY 7 (j := 2) (dj := 111) (b := true) (v := (vP (some ⟨c, 0, none⟩))) rfl (by kernel_rfl) rfl rfl (congrArg vB c65_t) (fun w hS => by kernel_rfl) hq64_ ?_
      refine A_tkY 8 (j := 2) (dj := 111) (b := true) (v := (vP (some ⟨c, 1, none⟩))) rfl (by kernel_rfl) rfl rfl (congrArg vB c65_t) (fun w hS => by kernel_rfl) hq64_ ?_
      refine A_tkY 9 (j := 2) (dj := 111) (b := true) (v := (Value.func (.func 16) #[] #[])) rfl (by kernel_rfl) rfl rfl (congrArg vB c65_t) (fun w hS => x_load1 rfl underlying53 rfl (hS.2.2.2.1 1 (Value.func (.func 16) #[] #[]) rfl)) hq64_ ?_
      refine A_tkY 10 (j := 2) (dj := 111) (b := true) (v := (vP (some ⟨t.a, 0, none⟩))) rfl (by kernel_rfl) rfl rfl (congrArg vB c65_t) (fun w hS => x_move rfl) hq64_ ?_
      refine A_tkY 11 (j := 2) (dj := 111) (b := true) (v := (vP (some ⟨t.a, 0, none⟩))) rfl (by kernel_rfl) rfl rfl (congrArg vB c65_t) (fun w hS => by kernel_rfl) hq64_ ?_
      refine A_tkY 12 (j := 2) (dj := 111) (b := true) (v := (vP (some ⟨t.a, 0, none⟩))) rfl (by kernel_rfl) rfl rfl (congrArg vB c65_t) (fun w hS => by kernel_rfl) hq64_ ?_
      refine A_tkY 13 (j := 2) (dj := 111) (b := true) (v := t.iv) rfl (by kernel_rfl) rfl rfl (congrArg vB c65_t) (fun w hS => x_load1 rfl underlying76 rfl (hS.2.1 0 t.iv rfl)) hq64_ ?_
      refine A_tkY 14 (j := 2) (dj := 111) (b := true) (v := (vI .i64 (i : Int))) rfl (by kernel_rfl) rfl rfl (congrArg vB c65_t) (fun w hS => x_move rfl) hq64_ ?_
      have hr66_ := Holds.sl_RSw H63_ 3 rfl
      refine A_tkY 15 (j := 2) (dj := 111) (b := true) (v := (vP (some ⟨(sb t.iv), so t.iv + (i * 2 + 0), none⟩))) rfl (by kernel_rfl) rfl rfl (congrArg vB c65_t) (fun w hS => x_idxSlR (v := t.iv) rfl hr66_ rfl underlying76 z24 (by omega) (by omega) (by omega : _ = i) rfl) hq64_ ?_
      refine A_tkY 16 (j := 2) (dj := 111) (b := true) (v := (vA #[(vI .i64 x_.key), (vI .i64 x_.val)])) rfl (by kernel_rfl) rfl rfl (congrArg vB c65_t) (fun w hS => x_loadN (vs := [(vI .i64 x_.key), (vI .i64 x_.val)]) rfl underlying24 rfl z24 rfl (SlRd.cells hS.2.2.1 (i * 2 + 0) (fm_cells EL.len hx_ (i := 0) rfl))) hq64_ ?_
      refine A_tkY 17 (j := 2) (dj := 111) (b := true) (v := (vP (some ⟨b9_, 0, none⟩))) rfl (by kernel_rfl) rfl rfl (congrArg vB c65_t) (fun w hS => by kernel_rfl) hq64_ ?_
      refine A_tkY 18 (j := 2) (dj := 111) (b := true) (v := (vA #[(vI .i64 pp.key), (vI .i64 pp.val)])) rfl (by kernel_rfl) rfl rfl (congrArg vB c65_t) (fun w hS => x_loadN (vs := [(vI .i64 pp.key), (vI .i64 pp.val)]) rfl underlying24 rfl z24 rfl (Rd.cells hS.1 0 rfl)) hq64_ ?_
      refine A_ready (i := 19) (rs := []) (by kernel_rfl) ?_
      refine AllR.cons ?_ AllR.nil
      have H68_ := ((Holds.bring H63_ 4 rfl) :)
      refine A_opYes (ls' := #[true, true, true, true, true, true, true, true, true, true, true, true, true, true, true, true, true, true, true, true, false, false]) (j := 2) (dj := 111) (b := true) rfl (by kernel_rfl) rfl rfl (congrArg vB c65_t) (T_call (al := [(vA #[(vI .i64 x_.key), (vI .i64 x_.val)]), (vA #[(vI .i64 pp.key), (vI .i64 pp.val)])]) (pre := []) rfl rfl cb16 (btLess R x_ pp) H68_ ?_)
      rintro v67_ p72_ w69_ ⟨rfl, rfl⟩ S71_ H70_
      have S73_ := Same.trans (Same.trans S51_ (Same.drew _)) S71_
      refine ⟨⟨Holds.rd H70_ 1 rfl, Holds.rd H70_ 3 rfl, Holds.slrd H70_ 4 rfl, Holds.rd H70_ 5 rfl, (Holds.ro_at H70_ 0 rfl)⟩, ?_⟩
      have hq74_ := And.intro (Holds.rd H70_ 1 rfl) (And.intro (Holds.rd H70_ 3 rfl) (And.intro (Holds.slrd H70_ 4 rfl) (And.intro (Holds.rd H70_ 5 rfl) ((Holds.ro_at H70_ 0 rfl)))))
      refine A_tkY 20 (j := 2) (dj := 111) (b := true) (v := (vB (decide (¬ (x_.key < pp.key))))) rfl (by kernel_rfl) rfl rfl (congrArg vB c65_t) (fun w hS => x_notP rfl) hq74_ ?_
      refine A_tk 21 (v := (vB (decide (¬ (x_.key < pp.key))))) rfl (by kernel_rfl) (fun w hS => (x_pickT (congrArg vB c65_t) rfl)) hq74_ ?_
      refine A_done (by kernel_rfl) ?_
      refine (X_then (hK62_ _ _ ?_))
      refine C_cond (b := decide (¬ (x_.key < pp.key))) rfl (fun c75_t => ?_) (fun c75_f => ?_)
      ·have c75_tp : ¬ (x_.key < pp.key) := of_decide_eq_true c75_t
       refine cR fun _ hK76_ => ?_
       refine sm (vB true) ?_
       refine sv (v := (vB true)) (x_assign rfl) ?_
       refine sv (v := (vB false)) (x_assign rfl) ?_
       refine wn (hK76_ _ _ ?_)
       refine C_ret (X_thenR (X_blkR (X_thenR (X_thenR (X_blkR (X_thenR (X_blkR (X_thenR ?_))))))))
       refine R_any (v := (vT #[(vB true), (vB false)])) (run_results2 rfl rfl rfl) ?_
       have H77_ := ((Holds.bring (Holds.bring H70_ 4 rfl) 4 rfl) :)
       have H78_ := Holds.leaf_in (t := t) H77_
       have H79_ := Holds.pkF H78_ [1, 0, 2, 2] 2
       exact ⟨_, _, rfl, ⟨true, false, O1, rfl, rfl, (by have hz__ := finA_item hKl hkK_ hx_ (itA_stop hq1_ hxs_ (by simp [stA, c65_t]; have hz__ := c75_tp; omega)); rw [KR_inter] at hz__; exact hz__)⟩, S73_, H79_⟩
      ·have c75_fp : ¬ (¬ (x_.key < pp.key)) := of_decide_eq_false c75_f
       refine C_skip (X_then ?_)
       have H80_ := Holds.pkF H70_ [1, 1, 1, 1, 0, 0, 0] 0
       exact ⟨t14_v, t15_v, _, congrArg (fun e => mkA 343 e []) (ch (ch (ch (ch (ch (ch (ch (ch (ch (ch rfl rfl) rfl) rfl) rfl) rfl) rfl) rfl) rfl) rfl) rfl), H80_, S73_, (by simp [stA]; have hz__ := c75_fp; omega)⟩
     ·skip
      refine A_tkN 3 (j := 2) (dj := 111) (b := false) rfl (by kernel_rfl) rfl rfl (congrArg vB c65_f) (by decide) hq64_ ?_
      refine A_tkN 4 (j := 2) (dj := 111) (b := false) rfl (by kernel_rfl) rfl rfl (congrArg vB c65_f) (by decide) hq64_ ?_
      refine A_tkN 5 (j := 2) (dj := 111) (b := false) rfl (by kernel_rfl) rfl rfl (congrArg vB c65_f) (by decide) hq64_ ?_
      refine A_tkN 6 (j := 2) (dj := 111) (b := false) rfl (by kernel_rfl) rfl rfl (congrArg vB c65_f) (by decide) hq64_ ?_
      refine A_tkN 7 (j := 2) (dj := 111) (b := false) rfl (by kernel_rfl) rfl rfl (congrArg vB c65_f) (by decide) hq64_ ?_
      refine A_tkN 8 (j := 2) (dj := 111) (b := false) rfl (by kernel_rfl) rfl rfl (congrArg vB c65_f) (by decide) hq64_ ?_
      refine A_tkN 9 (j := 2) (dj := 111) (b := false) rfl (by kernel_rfl) rfl rfl (congrArg vB c65_f) (by decide) hq64_ ?_
      refine A_tkN 10 (j := 2) (dj := 111) (b := false) rfl (by kernel_rfl) rfl rfl (congrArg vB c65_f) (by decide) hq64_ ?_
      refine A_tkN 11 (j := 2) (dj := 111) (b := false) rfl (by kernel_rfl) rfl rfl (congrArg vB c65_f) (by decide) hq64_ ?_
      refine A_tkN 12 (j := 2) (dj := 111) (b := false) rfl (by kernel_rfl) rfl rfl (congrArg vB c65_f) (by decide) hq64_ ?_
      refine A_tkN 13 (j := 2) (dj := 111) (b := false) rfl (by kernel_rfl) rfl rfl (congrArg vB c65_f) (by decide) hq64_ ?_
      refine A_tkN 14 (j := 2) (dj := 111) (b := false) rfl (by kernel_rfl) rfl rfl (congrArg vB c65_f) (by decide) hq64_ ?_
      refine A_tkN 15 (j := 2) (dj := 111) (b := false) rfl (by kernel_rfl) rfl rfl (congrArg vB c65_f) (by decide) hq64_ ?_
      refine A_tkN 16 (j := 2) (dj := 111) (b := false) rfl (by kernel_rfl) rfl rfl (congrArg vB c65_f) (by decide) hq64_ ?_
      refine A_tkN 17 (j := 2) (dj := 111) (b := false) rfl (by kernel_rfl) rfl rfl (congrArg vB c65_f) (by decide) hq64_ ?_
      refine A_tkN 18 (j := 2) (dj := 111) (b := false) rfl (by kernel_rfl) rfl rfl (congrArg vB c65_f) (by decide) hq64_ ?_
      refine A_tkN 19 (j := 2) (dj := 111) (b := false) rfl (by kernel_rfl) rfl rfl (congrArg vB c65_f) (by decide) hq64_ ?_
      refine A_tkN 20 (j := 2) (dj := 111) (b := false) rfl (by kernel_rfl) rfl rfl (congrArg vB c65_f) (by decide) hq64_ ?_
      refine A_tk 21 (v := (vB false)) rfl (by kernel_rfl) (fun w hS => (x_pickF (congrArg vB c65_f) rfl)) hq64_ ?_
      refine A_done (by kernel_rfl) ?_
      refine (X_then (hK62_ _ _ ?_))
      refine C_condF rfl ?_
      refine C_skip (X_then ?_)
      exact ⟨t14_v, t15_v, _, congrArg (fun e => mkA 343 e []) (ch (ch (ch (ch (ch (ch (ch (ch (ch (ch rfl rfl) rfl) rfl) rfl) rfl) rfl) rfl) rfl) rfl) rfl), H63_, (Same.trans S51_ (Same.drew _)), (by simp [stA, c65_f])⟩
    ·rintro _ w59_ ⟨t14_v, t15_v, h, rfl, H60_, S61_, hst_⟩
     refine cR fun _ hK81_ => ?_
     refine sm (Value.func (.func 44) #[] #[(vP (some ⟨ob, 0, none⟩)), (vP (some ⟨pb, 0, none⟩))]) ?_
     refine sm (vP (some ⟨t.a, 0, none⟩)) ?_
     refine sv (v := (vP (some ⟨t.a, 0, none⟩))) (by kernel_rfl) ?_
     refine sv (v := (vP (some ⟨t.a, 0, none⟩))) (by kernel_rfl) ?_
     refine sv (v := t.iv) (x_load1 rfl underlying76 rfl ((Holds.rd H60_ 2 rfl) 0 t.iv rfl)) ?_
     refine sm (vI .i64 (i : Int)) ?_
     have hr82_ := Holds.sl_RSw H60_ 3 rfl
     refine sv (v := (vP (some ⟨(sb t.iv), so t.iv + (i * 2 + 0), none⟩))) (x_idxSlR (v := t.iv) rfl hr82_ rfl underlying76 z24 (by omega) (by omega) (by omega : _ = i) rfl) ?_
     refine sv (v := (vA #[(vI .i64 x_.key), (vI .i64 x_.val)])) (x_loadN (vs := [(vI .i64 x_.key), (vI .i64 x_.val)]) rfl underlying24 rfl z24 rfl (SlRd.cells (Holds.slrd H60_ 3 rfl) (i * 2 + 0) (fm_cells EL.len hx_ (i := 0) rfl))) ?_
     have hq2_ := itA_item hq1_ hxs_ hst_
     have hbv_ := runA_bnd hq1_
     simp only [List.length_append] at hbv_
     have H84_ := ((Holds.bring (Holds.bring H60_ 6 rfl) 5 rfl) :)
     refine S_list (T_call (al := [(vA #[(vI .i64 x_.key), (vI .i64 x_.val)]), (vP (some ⟨ob, 0, none⟩)), (vP (some ⟨pb, 0, none⟩))]) (pre := [outP ob pb q O1]) rfl rfl cb44 (btVis R ob pb q O1 x_ (by omega)) H84_ ?_)
     rintro v83_ p88_ w85_ ⟨rfl, rfl⟩ S87_ H86_
     have S89_ := Same.trans S61_ S87_
     refine sv (v := (vB (!(moreB q.most (O1 ++ [x_]))))) (x_not rfl) ?_
     refine wn (hK81_ _ _ ?_)
     refine C_cond (b := !(moreB q.most (O1 ++ [x_]))) rfl (fun c90_t => ?_) (fun c90_f => ?_)
     ·skip
      refine cR fun _ hK91_ => ?_
      refine sm (vB true) ?_
      refine sv (v := (vB true)) (x_assign rfl) ?_
      refine sv (v := (vB false)) (x_assign rfl) ?_
      refine wn (hK91_ _ _ ?_)
      refine C_ret (X_blkR (X_thenR (X_thenR (X_blkR (X_thenR (X_blkR (X_thenR ?_)))))))
      refine R_any (v := (vT #[(vB true), (vB false)])) (run_results2 rfl rfl rfl) ?_
      have H92_ := ((Holds.bring (Holds.bring H86_ 5 rfl) 5 rfl) :)
      have H93_ := Holds.leaf_in (t := t) H92_
      have H94_ := Holds.pkF H93_ [1, 0, 3, 0] 2
      exact ⟨_, _, rfl, ⟨true, false, (O1 ++ [x_]), rfl, rfl, (by have hz__ := finA_item hKl hkK_ hx_ (hq2_.trans (by rw [show moreB q.most (O1 ++ [x_]) = false by simpa using c90_t])); rw [KR_inter] at hz__; exact hz__)⟩, S89_, H94_⟩
     ·skip
      refine C_skip (X_blkN (X_then (hK46_ _ _ ?_)))
      refine C_reg ?_
      refine sm (vI .i64 (i : Int)) ?_
      refine sv (v := (vI .i64 ((i : Int) + 1))) (x_bin rfl rfl (ib_add (IntWalk.i64_in _ (by omega)))) ?_
      refine sv (v := (vI .i64 ((i : Int) + 1))) (x_assign rfl) ?_
      refine wpList_nil (X_then ?_)
      have H95_ := Holds.pkF H86_ [2, 2, 2, 2, 0, 1, 0] 0
      exact ⟨⟨i + 1, true, (O1 ++ [x_]), t14_v, t15_v⟩, ⟨_, congrArg (fun e => mkA 343 e []) (ch (ch (ch (ch (ch (ch (ch (ch (ch (ch rfl rfl) rfl) rfl) rfl) rfl) rfl) rfl) rfl) rfl) (congrArg (vI .i64) ((by first | rfl | omega | (simp; done) | (simp; omega)) : (i : Int) + 1 = ((i + 1 : Nat) : Int)))), H95_, S89_, (⟨by omega, by omega⟩), (nextA hkK_ hx_ (hq2_.trans (by rw [show moreB q.most (O1 ++ [x_]) = true by simpa using c90_f])))⟩, by first | omega | (dsimp only; omega) | (simp; omega)⟩
  ·have c45_fp : ¬ ((i : Int) < ((List.length t.xs) : Int)) := of_decide_eq_false c45_f
   have hie_ : i = t.xs.length := by omega
   obtain ⟨k0_, hk0_⟩ : ∃ k0 : List EL, k0 = [] := ⟨_, rfl⟩
   have hkK_ : (KR t.xs)[i]? = some k0_ := by rw [hk0_]; exact KR_at (by omega)
   have hq1_ : runA (stA ut pp) q.most (selA us ss ((preI (t.xs.take i) ((KR t.xs).take i)) ++ k0_)) O = (O1, true) := itA_kid hrun (by rw [hk0_]; rfl)
   have hbn_ := runA_bnd hrun
   have hpl_ := pre_len hKl hkK_
   refine C_exit (X_thenX (X_thenX (X_blkHit ?_)))
   refine (X_then (hK38_ _ _ ?_))
   refine cR fun _ hK96_ => ?_
   refine sm (vP (some ⟨t.a, 0, none⟩)) ?_
   refine sv (v := (vP (some ⟨t.a, 0, none⟩))) (by kernel_rfl) ?_
   refine sv (v := (vP (some ⟨t.a, 1, none⟩))) (by kernel_rfl) ?_
   refine sv (v := (vS none 0 0)) (x_load1 rfl underlying77 rfl ((Holds.rd H41_ 2 rfl) 1 (vS none 0 0) rfl)) ?_
   refine sv (v := (vI .i64 0)) (x_lenS rfl underlying77) ?_
   refine sv (v := (vB false)) (x_bin rfl rfl rfl) ?_
   refine wn (hK96_ _ _ ?_)
   refine C_condF rfl ?_
   refine C_skip (X_blkN (X_then (hK16_ _ _ ?_)))
   refine cR fun _ hK97_ => ?_
   refine sm (vB hb) ?_
   refine sv (v := (vB hb)) (x_assign rfl) ?_
   refine sv (v := (vB true)) (x_assign rfl) ?_
   refine wn (hK97_ _ _ ?_)
   refine C_ret ?_
   refine R_any (v := (vT #[(vB hb), (vB true)])) (run_results2 rfl rfl rfl) ?_
   have H98_ := ((Holds.bring (Holds.bring H41_ 3 rfl) 3 rfl) :)
   have H99_ := Holds.leaf_in (t := t) H98_
   have H100_ := Holds.pkF H99_ [3, 0, 2, 2] 2
   exact ⟨_, _, rfl, ⟨hb, true, O1, rfl, rfl, (by have hz__ := finA hKl hie_ hkK_ hq1_; rw [KR_inter] at hz__; exact hz__)⟩, S42_, H100_⟩
end Go.Proofs.Ytdfjdmmmlidamaa
set_option linter.unusedVariables false
set_option linter.unusedSimpArgs false
namespace Go.Proofs.Ytdfjdmmmlidamaa
open Go Go.RowKit Gw Try
open Go.Value renaming int → vI, bool → vB, slice → vS, pointer → vP, agg → vA, tuple → vT

set_option maxHeartbeats 16000000 in
theorem itD0 (R : HP) (c fl : Nat) (t : BN) (ss pp : EL) (us ut hit : Bool) (ob pb : Nat) (q : BO) (O : List EL) (hs : SrtE t.xs) (hn : t.xs.length ≤ 100000) (hO : O.length + t.xs.length ≤ 1000000) (hh : hit = true → us = true → ∀ y ∈ t.xs, y.key < ss.key) :
    Tri Try.prog 63 #[(vP (some ⟨t.a, 0, none⟩)), (vI .i64 (-1)), (vA #[(vI .i64 ss.key), (vI .i64 ss.val), (vB us)]), (vA #[(vI .i64 pp.key), (vI .i64 pp.val), (vB ut)]), (vB us), (vB hit), (Value.func (.func 44) #[] #[(vP (some ⟨ob, 0, none⟩)), (vP (some ⟨pb, 0, none⟩))])] R [btp c (leafB t), cl c 58 [(vP (some ⟨fl, 0, none⟩)), (Value.func (.func 16) #[] #[])], outP ob pb q O] (fun v__ post__ => ∃ (h' ok : Bool) (O' : List EL), v__ = (vT #[(vB h'), (vB ok)]) ∧ post__ = [btp c (leafB t), cl c 58 [(vP (some ⟨fl, 0, none⟩)), (Value.func (.func 16) #[] #[])], outP ob pb q O'] ∧ (runA (stD ut pp) q.most (selD us ss t.xs) O = (O', ok))) := by
 have hKl : (KR t.xs).length = t.xs.length + 1 := KR_len t.xs
 have hse : SrtE (inter t.xs (KR t.xs)) := by rw [KR_inter]; exact hs
 have hel : (inter t.xs (KR t.xs)).length ≤ 100000 ∧ O.length + (inter t.xs (KR t.xs)).length ≤ 1000000 := by rw [KR_inter]; exact ⟨hn, hO⟩
 have hso := hs
 have hn2 : t.xs.length ≤ 1000000 := by omega
 have hhe : hit = true → us = true → ∀ y ∈ inter t.xs (KR t.xs), y.key < ss.key := by rw [KR_inter]; exact hh
 refine Tri.into (n := 343) (al := [(vP (some ⟨t.a, 0, none⟩)), (vI .i64 (-1)), (vA #[(vI .i64 ss.key), (vI .i64 ss.val), (vB us)]), (vA #[(vI .i64 pp.key), (vI .i64 pp.val), (vB ut)]), (vB us), (vB hit), (Value.func (.func 44) #[] #[(vP (some ⟨ob, 0, none⟩)), (vP (some ⟨pb, 0, none⟩))])]) func63 rfl ntmps63 rfl rfl fun w F H => ?_
 have H1_ := ((Holds.bring H 1 rfl) :)
 have H2_ := Holds.leafO H1_
 refine cR fun _ hK3_ => ?_
 refine S_list (T_box (v := (vA #[(vI .i64 ss.key), (vI .i64 ss.val), (vB us)])) rfl H2_ ?_)
 intro b4_ w5_ S7_ H6_
 have S8_ := Same.trans (Same.refl w) S7_
 refine S_list (T_box (v := (vA #[(vI .i64 pp.key), (vI .i64 pp.val), (vB ut)])) rfl H6_ ?_)
 intro b9_ w10_ S12_ H11_
 have S13_ := Same.trans S8_ S12_
 refine sv (v := (vB false)) (x_assign rfl) ?_
 refine sv (v := (vB false)) (x_assign rfl) ?_
 refine wn (hK3_ _ _ ?_)
 refine cR fun _ hK14_ => ?_
 refine sv (v := (vB false)) (x_assign rfl) ?_
 refine sv (v := (vB false)) (x_assign rfl) ?_
 refine wn (hK14_ _ _ ?_)
 refine cR fun _ hK15_ => ?_
 refine sv (v := (vI .i64 0)) (x_assign rfl) ?_
 refine wn (hK15_ _ _ ?_)
 refine C_seq (fun _ hK16_ => ?_)
 refine cR fun _ hK17_ => ?_
 refine sm (vI .i64 (-1)) ?_
 refine wn (hK17_ _ _ ?_)
 refine C_block ?_
 refine cR fun _ hK18_ => ?_
 refine sv (v := (vB false)) (x_bin rfl rfl rfl) ?_
 refine sv (v := (vB false)) (x_assign rfl) ?_
 refine wn (hK18_ _ _ ?_)
 refine C_condF rfl ?_
 refine cR fun _ hK19_ => ?_
 refine sv (v := (vB true)) (x_bin rfl rfl rfl) ?_
 refine sv (v := (vB true)) (x_assign rfl) ?_
 refine wn (hK19_ _ _ ?_)
 refine C_condT rfl ?_
 refine C_cut (fun a__ w1__ => ∃ n0 : Nat, ∃ h : Env, a__ = mkA 343 (upd (upd (upd (upd (upd (upd (upd (upd (upd (upd h 0 (vP (some ⟨t.a, 0, none⟩))) 1 (vI .i64 (-1))) 4 (vB us)) 5 (vB hit)) 6 (Value.func (.func 44) #[] #[(vP (some ⟨ob, 0, none⟩)), (vP (some ⟨pb, 0, none⟩))])) 9 (vP (some ⟨b4_, 0, none⟩))) 10 (vP (some ⟨b9_, 0, none⟩))) 14 (vB false)) 15 (vB false)) 18 (vI .i64 ((n0 : Int) - 1))) [] ∧ Holds w1__ (cl b9_ 105 [(vI .i64 pp.key), (vI .i64 pp.val), (vB ut)] :: cl b4_ 105 [(vI .i64 ss.key), (vI .i64 ss.val), (vB us)] :: cl t.a 79 [t.iv, (vS none 0 0), (vP (some ⟨c, 0, none⟩))] :: sl 24 2 t.iv (List.length t.xs) (t.xs.flatMap EL.cells) :: ro R :: cl c 58 [(vP (some ⟨fl, 0, none⟩)), (Value.func (.func 16) #[] #[])] :: outP ob pb q O :: F) ∧ Same w w1__ ∧ (n0 ≤ t.xs.length) ∧ (∀ y ∈ t.xs.take n0, us = true → y.key ≤ ss.key) ∧ (∀ y ∈ t.xs.drop n0, us = true ∧ ss.key < y.key)) ?_ ?_
 ·refine cR fun _ hK23_ => ?_
  refine sv (v := (vP (some ⟨b4_, 2, none⟩))) (by kernel_rfl) ?_
  refine sv (v := (vB us)) (x_load1 rfl underlying4 rfl ((Holds.rd H11_ 1 rfl) 2 (vB us) rfl)) ?_
  refine wn (hK23_ _ _ ?_)
  refine C_cond (b := us) rfl (fun c24_t => ?_) (fun c24_f => ?_)
  ·skip
   refine C_seq (fun _ hK25_ => ?_)
   refine A_start (S := fun w => Rd b4_ [(vI .i64 ss.key), (vI .i64 ss.val), (vB us)] w ∧ Rd t.a [t.iv, (vS none 0 0), (vP (some ⟨c, 0, none⟩))] w ∧ SlRd t.iv (t.xs.flatMap EL.cells) w ∧ Rd c [(vP (some ⟨fl, 0, none⟩)), (Value.func (.func 16) #[] #[])] w ∧ Sub R (hp w)) (N := 19) foll rfl rfl ?_
   have H26_ := Holds.drew_ H11_
   have hq27_ := And.intro (Holds.rd H26_ 1 rfl) (And.intro (Holds.rd H26_ 2 rfl) (And.intro (Holds.slrd H26_ 3 rfl) (And.intro (Holds.rd H26_ 5 rfl) ((Holds.ro_at H26_ 4 rfl)))))
   refine A_tk 0 (v := (vP (some ⟨t.a, 0, none⟩))) rfl (by kernel_rfl) (fun w hS => x_move rfl) hq27_ ?_
   refine A_tk 1 (v := (vP (some ⟨t.a, 0, none⟩))) rfl (by kernel_rfl) (fun w hS => by kernel_rfl) hq27_ ?_
   refine A_tk 2 (v := (vP (some ⟨t.a, 0, none⟩))) rfl (by kernel_rfl) (fun w hS => by kernel_rfl) hq27_ ?_
   refine A_tk 3 (v := t.iv) rfl (by kernel_rfl) (fun w hS => x_load1 rfl underlying76 rfl (hS.2.1 0 t.iv rfl)) hq27_ ?_
   refine A_tk 4 (v := (vP (some ⟨b4_, 0, none⟩))) rfl (by kernel_rfl) (fun w hS => by kernel_rfl) hq27_ ?_
   refine A_tk 5 (v := (vA #[(vI .i64 ss.key), (vI .i64 ss.val)])) rfl (by kernel_rfl) (fun w hS => x_loadN (vs := [(vI .i64 ss.key), (vI .i64 ss.val)]) rfl underlying24 rfl z24 rfl (Rd.cells hS.1 0 rfl)) hq27_ ?_
   refine A_tk 6 (v := (vP (some ⟨t.a, 0, none⟩))) rfl (by kernel_rfl) (fun w hS => x_move rfl) hq27_ ?_
   refine A_tk 7 (v := (vP (some ⟨t.a, 0, none⟩))) rfl (by kernel_rfl) (fun w hS => by kernel_rfl) hq27_ ?_
   refine A_tk 8 (v := (vP (some ⟨t.a, 2, none⟩))) rfl (by kernel_rfl) (fun w hS => by kernel_rfl) hq27_ ?_
   refine A_tk 9 (v := (vP (some ⟨c, 0, none⟩))) rfl (by kernel_rfl) (fun w hS => x_load1 rfl underlying60 rfl (hS.2.1 2 (vP (some ⟨c, 0, none⟩)) rfl)) hq27_ ?_
   refine A_tk 10 (v := (vP (some ⟨c, 0, none⟩))) rfl (by kernel_rfl) (fun w hS => by kernel_rfl) hq27_ ?_
   refine A_tk 11 (v := (vP (some ⟨c, 1, none⟩))) rfl (by kernel_rfl) (fun w hS => by kernel_rfl) hq27_ ?_
   refine A_tk 12 (v := (Value.func (.func 16) #[] #[])) rfl (by kernel_rfl) (fun w hS => x_load1 rfl underlying53 rfl (hS.2.2.2.1 1 (Value.func (.func 16) #[] #[]) rfl)) hq27_ ?_
   refine A_ready (i := 13) (rs := []) (by kernel_rfl) ?_
   refine AllR.cons ?_ AllR.nil
   have H32_ := ((Holds.bring (Holds.bring H26_ 3 rfl) 4 rfl) :)
   refine A_op (ls' := #[true, true, true, true, true, true, true, true, true, true, true, true, true, true, false, false, false, false, false]) rfl (by kernel_rfl) (T_call (al := [t.iv, (vA #[(vI .i64 ss.key), (vI .i64 ss.val)]), (Value.func (.func 16) #[] #[])]) (pre := [sl 24 2 t.iv (List.length t.xs) (t.xs.flatMap EL.cells)]) rfl rfl cb56 (btFind R t.iv t.xs ss (hso) (hn2)) H32_ ?_)
   rintro v28_ p36_ w33_ ⟨i29_, b30_, rfl, rfl, he31_⟩ S35_ H34_
   have S37_ := Same.trans (Same.trans S13_ (Same.drew _)) S35_
   have hplq_ := (pl_le hso he31_).1
   refine ⟨⟨Holds.rd H34_ 3 rfl, Holds.rd H34_ 4 rfl, Holds.slrd H34_ 1 rfl, Holds.rd H34_ 5 rfl, (Holds.ro_at H34_ 0 rfl)⟩, ?_⟩
   have hq38_ := And.intro (Holds.rd H34_ 3 rfl) (And.intro (Holds.rd H34_ 4 rfl) (And.intro (Holds.slrd H34_ 1 rfl) (And.intro (Holds.rd H34_ 5 rfl) ((Holds.ro_at H34_ 0 rfl)))))
   refine A_tk 14 (v := (vT #[(vI .i64 (i29_ : Int)), (vB b30_)])) rfl (by kernel_rfl) (fun w hS => x_move rfl) hq38_ ?_
   refine A_tk 15 (v := (vI .i64 (i29_ : Int))) rfl (by kernel_rfl) (fun w hS => by kernel_rfl) hq38_ ?_
   refine A_tk 16 (v := (vB b30_)) rfl (by kernel_rfl) (fun w hS => by kernel_rfl) hq38_ ?_
   refine A_tk 17 (v := (vI .i64 (i29_ : Int))) rfl (by kernel_rfl) (fun w hS => x_assign rfl) hq38_ ?_
   refine A_tk 18 (v := (vB b30_)) rfl (by kernel_rfl) (fun w hS => x_assign rfl) hq38_ ?_
   refine A_done (by kernel_rfl) ?_
   refine (X_then (hK25_ _ _ ?_))
   refine cR fun _ hK39_ => ?_
   refine sm (vB b30_) ?_
   refine sv (v := (vB (!b30_))) (x_not rfl) ?_
   refine wn (hK39_ _ _ ?_)
   refine C_cond (b := !b30_) rfl (fun c40_t => ?_) (fun c40_f => ?_)
   ·skip
    refine C_reg ?_
    refine sm (vI .i64 (i29_ : Int)) ?_
    refine sv (v := (vI .i64 ((i29_ : Int) - 1))) (x_bin rfl rfl (ib_sub (IntWalk.i64_in _ (by omega)))) ?_
    refine sv (v := (vI .i64 ((i29_ : Int) - 1))) (x_assign rfl) ?_
    refine wpList_nil (X_then ?_)
    have H41_ := Holds.pkF H34_ [2, 2, 2, 1, 0, 0, 0] 0
    exact ⟨i29_, _, congrArg (fun e => mkA 343 e []) (ch (ch (ch (ch (ch (ch (ch (ch (ch (ch rfl rfl) rfl) rfl) rfl) rfl) rfl) rfl) rfl) rfl) rfl), H41_, S37_, ((pl_le hso he31_).1), (fun y hy _ => Int.le_of_lt ((pl_le hso he31_).2.1 y hy)), (fun y hy => ⟨c24_t, (pl_le hso he31_).2.2.2.1 (by simpa using c40_t) y hy⟩)⟩
   ·skip
    refine C_skip (X_then ?_)
    have H42_ := Holds.pkF H34_ [2, 2, 2, 1, 0, 0, 0] 0
    exact ⟨(i29_ + 1), _, congrArg (fun e => mkA 343 e []) (ch (ch (ch (ch (ch (ch (ch (ch (ch (ch rfl rfl) rfl) rfl) rfl) rfl) rfl) rfl) rfl) rfl) (congrArg (vI .i64) ((by first | rfl | omega | (simp; done) | (simp; omega)) : (i29_ : Int) = ((i29_ + 1 : Nat) : Int) - 1))), H42_, S37_, (((pl_le hso he31_).2.2.2.2 (by simpa using c40_f)).1), (fun y hy _ => ((pl_le hso he31_).2.2.2.2 (by simpa using c40_f)).2.1 y hy), (fun y hy => ⟨c24_t, ((pl_le hso he31_).2.2.2.2 (by simpa using c40_f)).2.2 y hy⟩)⟩
  ·skip
   refine C_reg ?_
   refine sm (vP (some ⟨t.a, 0, none⟩)) ?_
   refine sv (v := (vP (some ⟨t.a, 0, none⟩))) (by kernel_rfl) ?_
   refine sv (v := (vP (some ⟨t.a, 0, none⟩))) (by kernel_rfl) ?_
   refine sv (v := t.iv) (x_load1 rfl underlying76 rfl ((Holds.rd H11_ 2 rfl) 0 t.iv rfl)) ?_
   refine sv (v := (vI .i64 ((List.length t.xs) : Int))) (x_lenSl rfl H11_ 3 rfl underlying76) ?_
   refine sv (v := (vI .i64 (((List.length t.xs) : Int) - 1))) (x_bin rfl rfl (ib_sub (IntWalk.i64_in _ (by omega)))) ?_
   refine sv (v := (vI .i64 (((List.length t.xs) : Int) - 1))) (x_assign rfl) ?_
   refine wpList_nil (X_then ?_)
   exact ⟨t.xs.length, _, congrArg (fun e => mkA 343 e []) (ch (ch (ch (ch (ch (ch (ch (ch (ch (ch rfl rfl) rfl) rfl) rfl) rfl) rfl) rfl) rfl) rfl) (congrArg (vI .i64) ((by first | rfl | omega | (simp; done) | (simp; omega)) : ((List.length t.xs) : Int) - 1 = (t.xs.length : Int) - 1))), H11_, S13_, (Nat.le_refl _), (fun y hy h__ => absurd h__ (by rw [c24_f]; decide)), (fun y hy => by simp at hy)⟩
 ·rintro _ w20_ ⟨n0, h, rfl, H21_, S22_, hi00, hlo0, hhi0⟩
  refine C_seq (fun _ hK43_ => ?_)
  refine cR fun _ hK44_ => ?_
  refine sm (vI .i64 ((n0 : Int) - 1)) ?_
  refine sv (v := (vI .i64 ((n0 : Int) - 1))) (x_assign rfl) ?_
  refine wn (hK44_ _ _ ?_)
  refine C_block ?_
  refine C_loop (γ := Nat × Bool × (List EL) × Bool × Bool) (fun x__ a__ w1__ => match x__ with | ⟨j, hb, O1, t14_v, t15_v⟩ => ∃ h : Env, a__ = mkA 343 (upd (upd (upd (upd (upd (upd (upd (upd (upd (upd h 0 (vP (some ⟨t.a, 0, none⟩))) 1 (vI .i64 (-1))) 4 (vB us)) 5 (vB hb)) 6 (Value.func (.func 44) #[] #[(vP (some ⟨ob, 0, none⟩)), (vP (some ⟨pb, 0, none⟩))])) 9 (vP (some ⟨b4_, 0, none⟩))) 10 (vP (some ⟨b9_, 0, none⟩))) 14 (vB t14_v)) 15 (vB t15_v)) 20 (vI .i64 ((j : Int) - 1))) [] ∧ Holds w1__ (cl b9_ 105 [(vI .i64 pp.key), (vI .i64 pp.val), (vB ut)] :: cl b4_ 105 [(vI .i64 ss.key), (vI .i64 ss.val), (vB us)] :: cl t.a 79 [t.iv, (vS none 0 0), (vP (some ⟨c, 0, none⟩))] :: sl 24 2 t.iv (List.length t.xs) (t.xs.flatMap EL.cells) :: ro R :: cl c 58 [(vP (some ⟨fl, 0, none⟩)), (Value.func (.func 16) #[] #[])] :: outP ob pb q O1 :: F) ∧ Same w w1__ ∧ (j ≤ n0) ∧ (runA (stD ut pp) q.most (selD us ss (postI (t.xs.drop j) ((KR t.xs).drop (j + 1)))) O = (O1, true)) ∧ (hb = true → us = true → ∀ y ∈ inter (t.xs.take j) ((KR t.xs).take (j + 1)), y.key < ss.key)) (fun x__ => match x__ with | ⟨j, hb, O1, t14_v, t15_v⟩ => j) (⟨n0, hit, O, false, false⟩) ⟨_, congrArg (fun e => mkA 343 e []) (ch (ch (ch (ch (ch (ch (ch (ch (ch (ch rfl rfl) rfl) rfl) rfl) rfl) rfl) rfl) rfl) rfl) rfl), H21_, S22_, (Nat.le_refl _), (itD_start hKl hse hi00 hhi0), (fun h1 h2 y hy => hhe h1 h2 y (by rw [inter_two' hKl hi00]; exact List.mem_append.2 (.inl hy)))⟩ ?_
  rintro ⟨j, hb, O1, t14_v, t15_v⟩ _ w45_ ⟨h, rfl, H46_, S47_, hil, hrun, hhb⟩
  refine C_seq (fun _ hK48_ => ?_)
  refine cR fun _ hK49_ => ?_
  refine sm (vI .i64 ((j : Int) - 1)) ?_
  refine sv (v := (vB (decide (0 ≤ (j : Int) - 1)))) (x_bin rfl rfl rfl) ?_
  refine wn (hK49_ _ _ ?_)
  refine C_cond (b := decide (0 ≤ (j : Int) - 1)) rfl (fun c50_t => ?_) (fun c50_f => ?_)
  ·have c50_tp : 0 ≤ (j : Int) - 1 := of_decide_eq_true c50_t
   obtain ⟨x_, hx_, _⟩ := elem_at t.xs (j - 1) (by omega)
   have hxs_ : us = true → x_.key ≤ ss.key := hlo0 x_ (mem_takeI hx_ (by omega))
   have hj1_ : 1 ≤ j := by omega
   have hxh_ : hb = true → us = true → x_.key < ss.key := fun h1 h2 => hhb h1 h2 x_ (inter_memx hKl hj1_ hx_)
   obtain ⟨k0_, hk0_⟩ : ∃ k0 : List EL, k0 = [] := ⟨_, rfl⟩
   have hkK_ : (KR t.xs)[j]? = some k0_ := by rw [hk0_]; exact KR_at (by omega)
   have hq1_ : runA (stD ut pp) q.most (selD us ss (k0_ ++ (postI (t.xs.drop j) ((KR t.xs).drop (j + 1))))) O = (O1, true) := itD_kid hrun (by rw [hk0_]; rfl)
   have hbn_ := runD_bnd hrun
   have hpl_ := post_len1 hKl hj1_ hkK_ hx_
   refine C_skip (X_then (hK48_ _ _ ?_))
   refine C_seq (fun _ hK51_ => ?_)
   refine C_block ?_
   refine C_cut (fun a__ w1__ => ∃ h : Env, a__ = mkA 343 (upd (upd (upd (upd (upd (upd (upd (upd (upd (upd h 0 (vP (some ⟨t.a, 0, none⟩))) 1 (vI .i64 (-1))) 4 (vB us)) 5 (vB hb)) 6 (Value.func (.func 44) #[] #[(vP (some ⟨ob, 0, none⟩)), (vP (some ⟨pb, 0, none⟩))])) 9 (vP (some ⟨b4_, 0, none⟩))) 10 (vP (some ⟨b9_, 0, none⟩))) 14 (vB t14_v)) 15 (vB t15_v)) 20 (vI .i64 ((j : Int) - 1))) [] ∧ Holds w1__ (cl b9_ 105 [(vI .i64 pp.key), (vI .i64 pp.val), (vB ut)] :: cl b4_ 105 [(vI .i64 ss.key), (vI .i64 ss.val), (vB us)] :: cl t.a 79 [t.iv, (vS none 0 0), (vP (some ⟨c, 0, none⟩))] :: sl 24 2 t.iv (List.length t.xs) (t.xs.flatMap EL.cells) :: ro R :: cl c 58 [(vP (some ⟨fl, 0, none⟩)), (Value.func (.func 16) #[] #[])] :: outP ob pb q O1 :: F) ∧ Same w w1__) ?_ ?_
   ·refine C_seq (fun _ hK55_ => ?_)
    refine A_start (S := fun w => Rd b4_ [(vI .i64 ss.key), (vI .i64 ss.val), (vB us)] w ∧ Rd t.a [t.iv, (vS none 0 0), (vP (some ⟨c, 0, none⟩))] w ∧ SlRd t.iv (t.xs.flatMap EL.cells) w ∧ Rd c [(vP (some ⟨fl, 0, none⟩)), (Value.func (.func 16) #[] #[])] w ∧ Sub R (hp w)) (N := 22) foll rfl rfl ?_
    have H56_ := Holds.drew_ H46_
    have hq57_ := And.intro (Holds.rd H56_ 1 rfl) (And.intro (Holds.rd H56_ 2 rfl) (And.intro (Holds.slrd H56_ 3 rfl) (And.intro (Holds.rd H56_ 5 rfl) ((Holds.ro_at H56_ 4 rfl)))))
    refine A_tk 0 (v := (vP (some ⟨b4_, 2, none⟩))) rfl (by kernel_rfl) (fun w hS => by kernel_rfl) hq57_ ?_
    refine A_tk 1 (v := (vB us)) rfl (by kernel_rfl) (fun w hS => x_load1 rfl underlying4 rfl (hS.1 2 (vB us) rfl)) hq57_ ?_
    refine A_tk 2 (v := (vB us)) rfl (by kernel_rfl) (fun w hS => x_move rfl) hq57_ ?_
    rcases Bool.eq_false_or_eq_true (us) with c58_t | c58_f
    ·skip
     refine A_tkY 3 (j := 2) (dj := 212) (b := true) (v := (vP (some ⟨t.a, 0, none⟩))) rfl (by kernel_rfl) rfl rfl (congrArg vB c58_t) (fun w hS => x_move rfl) hq57_ ?_
     refine A_tkY 4 (j := 2) (dj := 212) (b := true) (v := (vP (some ⟨t.a, 0, none⟩))) rfl (by kernel_rfl) rfl rfl (congrArg vB c58_t) (fun w hS => by kernel_rfl) hq57_ ?_
     refine A_tkY 5 (j := 2) (dj := 212) (b := true) (v := (vP (some ⟨t.a, 2, none⟩))) rfl (by kernel_rfl) rfl rfl (congrArg vB c58_t) (fun w hS => by kernel_rfl) hq57_ ?_
     refine A_tkY 6 (j := 2) (dj := 212) (b := true) (v := (vP (some ⟨c, 0, none⟩))) rfl (by kernel_rfl) rfl rfl (congrArg vB c58_t) (fun w hS => x_load1 rfl underlying60 rfl (hS.2.1 2 (vP (some ⟨c, 0, none⟩)) rfl)) hq57_ ?_
     refine A_tkY 7 (j := 2) (dj := 212) (b := true) (v := (vP (some ⟨c, 0, none⟩))) rfl (by kernel_rfl) rfl rfl (congrArg vB c58_t) (fun w hS => by kernel_rfl) hq57_ ?_
     refine A_tkY 8 (j := 2) (dj := 212) (b := true) (v := (vP (some ⟨c, 1, none⟩))) rfl (by kernel_rfl) rfl rfl (congrArg vB c58_t) (fun w hS => by kernel_rfl) hq57_ ?_
     refine A_tkY 9 (j := 2) (dj := 212) (b := true) (v := (Value.func (.func 16) #[] #[])) rfl (by kernel_rfl) rfl rfl (congrArg vB c58_t) (fun w hS => x_load1 rfl underlying53 rfl (hS.2.2.2.1 1 (Value.func (.func 16) #[] #[]) rfl)) hq57_ ?_
     refine A_tkY 10 (j := 2) (dj := 212) (b := true) (v := (vP (some ⟨t.a, 0, none⟩))) rfl (by kernel_rfl) rfl rfl (congrArg vB c58_t) (fun w hS => x_move rfl) hq57_ ?_
     refine A_tkY 11 (j := 2) (dj := 212) (b := true) (v := (vP (some ⟨t.a, 0, none⟩))) rfl (by kernel_rfl) rfl rfl (congrArg vB c58_t) (fun w hS => by kernel_rfl) hq57_ ?_
     refine A_tkY 12 (j := 2) (dj := 212) (b := true) (v := (vP (some ⟨t.a, 0, none⟩))) rfl (by kernel_rfl) rfl rfl (congrArg vB c58_t) (fun w hS => by kernel_rfl) hq57_ ?_
     refine A_tkY 13 (j := 2) (dj := 212) (b := true) (v := t.iv) rfl (by kernel_rfl) rfl rfl (congrArg vB c58_t) (fun w hS => x_load1 rfl underlying76 rfl (hS.2.1 0 t.iv rfl)) hq57_ ?_
     refine A_tkY 14 (j := 2) (dj := 212) (b := true) (v := (vI .i64 ((j : Int) - 1))) rfl (by kernel_rfl) rfl rfl (congrArg vB c58_t) (fun w hS => x_move rfl) hq57_ ?_
     have hr59_ := Holds.sl_RSw H56_ 3 rfl
     refine A_tkY 15 (j := 2) (dj := 212) (b := true) (v := (vP (some ⟨(sb t.iv), so t.iv + ((j - 1) * 2 + 0), none⟩))) rfl (by kernel_rfl) rfl rfl (congrArg vB c58_t) (fun w hS => x_idxSlR (v := t.iv) rfl hr59_ rfl underlying76 z24 (by omega) (by omega) (by omega : _ = (j - 1)) rfl) hq57_ ?_
     refine A_tkY 16 (j := 2) (dj := 212) (b := true) (v := (vA #[(vI .i64 x_.key), (vI .i64 x_.val)])) rfl (by kernel_rfl) rfl rfl (congrArg vB c58_t) (fun w hS => x_loadN (vs := [(vI .i64 x_.key), (vI .i64 x_.val)]) rfl underlying24 rfl z24 rfl (SlRd.cells hS.2.2.1 ((j - 1) * 2 + 0) (fm_cells EL.len hx_ (i := 0) rfl))) hq57_ ?_
     refine A_tkY 17 (j := 2) (dj := 212) (b := true) (v := (vP (some ⟨b4_, 0, none⟩))) rfl (by kernel_rfl) rfl rfl (congrArg vB c58_t) (fun w hS => by kernel_rfl) hq57_ ?_
     refine A_tkY 18 (j := 2) (dj := 212) (b := true) (v := (vA #[(vI .i64 ss.key), (vI .i64 ss.val)])) rfl (by kernel_rfl) rfl rfl (congrArg vB c58_t) (fun w hS => x_loadN (vs := [(vI .i64 ss.key), (vI .i64 ss.val)]) rfl underlying24 rfl z24 rfl (Rd.cells hS.1 0 rfl)) hq57_ ?_
     refine A_ready (i := 19) (rs := []) (by kernel_rfl) ?_
     refine AllR.cons ?_ AllR.nil
     have H61_ := ((Holds.bring H56_ 4 rfl) :)
     refine A_opYes (ls' := #[true, true, true, true, true, true, true, true, true, true, true, true, true, true, true, true, true, true, true, true, false, false]) (j := 2) (dj := 212) (b := true) rfl (by kernel_rfl) rfl rfl (congrArg vB c58_t) (T_call (al := [(vA #[(vI .i64 x_.key), (vI .i64 x_.val)]), (vA #[(vI .i64 ss.key), (vI .i64 ss.val)])]) (pre := []) rfl rfl cb16 (btLess R x_ ss) H61_ ?_)
     rintro v60_ p65_ w62_ ⟨rfl, rfl⟩ S64_ H63_
     have S66_ := Same.trans (Same.trans S47_ (Same.drew _)) S64_
     refine ⟨⟨Holds.rd H63_ 2 rfl, Holds.rd H63_ 3 rfl, Holds.slrd H63_ 4 rfl, Holds.rd H63_ 5 rfl, (Holds.ro_at H63_ 0 rfl)⟩, ?_⟩
     have hq67_ := And.intro (Holds.rd H63_ 2 rfl) (And.intro (Holds.rd H63_ 3 rfl) (And.intro (Holds.slrd H63_ 4 rfl) (And.intro (Holds.rd H63_ 5 rfl) ((Holds.ro_at H63_ 0 rfl)))))
     refine A_tkY 20 (j := 2) (dj := 212) (b := true) (v := (vB (decide (¬ (x_.key < ss.key))))) rfl (by kernel_rfl) rfl rfl (congrArg vB c58_t) (fun w hS => x_notP rfl) hq67_ ?_
     refine A_tk 21 (v := (vB (decide (¬ (x_.key < ss.key))))) rfl (by kernel_rfl) (fun w hS => (x_pickT (congrArg vB c58_t) rfl)) hq67_ ?_
     refine A_done (by kernel_rfl) ?_
     refine (X_then (hK55_ _ _ ?_))
     refine C_cond (b := decide (¬ (x_.key < ss.key))) rfl (fun c68_t => ?_) (fun c68_f => ?_)
     ·have c68_tp : ¬ (x_.key < ss.key) := of_decide_eq_true c68_t
      refine C_seq (fun _ hK69_ => ?_)
      refine A_start (S := fun w => Rd b4_ [(vI .i64 ss.key), (vI .i64 ss.val), (vB us)] w ∧ Rd t.a [t.iv, (vS none 0 0), (vP (some ⟨c, 0, none⟩))] w ∧ SlRd t.iv (t.xs.flatMap EL.cells) w ∧ Rd c [(vP (some ⟨fl, 0, none⟩)), (Value.func (.func 16) #[] #[])] w ∧ Sub R (hp w)) (N := 24) foll rfl rfl ?_
      have H70_ := Holds.drew_ H63_
      have hq71_ := And.intro (Holds.rd H70_ 2 rfl) (And.intro (Holds.rd H70_ 3 rfl) (And.intro (Holds.slrd H70_ 4 rfl) (And.intro (Holds.rd H70_ 5 rfl) ((Holds.ro_at H70_ 0 rfl)))))
      refine A_tk 0 (v := (vB us)) rfl (by kernel_rfl) (fun w hS => x_move rfl) hq71_ ?_
      refine A_tk 1 (v := (vB (!us))) rfl (by kernel_rfl) (fun w hS => x_not rfl) hq71_ ?_
      refine A_tk 2 (v := (vB (!us))) rfl (by kernel_rfl) (fun w hS => x_move rfl) hq71_ ?_
      rcases Bool.eq_false_or_eq_true (!us) with c72_t | c72_f
      ·skip
       simp [c58_t] at c72_t
      ·skip
       refine A_tkY 3 (j := 2) (dj := 234) (b := false) (v := (vB hb)) rfl (by kernel_rfl) rfl rfl (congrArg vB c72_f) (fun w hS => x_move rfl) hq71_ ?_
       refine A_tk 4 (v := (vB hb)) rfl (by kernel_rfl) (fun w hS => (x_pickF (congrArg vB c72_f) rfl)) hq71_ ?_
       refine A_tk 5 (v := (vB hb)) rfl (by kernel_rfl) (fun w hS => x_move rfl) hq71_ ?_
       rcases Bool.eq_false_or_eq_true (hb) with c73_t | c73_f
       ·skip
        exact absurd (hxh_ c73_t c58_t) c68_tp
       ·skip
        refine A_tkY 6 (j := 5) (dj := 237) (b := false) (v := (vP (some ⟨t.a, 0, none⟩))) rfl (by kernel_rfl) rfl rfl (congrArg vB c73_f) (fun w hS => x_move rfl) hq71_ ?_
        refine A_tkY 7 (j := 5) (dj := 237) (b := false) (v := (vP (some ⟨t.a, 0, none⟩))) rfl (by kernel_rfl) rfl rfl (congrArg vB c73_f) (fun w hS => by kernel_rfl) hq71_ ?_
        refine A_tkY 8 (j := 5) (dj := 237) (b := false) (v := (vP (some ⟨t.a, 2, none⟩))) rfl (by kernel_rfl) rfl rfl (congrArg vB c73_f) (fun w hS => by kernel_rfl) hq71_ ?_
        refine A_tkY 9 (j := 5) (dj := 237) (b := false) (v := (vP (some ⟨c, 0, none⟩))) rfl (by kernel_rfl) rfl rfl (congrArg vB c73_f) (fun w hS => x_load1 rfl underlying60 rfl (hS.2.1 2 (vP (some ⟨c, 0, none⟩)) rfl)) hq71_ ?_
        refine A_tkY 10 (j := 5) (dj := 237) (b := false) (v := (vP (some ⟨c, 0, none⟩))) rfl (by kernel_rfl) rfl rfl (congrArg vB c73_f) (fun w hS => by kernel_rfl) hq71_ ?_
        refine A_tkY 11 (j := 5) (dj := 237) (b := false) (v := (vP (some ⟨c, 1, none⟩))) rfl (by kernel_rfl) rfl rfl (congrArg vB c73_f) (fun w hS => by kernel_rfl) hq71_ ?_
        refine A_tkY 12 (j := 5) (dj := 237) (b := false) (v := (Value.func (.func 16) #[] #[])) rfl (by kernel_rfl) rfl rfl (congrArg vB c73_f) (fun w hS => x_load1 rfl underlying53 rfl (hS.2.2.2.1 1 (Value.func (.func 16) #[] #[]) rfl)) hq71_ ?_
        refine A_tkY 13 (j := 5) (dj := 237) (b := false) (v := (vP (some ⟨b4_, 0, none⟩))) rfl (by kernel_rfl) rfl rfl (congrArg vB c73_f) (fun w hS => by kernel_rfl) hq71_ ?_
        refine A_tkY 14 (j := 5) (dj := 237) (b := false) (v := (vA #[(vI .i64 ss.key), (vI .i64 ss.val)])) rfl (by kernel_rfl) rfl rfl (congrArg vB c73_f) (fun w hS => x_loadN (vs := [(vI .i64 ss.key), (vI .i64 ss.val)]) rfl underlying24 rfl z24 rfl (Rd.cells hS.1 0 rfl)) hq71_ ?_
        refine A_tkY 15 (j := 5) (dj := 237) (b := false) (v := (vP (some ⟨t.a, 0, none⟩))) rfl (by kernel_rfl) rfl rfl (congrArg vB c73_f) (fun w hS => x_move rfl) hq71_ ?_
        refine A_tkY 16 (j := 5) (dj := 237) (b := false) (v := (vP (some ⟨t.a, 0, none⟩))) rfl (by kernel_rfl) rfl rfl (congrArg vB c73_f) (fun w hS => by kernel_rfl) hq71_ ?_
        refine A_tkY 17 (j := 5) (dj := 237) (b := false) (v := (vP (some ⟨t.a, 0, none⟩))) rfl (by kernel_rfl) rfl rfl (congrArg vB c73_f) (fun w hS => by kernel_rfl) hq71_ ?_
        refine A_tkY 18 (j := 5) (dj := 237) (b := false) (v := t.iv) rfl (by kernel_rfl) rfl rfl (congrArg vB c73_f) (fun w hS => x_load1 rfl underlying76 rfl (hS.2.1 0 t.iv rfl)) hq71_ ?_
        refine A_tkY 19 (j := 5) (dj := 237) (b := false) (v := (vI .i64 ((j : Int) - 1))) rfl (by kernel_rfl) rfl rfl (congrArg vB c73_f) (fun w hS => x_move rfl) hq71_ ?_
        refine A_tkY 20 (j := 5) (dj := 237) (b := false) (v := (vP (some ⟨(sb t.iv), so t.iv + ((j - 1) * 2 + 0), none⟩))) rfl (by kernel_rfl) rfl rfl (congrArg vB c73_f) (fun w hS => x_idxSlR (v := t.iv) rfl hr59_ rfl underlying76 z24 (by omega) (by omega) (by omega : _ = (j - 1)) rfl) hq71_ ?_
        refine A_tkY 21 (j := 5) (dj := 237) (b := false) (v := (vA #[(vI .i64 x_.key), (vI .i64 x_.val)])) rfl (by kernel_rfl) rfl rfl (congrArg vB c73_f) (fun w hS => x_loadN (vs := [(vI .i64 x_.key), (vI .i64 x_.val)]) rfl underlying24 rfl z24 rfl (SlRd.cells hS.2.2.1 ((j - 1) * 2 + 0) (fm_cells EL.len hx_ (i := 0) rfl))) hq71_ ?_
        refine A_ready (i := 22) (rs := []) (by kernel_rfl) ?_
        refine AllR.cons ?_ AllR.nil
        refine A_opYes (ls' := #[true, true, true, true, true, true, true, true, true, true, true, true, true, true, true, true, true, true, true, true, true, true, true, false]) (j := 5) (dj := 237) (b := false) rfl (by kernel_rfl) rfl rfl (congrArg vB c73_f) (T_call (al := [(vA #[(vI .i64 ss.key), (vI .i64 ss.val)]), (vA #[(vI .i64 x_.key), (vI .i64 x_.val)])]) (pre := []) rfl rfl cb16 (btLess R ss x_) H70_ ?_)
        rintro v74_ p78_ w75_ ⟨rfl, rfl⟩ S77_ H76_
        have S79_ := Same.trans (Same.trans S66_ (Same.drew _)) S77_
        refine ⟨⟨Holds.rd H76_ 2 rfl, Holds.rd H76_ 3 rfl, Holds.slrd H76_ 4 rfl, Holds.rd H76_ 5 rfl, (Holds.ro_at H76_ 0 rfl)⟩, ?_⟩
        have hq80_ := And.intro (Holds.rd H76_ 2 rfl) (And.intro (Holds.rd H76_ 3 rfl) (And.intro (Holds.slrd H76_ 4 rfl) (And.intro (Holds.rd H76_ 5 rfl) ((Holds.ro_at H76_ 0 rfl)))))
        refine A_tk 23 (v := (vB (decide (ss.key < x_.key)))) rfl (by kernel_rfl) (fun w hS => (x_pickF (congrArg vB c73_f) rfl)) hq80_ ?_
        refine A_done (by kernel_rfl) ?_
        refine (X_then (hK69_ _ _ ?_))
        refine C_cond (b := decide (ss.key < x_.key)) rfl (fun c81_t => ?_) (fun c81_f => ?_)
        ·have c81_tp : ss.key < x_.key := of_decide_eq_true c81_t
         exact absurd (hxs_ c58_t) (by omega)
        ·have c81_fp : ¬ (ss.key < x_.key) := of_decide_eq_false c81_f
         refine C_skip (X_then ?_)
         have H82_ := Holds.pkF H76_ [1, 1, 1, 1, 0, 0, 0] 0
         exact ⟨_, congrArg (fun e => mkA 343 e []) (ch (ch (ch (ch (ch (ch (ch (ch (ch (ch rfl rfl) rfl) rfl) rfl) rfl) rfl) rfl) rfl) rfl) rfl), H82_, S79_⟩
     ·have c68_fp : ¬ (¬ (x_.key < ss.key)) := of_decide_eq_false c68_f
      refine C_skip (X_then ?_)
      have H83_ := Holds.pkF H63_ [1, 1, 1, 1, 0, 0, 0] 0
      exact ⟨_, congrArg (fun e => mkA 343 e []) (ch (ch (ch (ch (ch (ch (ch (ch (ch (ch rfl rfl) rfl) rfl) rfl) rfl) rfl) rfl) rfl) rfl) rfl), H83_, S66_⟩
    ·skip
     refine A_tkN 3 (j := 2) (dj := 212) (b := false) rfl (by kernel_rfl) rfl rfl (congrArg vB c58_f) (by decide) hq57_ ?_
     refine A_tkN 4 (j := 2) (dj := 212) (b := false) rfl (by kernel_rfl) rfl rfl (congrArg vB c58_f) (by decide) hq57_ ?_
     refine A_tkN 5 (j := 2) (dj := 212) (b := false) rfl (by kernel_rfl) rfl rfl (congrArg vB c58_f) (by decide) hq57_ ?_
     refine A_tkN 6 (j := 2) (dj := 212) (b := false) rfl (by kernel_rfl) rfl rfl (congrArg vB c58_f) (by decide) hq57_ ?_
     refine A_tkN 7 (j := 2) (dj := 212) (b := false) rfl (by kernel_rfl) rfl rfl (congrArg vB c58_f) (by decide) hq57_ ?_
     refine A_tkN 8 (j := 2) (dj := 212) (b := false) rfl (by kernel_rfl) rfl rfl (congrArg vB c58_f) (by decide) hq57_ ?_
     refine A_tkN 9 (j := 2) (dj := 212) (b := false) rfl (by kernel_rfl) rfl rfl (congrArg vB c58_f) (by decide) hq57_ ?_
     refine A_tkN 10 (j := 2) (dj := 212) (b := false) rfl (by kernel_rfl) rfl rfl (congrArg vB c58_f) (by decide) hq57_ ?_
     refine A_tkN 11 (j := 2) (dj := 212) (b := false) rfl (by kernel_rfl) rfl rfl (congrArg vB c58_f) (by decide) hq57_ ?_
     refine A_tkN 12 (j := 2) (dj := 212) (b := false) rfl (by kernel_rfl) rfl rfl (congrArg vB c58_f) (by decide) hq57_ ?_
     refine A_tkN 13 (j := 2) (dj := 212) (b := false) rfl (by kernel_rfl) rfl rfl (congrArg vB c58_f) (by decide) hq57_ ?_
     refine A_tkN 14 (j := 2) (dj := 212) (b := false) rfl (by kernel_rfl) rfl rfl (congrArg vB c58_f) (by decide) hq57_ ?_
     refine A_tkN 15 (j := 2) (dj := 212) (b := false) rfl (by kernel_rfl) rfl rfl (congrArg vB c58_f) (by decide) hq57_ ?_
     refine A_tkN 16 (j := 2) (dj := 212) (b := false) rfl (by kernel_rfl) rfl rfl (congrArg vB c58_f) (by decide) hq57_ ?_
     refine A_tkN 17 (j := 2) (dj := 212) (b := false) rfl (by kernel_rfl) rfl rfl (congrArg vB c58_f) (by decide) hq57_ ?_
     refine A_tkN 18 (j := 2) (dj := 212) (b := false) rfl (by kernel_rfl) rfl rfl (congrArg vB c58_f) (by decide) hq57_ ?_
     refine A_tkN 19 (j := 2) (dj := 212) (b := false) rfl (by kernel_rfl) rfl rfl (congrArg vB c58_f) (by decide) hq57_ ?_
     refine A_tkN 20 (j := 2) (dj := 212) (b := false) rfl (by kernel_rfl) rfl rfl (congrArg vB c58_f) (by decide) hq57_ ?_
     refine A_tk 21 (v := (vB false)) rfl (by kernel_rfl) (fun w hS => (x_pickF (congrArg vB c58_f) rfl)) hq57_ ?_
     refine A_done (by kernel_rfl) ?_
     refine (X_then (hK55_ _ _ ?_))
     refine C_condF rfl ?_
     refine C_skip (X_then ?_)
     exact ⟨_, congrArg (fun e => mkA 343 e []) (ch (ch (ch (ch (ch (ch (ch (ch (ch (ch rfl rfl) rfl) rfl) rfl) rfl) rfl) rfl) rfl) rfl) rfl), H56_, (Same.trans S47_ (Same.drew _))⟩
   ·rintro _ w52_ ⟨h, rfl, H53_, S54_⟩
    refine C_seq (fun _ hK84_ => ?_)
    refine cR fun _ hK85_ => ?_
    refine sm (vP (some ⟨t.a, 0, none⟩)) ?_
    refine sv (v := (vP (some ⟨t.a, 0, none⟩))) (by kernel_rfl) ?_
    refine sv (v := (vP (some ⟨t.a, 1, none⟩))) (by kernel_rfl) ?_
    refine sv (v := (vS none 0 0)) (x_load1 rfl underlying77 rfl ((Holds.rd H53_ 2 rfl) 1 (vS none 0 0) rfl)) ?_
    refine sv (v := (vI .i64 0)) (x_lenS rfl underlying77) ?_
    refine sv (v := (vB false)) (x_bin rfl rfl rfl) ?_
    refine wn (hK85_ _ _ ?_)
    refine C_condF rfl ?_
    refine C_skip (X_then (hK84_ _ _ ?_))
    refine C_cut (fun a__ w1__ => ∃ t14_v : Bool, ∃ t15_v : Bool, ∃ h : Env, a__ = mkA 343 (upd (upd (upd (upd (upd (upd (upd (upd (upd (upd h 0 (vP (some ⟨t.a, 0, none⟩))) 1 (vI .i64 (-1))) 4 (vB us)) 5 (vB hb)) 6 (Value.func (.func 44) #[] #[(vP (some ⟨ob, 0, none⟩)), (vP (some ⟨pb, 0, none⟩))])) 9 (vP (some ⟨b4_, 0, none⟩))) 10 (vP (some ⟨b9_, 0, none⟩))) 14 (vB t14_v)) 15 (vB t15_v)) 20 (vI .i64 ((j : Int) - 1))) [] ∧ Holds w1__ (cl b9_ 105 [(vI .i64 pp.key), (vI .i64 pp.val), (vB ut)] :: cl b4_ 105 [(vI .i64 ss.key), (vI .i64 ss.val), (vB us)] :: cl t.a 79 [t.iv, (vS none 0 0), (vP (some ⟨c, 0, none⟩))] :: sl 24 2 t.iv (List.length t.xs) (t.xs.flatMap EL.cells) :: ro R :: cl c 58 [(vP (some ⟨fl, 0, none⟩)), (Value.func (.func 16) #[] #[])] :: outP ob pb q O1 :: F) ∧ Same w w1__ ∧ ((stD ut pp x_) = false)) ?_ ?_
    ·refine C_seq (fun _ hK89_ => ?_)
     refine A_start (S := fun w => Rd b9_ [(vI .i64 pp.key), (vI .i64 pp.val), (vB ut)] w ∧ Rd t.a [t.iv, (vS none 0 0), (vP (some ⟨c, 0, none⟩))] w ∧ SlRd t.iv (t.xs.flatMap EL.cells) w ∧ Rd c [(vP (some ⟨fl, 0, none⟩)), (Value.func (.func 16) #[] #[])] w ∧ Sub R (hp w)) (N := 22) foll rfl rfl ?_
     have H90_ := Holds.drew_ H53_
     have hq91_ := And.intro (Holds.rd H90_ 0 rfl) (And.intro (Holds.rd H90_ 2 rfl) (And.intro (Holds.slrd H90_ 3 rfl) (And.intro (Holds.rd H90_ 5 rfl) ((Holds.ro_at H90_ 4 rfl)))))
     refine A_tk 0 (v := (vP (some ⟨b9_, 2, none⟩))) rfl (by kernel_rfl) (fun w hS => by kernel_rfl) hq91_ ?_
     refine A_tk 1 (v := (vB ut)) rfl (by kernel_rfl) (fun w hS => x_load1 rfl underlying4 rfl (hS.1 2 (vB ut) rfl)) hq91_ ?_
     refine A_tk 2 (v := (vB ut)) rfl (by kernel_rfl) (fun w hS => x_move rfl) hq91_ ?_
     rcases Bool.eq_false_or_eq_true (ut) with c92_t | c92_f
     ·skip
      refine A_tkY 3 (j := 2) (dj := 285) (b := true) (v := (vP (some ⟨t.a, 0, none⟩))) rfl (by kernel_rfl) rfl rfl (congrArg vB c92_t) (fun w hS => x_move rfl) hq91_ ?_
      refine A_tkY 4 (j := 2) (dj := 285) (b := true) (v := (vP (some ⟨t.a, 0, none⟩))) rfl (by kernel_rfl) rfl rfl (congrArg vB c92_t) (fun w hS => by kernel_rfl) hq91_ ?_
      refine A_tkY 5 (j := 2) (dj := 285) (b := true) (v := (vP (some ⟨t.a, 2, none⟩))) rfl (by kernel_rfl) rfl rfl (congrArg vB c92_t) (fun w hS => by kernel_rfl) hq91_ ?_
      refine A_tkY 6 (j := 2) (dj := 285) (b := true) (v := (vP (some ⟨c, 0, none⟩))) rfl (by kernel_rfl) rfl rfl (congrArg vB c92_t) (fun w hS => x_load1 rfl underlying60 rfl (hS.2.1 2 (vP (some ⟨c, 0, none⟩)) rfl)) hq91_ ?_
      refine A_tkY 7 (j := 2) (dj := 285) (b := true) (v := (vP (some ⟨c, 0, none⟩))) rfl (by kernel_rfl) rfl rfl (congrArg vB c92_t) (fun w hS => by kernel_rfl) hq91_ ?_
      refine A_tkY 8 (j := 2) (dj := 285) (b := true) (v := (vP (some ⟨c, 1, none⟩))) rfl (by kernel_rfl) rfl rfl (congrArg vB c92_t) (fun w hS => by kernel_rfl) hq91_ ?_
      refine A_tkY 9 (j := 2) (dj := 285) (b := true) (v := (Value.func (.func 16) #[] #[])) rfl (by kernel_rfl) rfl rfl (congrArg vB c92_t) (fun w hS => x_load1 rfl underlying53 rfl (hS.2.2.2.1 1 (Value.func (.func 16) #[] #[]) rfl)) hq91_ ?_
      refine A_tkY 10 (j := 2) (dj := 285) (b := true) (v := (vP (some ⟨b9_, 0, none⟩))) rfl (by kernel_rfl) rfl rfl (congrArg vB c92_t) (fun w hS => by kernel_rfl) hq91_ ?_
      refine A_tkY 11 (j := 2) (dj := 285) (b := true) (v := (vA #[(vI .i64 pp.key), (vI .i64 pp.val)])) rfl (by kernel_rfl) rfl rfl (congrArg vB c92_t) (fun w hS => x_loadN (vs := [(vI .i64 pp.key), (vI .i64 pp.val)]) rfl underlying24 rfl z24 rfl (Rd.cells hS.1 0 rfl)) hq91_ ?_
      refine A_tkY 12 (j := 2) (dj := 285) (b := true) (v := (vP (some ⟨t.a, 0, none⟩))) rfl (by kernel_rfl) rfl rfl (congrArg vB c92_t) (fun w hS => x_move rfl) hq91_ ?_
      refine A_tkY 13 (j := 2) (dj := 285) (b := true) (v := (vP (some ⟨t.a, 0, none⟩))) rfl (by kernel_rfl) rfl rfl (congrArg vB c92_t) (fun w hS => by kernel_rfl) hq91_ ?_
      refine A_tkY 14 (j := 2) (dj := 285) (b := true) (v := (vP (some ⟨t.a, 0, none⟩))) rfl (by kernel_rfl) rfl rfl (congrArg vB c92_t) (fun w hS => by kernel_rfl) hq91_ ?_
      refine A_tkY 15 (j := 2) (dj := 285) (b := true) (v := t.iv) rfl (by kernel_rfl) rfl rfl (congrArg vB c92_t) (fun w hS => x_load1 rfl underlying76 rfl (hS.2.1 0 t.iv rfl)) hq91_ ?_
      refine A_tkY 16 (j := 2) (dj := 285) (b := true) (v := (vI .i64 ((j : Int) - 1))) rfl (by kernel_rfl) rfl rfl (congrArg vB c92_t) (fun w hS => x_move rfl) hq91_ ?_
      have hr93_ := Holds.sl_RSw H90_ 3 rfl
      refine A_tkY 17 (j := 2) (dj := 285) (b := true) (v := (vP (some ⟨(sb t.iv), so t.iv + ((j - 1) * 2 + 0), none⟩))) rfl (by kernel_rfl) rfl rfl (congrArg vB c92_t) (fun w hS => x_idxSlR (v := t.iv) rfl hr93_ rfl underlying76 z24 (by omega) (by omega) (by omega : _ = (j - 1)) rfl) hq91_ ?_
      refine A_tkY 18 (j := 2) (dj := 285) (b := true) (v := (vA #[(vI .i64 x_.key), (vI .i64 x_.val)])) rfl (by kernel_rfl) rfl rfl (congrArg vB c92_t) (fun w hS => x_loadN (vs := [(vI .i64 x_.key), (vI .i64 x_.val)]) rfl underlying24 rfl z24 rfl (SlRd.cells hS.2.2.1 ((j - 1) * 2 + 0) (fm_cells EL.len hx_ (i := 0) rfl))) hq91_ ?_
      refine A_ready (i := 19) (rs := []) (by kernel_rfl) ?_
      refine AllR.cons ?_ AllR.nil
      have H95_ := ((Holds.bring H90_ 4 rfl) :)
      refine A_opYes (ls' := #[true, true, true, true, true, true, true, true, true, true, true, true, true, true, true, true, true, true, true, true, false, false]) (j := 2) (dj := 285) (b := true) rfl (by kernel_rfl) rfl rfl (congrArg vB c92_t) (T_call (al := [(vA #[(vI .i64 pp.key), (vI .i64 pp.val)]), (vA #[(vI .i64 x_.key), (vI .i64 x_.val)])]) (pre := []) rfl rfl cb16 (btLess R pp x_) H95_ ?_)
      rintro v94_ p99_ w96_ ⟨rfl, rfl⟩ S98_ H97_
      have S100_ := Same.trans (Same.trans S54_ (Same.drew _)) S98_
      refine ⟨⟨Holds.rd H97_ 1 rfl, Holds.rd H97_ 3 rfl, Holds.slrd H97_ 4 rfl, Holds.rd H97_ 5 rfl, (Holds.ro_at H97_ 0 rfl)⟩, ?_⟩
      have hq101_ := And.intro (Holds.rd H97_ 1 rfl) (And.intro (Holds.rd H97_ 3 rfl) (And.intro (Holds.slrd H97_ 4 rfl) (And.intro (Holds.rd H97_ 5 rfl) ((Holds.ro_at H97_ 0 rfl)))))
      refine A_tkY 20 (j := 2) (dj := 285) (b := true) (v := (vB (decide (¬ (pp.key < x_.key))))) rfl (by kernel_rfl) rfl rfl (congrArg vB c92_t) (fun w hS => x_notP rfl) hq101_ ?_
      refine A_tk 21 (v := (vB (decide (¬ (pp.key < x_.key))))) rfl (by kernel_rfl) (fun w hS => (x_pickT (congrArg vB c92_t) rfl)) hq101_ ?_
      refine A_done (by kernel_rfl) ?_
      refine (X_then (hK89_ _ _ ?_))
      refine C_cond (b := decide (¬ (pp.key < x_.key))) rfl (fun c102_t => ?_) (fun c102_f => ?_)
      ·have c102_tp : ¬ (pp.key < x_.key) := of_decide_eq_true c102_t
       refine cR fun _ hK103_ => ?_
       refine sm (vB hb) ?_
       refine sv (v := (vB hb)) (x_assign rfl) ?_
       refine sv (v := (vB false)) (x_assign rfl) ?_
       refine wn (hK103_ _ _ ?_)
       refine C_ret (X_thenR (X_blkR (X_thenR (X_thenR (X_blkR (X_thenR (X_blkR (X_thenR ?_))))))))
       refine R_any (v := (vT #[(vB hb), (vB false)])) (run_results2 rfl rfl rfl) ?_
       have H104_ := ((Holds.bring (Holds.bring H97_ 4 rfl) 4 rfl) :)
       have H105_ := Holds.leaf_in (t := t) H104_
       have H106_ := Holds.pkF H105_ [1, 0, 2, 2] 2
       exact ⟨_, _, rfl, ⟨hb, false, O1, rfl, rfl, (by have hz__ := finD_item hKl hj1_ hkK_ hx_ (itD_stop hq1_ hxs_ (by simp [stD, c92_t]; have hz__ := c102_tp; omega)); rw [KR_inter] at hz__; exact hz__)⟩, S100_, H106_⟩
      ·have c102_fp : ¬ (¬ (pp.key < x_.key)) := of_decide_eq_false c102_f
       refine C_skip (X_then ?_)
       have H107_ := Holds.pkF H97_ [1, 1, 1, 1, 0, 0, 0] 0
       exact ⟨t14_v, t15_v, _, congrArg (fun e => mkA 343 e []) (ch (ch (ch (ch (ch (ch (ch (ch (ch (ch rfl rfl) rfl) rfl) rfl) rfl) rfl) rfl) rfl) rfl) rfl), H107_, S100_, (by simp [stD]; have hz__ := c102_fp; omega)⟩
     ·skip
      refine A_tkN 3 (j := 2) (dj := 285) (b := false) rfl (by kernel_rfl) rfl rfl (congrArg vB c92_f) (by decide) hq91_ ?_
      refine A_tkN 4 (j := 2) (dj := 285) (b := false) rfl (by kernel_rfl) rfl rfl (congrArg vB c92_f) (by decide) hq91_ ?_
      refine A_tkN 5 (j := 2) (dj := 285) (b := false) rfl (by kernel_rfl) rfl rfl (congrArg vB c92_f) (by decide) hq91_ ?_
      refine A_tkN 6 (j := 2) (dj := 285) (b := false) rfl (by kernel_rfl) rfl rfl (congrArg vB c92_f) (by decide) hq91_ ?_
      refine A_tkN 7 (j := 2) (dj := 285) (b := false) rfl (by kernel_rfl) rfl rfl (congrArg vB c92_f) (by decide) hq91_ ?_
      refine A_tkN 8 (j := 2) (dj := 285) (b := false) rfl (by kernel_rfl) rfl rfl (congrArg vB c92_f) (by decide) hq91_ ?_
      refine A_tkN 9 (j := 2) (dj := 285) (b := false) rfl (by kernel_rfl) rfl rfl (congrArg vB c92_f) (by decide) hq91_ ?_
      refine A_tkN 10 (j := 2) (dj := 285) (b := false) rfl (by kernel_rfl) rfl rfl (congrArg vB c92_f) (by decide) hq91_ ?_
      refine A_tkN 11 (j := 2) (dj := 285) (b := false) rfl (by kernel_rfl) rfl rfl (congrArg vB c92_f) (by decide) hq91_ ?_
      refine A_tkN 12 (j := 2) (dj := 285) (b := false) rfl (by kernel_rfl) rfl rfl (congrArg vB c92_f) (by decide) hq91_ ?_
      refine A_tkN 13 (j := 2) (dj := 285) (b := false) rfl (by kernel_rfl) rfl rfl (congrArg vB c92_f) (by decide) hq91_ ?_
      refine A_tkN 14 (j := 2) (dj := 285) (b := false) rfl (by kernel_rfl) rfl rfl (congrArg vB c92_f) (by decide) hq91_ ?_
      refine A_tkN 15 (j := 2) (dj := 285) (b := false) rfl (by kernel_rfl) rfl rfl (congrArg vB c92_f) (by decide) hq91_ ?_
      refine A_tkN 16 (j := 2) (dj := 285) (b := false) rfl (by kernel_rfl) rfl rfl (congrArg vB c92_f) (by decide) hq91_ ?_
      refine A_tkN 17 (j := 2) (dj := 285) (b := false) rfl (by kernel_rfl) rfl rfl (congrArg vB c92_f) (by decide) hq91_ ?_
      refine A_tkN 18 (j := 2) (dj := 285) (b := false) rfl (by kernel_rfl) rfl rfl (congrArg vB c92_f) (by decide) hq91_ ?_
      refine A_tkN 19 (j := 2) (dj := 285) (b := false) rfl (by kernel_rfl) rfl rfl (congrArg vB c92_f) (by decide) hq91_ ?_
      refine A_tkN 20 (j := 2) (dj := 285) (b := false) rfl (by kernel_rfl) rfl rfl (congrArg vB c92_f) (by decide) hq91_ ?_
      refine A_tk 21 (v := (vB false)) rfl (by kernel_rfl) (fun w hS => (x_pickF (congrArg vB c92_f) rfl)) hq91_ ?_
      refine A_done (by kernel_rfl) ?_
      refine (X_then (hK89_ _ _ ?_))
      refine C_condF rfl ?_
      refine C_skip (X_then ?_)
      exact ⟨t14_v, t15_v, _, congrArg (fun e => mkA 343 e []) (ch (ch (ch (ch (ch (ch (ch (ch (ch (ch rfl rfl) rfl) rfl) rfl) rfl) rfl) rfl) rfl) rfl) rfl), H90_, (Same.trans S54_ (Same.drew _)), (by simp [stD, c92_f])⟩
    ·rintro _ w86_ ⟨t14_v, t15_v, h, rfl, H87_, S88_, hst_⟩
     refine cR fun _ hK108_ => ?_
     refine sv (v := (vB true)) (x_assign rfl) ?_
     refine wn (hK108_ _ _ ?_)
     refine cR fun _ hK109_ => ?_
     refine sm (Value.func (.func 44) #[] #[(vP (some ⟨ob, 0, none⟩)), (vP (some ⟨pb, 0, none⟩))]) ?_
     refine sm (vP (some ⟨t.a, 0, none⟩)) ?_
     refine sv (v := (vP (some ⟨t.a, 0, none⟩))) (by kernel_rfl) ?_
     refine sv (v := (vP (some ⟨t.a, 0, none⟩))) (by kernel_rfl) ?_
     refine sv (v := t.iv) (x_load1 rfl underlying76 rfl ((Holds.rd H87_ 2 rfl) 0 t.iv rfl)) ?_
     refine sm (vI .i64 ((j : Int) - 1)) ?_
     have hr110_ := Holds.sl_RSw H87_ 3 rfl
     refine sv (v := (vP (some ⟨(sb t.iv), so t.iv + ((j - 1) * 2 + 0), none⟩))) (x_idxSlR (v := t.iv) rfl hr110_ rfl underlying76 z24 (by omega) (by omega) (by omega : _ = (j - 1)) rfl) ?_
     refine sv (v := (vA #[(vI .i64 x_.key), (vI .i64 x_.val)])) (x_loadN (vs := [(vI .i64 x_.key), (vI .i64 x_.val)]) rfl underlying24 rfl z24 rfl (SlRd.cells (Holds.slrd H87_ 3 rfl) ((j - 1) * 2 + 0) (fm_cells EL.len hx_ (i := 0) rfl))) ?_
     have hq2_ := itD_item hq1_ hxs_ hst_
     have hbv_ := runD_bnd hq1_
     simp only [List.length_append] at hbv_
     have H112_ := ((Holds.bring (Holds.bring H87_ 6 rfl) 5 rfl) :)
     refine S_list (T_call (al := [(vA #[(vI .i64 x_.key), (vI .i64 x_.val)]), (vP (some ⟨ob, 0, none⟩)), (vP (some ⟨pb, 0, none⟩))]) (pre := [outP ob pb q O1]) rfl rfl cb44 (btVis R ob pb q O1 x_ (by omega)) H112_ ?_)
     rintro v111_ p116_ w113_ ⟨rfl, rfl⟩ S115_ H114_
     have S117_ := Same.trans S88_ S115_
     refine sv (v := (vB (!(moreB q.most (O1 ++ [x_]))))) (x_not rfl) ?_
     refine wn (hK109_ _ _ ?_)
     refine C_cond (b := !(moreB q.most (O1 ++ [x_]))) rfl (fun c118_t => ?_) (fun c118_f => ?_)
     ·skip
      refine cR fun _ hK119_ => ?_
      refine sm (vB true) ?_
      refine sv (v := (vB true)) (x_assign rfl) ?_
      refine sv (v := (vB false)) (x_assign rfl) ?_
      refine wn (hK119_ _ _ ?_)
      refine C_ret (X_blkR (X_thenR (X_thenR (X_blkR (X_thenR (X_blkR (X_thenR ?_)))))))
      refine R_any (v := (vT #[(vB true), (vB false)])) (run_results2 rfl rfl rfl) ?_
      have H120_ := ((Holds.bring (Holds.bring H114_ 5 rfl) 5 rfl) :)
      have H121_ := Holds.leaf_in (t := t) H120_
      have H122_ := Holds.pkF H121_ [1, 0, 3, 0] 2
      exact ⟨_, _, rfl, ⟨true, false, (O1 ++ [x_]), rfl, rfl, (by have hz__ := finD_item hKl hj1_ hkK_ hx_ (hq2_.trans (by rw [show moreB q.most (O1 ++ [x_]) = false by simpa using c118_t])); rw [KR_inter] at hz__; exact hz__)⟩, S117_, H122_⟩
     ·skip
      refine C_skip (X_blkN (X_then (hK51_ _ _ ?_)))
      refine C_reg ?_
      refine sm (vI .i64 ((j : Int) - 1)) ?_
      refine sv (v := (vI .i64 (((j : Int) - 1) - 1))) (x_bin rfl rfl (ib_sub (IntWalk.i64_in _ (by omega)))) ?_
      refine sv (v := (vI .i64 (((j : Int) - 1) - 1))) (x_assign rfl) ?_
      refine wpList_nil (X_then ?_)
      have H123_ := Holds.pkF H114_ [2, 2, 2, 2, 0, 1, 0] 0
      exact ⟨⟨(j - 1), true, (O1 ++ [x_]), t14_v, t15_v⟩, ⟨_, congrArg (fun e => mkA 343 e []) (ch (ch (ch (ch (ch (ch (ch (ch (ch (ch rfl rfl) rfl) rfl) rfl) rfl) rfl) rfl) rfl) rfl) (congrArg (vI .i64) ((by first | rfl | omega | (simp; done) | (simp; omega)) : ((j : Int) - 1) - 1 = ((j - 1 : Nat) : Int) - 1))), H123_, S117_, (by omega), (nextD hj1_ hkK_ hx_ (hq2_.trans (by rw [show moreB q.most (O1 ++ [x_]) = true by simpa using c118_f]))), (fun _ h2 => inter_lt hKl hse hj1_ hx_ (hxs_ h2))⟩, by first | omega | (dsimp only; omega) | (simp; omega)⟩
  ·have c50_fp : ¬ (0 ≤ (j : Int) - 1) := of_decide_eq_false c50_f
   have hie_ : j = 0 := by omega
   obtain ⟨k0_, hk0_⟩ : ∃ k0 : List EL, k0 = [] := ⟨_, rfl⟩
   have hkK_ : (KR t.xs)[0]? = some k0_ := by rw [hk0_]; exact KR_at (by omega)
   have hq1_ : runA (stD ut pp) q.most (selD us ss (k0_ ++ (postI (t.xs.drop j) ((KR t.xs).drop (j + 1))))) O = (O1, true) := itD_kid hrun (by rw [hk0_]; rfl)
   have hbn_ := runD_bnd hrun
   have hpl_ := post_len hKl hkK_
   rw [hie_] at hbn_
   refine C_exit (X_thenX (X_thenX (X_blkHit ?_)))
   refine (X_then (hK43_ _ _ ?_))
   refine cR fun _ hK124_ => ?_
   refine sm (vP (some ⟨t.a, 0, none⟩)) ?_
   refine sv (v := (vP (some ⟨t.a, 0, none⟩))) (by kernel_rfl) ?_
   refine sv (v := (vP (some ⟨t.a, 1, none⟩))) (by kernel_rfl) ?_
   refine sv (v := (vS none 0 0)) (x_load1 rfl underlying77 rfl ((Holds.rd H46_ 2 rfl) 1 (vS none 0 0) rfl)) ?_
   refine sv (v := (vI .i64 0)) (x_lenS rfl underlying77) ?_
   refine sv (v := (vB false)) (x_bin rfl rfl rfl) ?_
   refine wn (hK124_ _ _ ?_)
   refine C_condF rfl ?_
   refine C_skip (X_blkN (X_then (hK16_ _ _ ?_)))
   refine cR fun _ hK125_ => ?_
   refine sm (vB hb) ?_
   refine sv (v := (vB hb)) (x_assign rfl) ?_
   refine sv (v := (vB true)) (x_assign rfl) ?_
   refine wn (hK125_ _ _ ?_)
   refine C_ret ?_
   refine R_any (v := (vT #[(vB hb), (vB true)])) (run_results2 rfl rfl rfl) ?_
   have H126_ := ((Holds.bring (Holds.bring H46_ 3 rfl) 3 rfl) :)
   have H127_ := Holds.leaf_in (t := t) H126_
   have H128_ := Holds.pkF H127_ [3, 0, 2, 2] 2
   exact ⟨_, _, rfl, ⟨hb, true, O1, rfl, rfl, (by have hz__ := finD hKl hie_ hkK_ hq1_; rw [KR_inter] at hz__; exact hz__)⟩, S47_, H128_⟩
end Go.Proofs.Ytdfjdmmmlidamaa
set_option linter.unusedVariables false
set_option linter.unusedSimpArgs false
namespace Go.Proofs.Ytdfjdmmmlidamaa
open Go Go.RowKit Gw Try
open Go.Value renaming int → vI, bool → vB, slice → vS, pointer → vP, agg → vA, tuple → vT

set_option maxHeartbeats 16000000 in
theorem itAN (R : HP) (c fl : Nat) (h : Nat) (t : BN) (ks : List (BT h)) (ss pp : EL) (us ut hit : Bool) (ob pb : Nat) (q : BO) (O : List EL) (hw : (nodeB t ks).Wf) (hs : SrtE (nodeB t ks).el) (hn : (nodeB t ks).el.length ≤ 100000) (hO : O.length + (nodeB t ks).el.length ≤ 1000000) (ih : ∀ (R : HP) (c fl : Nat) (k : BT h) (ss pp : EL) (us ut hit : Bool) (ob pb : Nat) (q : BO) (O : List EL) (hwk : k.Wf) (hsk : SrtE k.el) (hnk : k.el.length ≤ 100000) (hOk : O.length + k.el.length ≤ 1000000), Tri Try.prog 63 #[(vP (some ⟨k.a, 0, none⟩)), (vI .i64 1), (vA #[(vI .i64 ss.key), (vI .i64 ss.val), (vB us)]), (vA #[(vI .i64 pp.key), (vI .i64 pp.val), (vB ut)]), (vB us), (vB hit), (Value.func (.func 44) #[] #[(vP (some ⟨ob, 0, none⟩)), (vP (some ⟨pb, 0, none⟩))])] R [btp c k, cl c 58 [(vP (some ⟨fl, 0, none⟩)), (Value.func (.func 16) #[] #[])], outP ob pb q O] (fun v__ post__ => ∃ (h' ok : Bool) (O' : List EL), v__ = (vT #[(vB h'), (vB ok)]) ∧ post__ = [btp c k, cl c 58 [(vP (some ⟨fl, 0, none⟩)), (Value.func (.func 16) #[] #[])], outP ob pb q O'] ∧ (runA (stA ut pp) q.most (selA us ss k.el) O = (O', ok)))) :
    Tri Try.prog 63 #[(vP (some ⟨t.a, 0, none⟩)), (vI .i64 1), (vA #[(vI .i64 ss.key), (vI .i64 ss.val), (vB us)]), (vA #[(vI .i64 pp.key), (vI .i64 pp.val), (vB ut)]), (vB us), (vB hit), (Value.func (.func 44) #[] #[(vP (some ⟨ob, 0, none⟩)), (vP (some ⟨pb, 0, none⟩))])] R [btp c (nodeB t ks), cl c 58 [(vP (some ⟨fl, 0, none⟩)), (Value.func (.func 16) #[] #[])], outP ob pb q O] (fun v__ post__ => ∃ (h' ok : Bool) (O' : List EL), v__ = (vT #[(vB h'), (vB ok)]) ∧ post__ = [btp c (nodeB t ks), cl c 58 [(vP (some ⟨fl, 0, none⟩)), (Value.func (.func 16) #[] #[])], outP ob pb q O'] ∧ (runA (stA ut pp) q.most (selA us ss (nodeB t ks).el) O = (O', ok))) := by
 have hkl := ((BT.wfS t ks).1 hw).1
 have hkm : (ks.map BT.a).length = ks.length := List.length_map ..
 obtain ⟨hso, hno⟩ := own_srt (t := t) (ks := ks) hw hs
 have hn2 : t.xs.length ≤ 1000000 := Nat.le_trans hno (Nat.le_trans hn (by decide))
 have hKl : (ks.map BT.el).length = t.xs.length + 1 := by rw [List.length_map]; exact hkl
 have hse : SrtE (inter t.xs (ks.map BT.el)) := hs
 have hel : (inter t.xs (ks.map BT.el)).length ≤ 100000 ∧ O.length + (inter t.xs (ks.map BT.el)).length ≤ 1000000 := ⟨hn, hO⟩
 refine Tri.into (n := 343) (al := [(vP (some ⟨t.a, 0, none⟩)), (vI .i64 1), (vA #[(vI .i64 ss.key), (vI .i64 ss.val), (vB us)]), (vA #[(vI .i64 pp.key), (vI .i64 pp.val), (vB ut)]), (vB us), (vB hit), (Value.func (.func 44) #[] #[(vP (some ⟨ob, 0, none⟩)), (vP (some ⟨pb, 0, none⟩))])]) func63 rfl ntmps63 rfl rfl fun w F H => ?_
 have H1_ := ((Holds.bring H 1 rfl) :)
 have H2_ := Holds.nodeO H1_
 refine cR fun _ hK3_ => ?_
 refine S_list (T_box (v := (vA #[(vI .i64 ss.key), (vI .i64 ss.val), (vB us)])) rfl H2_ ?_)
 intro b4_ w5_ S7_ H6_
 have S8_ := Same.trans (Same.refl w) S7_
 refine S_list (T_box (v := (vA #[(vI .i64 pp.key), (vI .i64 pp.val), (vB ut)])) rfl H6_ ?_)
 intro b9_ w10_ S12_ H11_
 have S13_ := Same.trans S8_ S12_
 refine sv (v := (vB false)) (x_assign rfl) ?_
 refine sv (v := (vB false)) (x_assign rfl) ?_
 refine wn (hK3_ _ _ ?_)
 refine cR fun _ hK14_ => ?_
 refine sv (v := (vB false)) (x_assign rfl) ?_
 refine sv (v := (vB false)) (x_assign rfl) ?_
 refine wn (hK14_ _ _ ?_)
 refine cR fun _ hK15_ => ?_
 refine sv (v := (vI .i64 0)) (x_assign rfl) ?_
 refine wn (hK15_ _ _ ?_)
 refine C_seq (fun _ hK16_ => ?_)
 refine cR fun _ hK17_ => ?_
 refine sm (vI .i64 1) ?_
 refine wn (hK17_ _ _ ?_)
 refine C_block ?_
 refine cR fun _ hK18_ => ?_
 refine sv (v := (vB true)) (x_bin rfl rfl rfl) ?_
 refine sv (v := (vB true)) (x_assign rfl) ?_
 refine wn (hK18_ _ _ ?_)
 refine C_condT rfl ?_
 refine C_cut (fun a__ w1__ => ∃ i0 : Nat, ∃ h : Env, a__ = mkA 343 (upd (upd (upd (upd (upd (upd (upd (upd (upd (upd h 0 (vP (some ⟨t.a, 0, none⟩))) 1 (vI .i64 1)) 4 (vB us)) 5 (vB hit)) 6 (Value.func (.func 44) #[] #[(vP (some ⟨ob, 0, none⟩)), (vP (some ⟨pb, 0, none⟩))])) 9 (vP (some ⟨b4_, 0, none⟩))) 10 (vP (some ⟨b9_, 0, none⟩))) 14 (vB false)) 15 (vB false)) 18 (vI .i64 (i0 : Int))) [] ∧ Holds w1__ (cl b9_ 105 [(vI .i64 pp.key), (vI .i64 pp.val), (vB ut)] :: cl b4_ 105 [(vI .i64 ss.key), (vI .i64 ss.val), (vB us)] :: cl t.a 79 [t.iv, t.cv, (vP (some ⟨c, 0, none⟩))] :: sl 24 2 t.iv (List.length t.xs) (t.xs.flatMap EL.cells) :: sl 59 1 t.cv (List.length (ks.map BT.a)) (pBs (ks.map BT.a)) :: kids c ks :: ro R :: cl c 58 [(vP (some ⟨fl, 0, none⟩)), (Value.func (.func 16) #[] #[])] :: outP ob pb q O :: F) ∧ Same w w1__ ∧ (i0 ≤ t.xs.length) ∧ (∀ y ∈ t.xs.take i0, us = true ∧ y.key < ss.key) ∧ (∀ y ∈ t.xs.drop i0, us = true → ss.key ≤ y.key)) ?_ ?_
 ·refine cR fun _ hK22_ => ?_
  refine sv (v := (vP (some ⟨b4_, 2, none⟩))) (by kernel_rfl) ?_
  refine sv (v := (vB us)) (x_load1 rfl underlying4 rfl ((Holds.rd H11_ 1 rfl) 2 (vB us) rfl)) ?_
  refine wn (hK22_ _ _ ?_)
  refine C_cond (b := us) rfl (fun c23_t => ?_) (fun c23_f => ?_)
  ·skip
   refine A_start (S := fun w => Rd b4_ [(vI .i64 ss.key), (vI .i64 ss.val), (vB us)] w ∧ Rd t.a [t.iv, t.cv, (vP (some ⟨c, 0, none⟩))] w ∧ SlRd t.iv (t.xs.flatMap EL.cells) w ∧ SlRd t.cv (pBs (ks.map BT.a)) w ∧ Rd c [(vP (some ⟨fl, 0, none⟩)), (Value.func (.func 16) #[] #[])] w ∧ Sub R (hp w)) (N := 18) foll rfl rfl ?_
   have H24_ := Holds.drew_ H11_
   have hq25_ := And.intro (Holds.rd H24_ 1 rfl) (And.intro (Holds.rd H24_ 2 rfl) (And.intro (Holds.slrd H24_ 3 rfl) (And.intro (Holds.slrd H24_ 4 rfl) (And.intro (Holds.rd H24_ 7 rfl) ((Holds.ro_at H24_ 6 rfl))))))
   refine A_tk 0 (v := (vP (some ⟨t.a, 0, none⟩))) rfl (by kernel_rfl) (fun w hS => x_move rfl) hq25_ ?_
   refine A_tk 1 (v := (vP (some ⟨t.a, 0, none⟩))) rfl (by kernel_rfl) (fun w hS => by kernel_rfl) hq25_ ?_
   refine A_tk 2 (v := (vP (some ⟨t.a, 0, none⟩))) rfl (by kernel_rfl) (fun w hS => by kernel_rfl) hq25_ ?_
   refine A_tk 3 (v := t.iv) rfl (by kernel_rfl) (fun w hS => x_load1 rfl underlying76 rfl (hS.2.1 0 t.iv rfl)) hq25_ ?_
   refine A_tk 4 (v := (vP (some ⟨b4_, 0, none⟩))) rfl (by kernel_rfl) (fun w hS => by kernel_rfl) hq25_ ?_
   refine A_tk 5 (v := (vA #[(vI .i64 ss.key), (vI .i64 ss.val)])) rfl (by kernel_rfl) (fun w hS => x_loadN (vs := [(vI .i64 ss.key), (vI .i64 ss.val)]) rfl underlying24 rfl z24 rfl (Rd.cells hS.1 0 rfl)) hq25_ ?_
   refine A_tk 6 (v := (vP (some ⟨t.a, 0, none⟩))) rfl (by kernel_rfl) (fun w hS => x_move rfl) hq25_ ?_
   refine A_tk 7 (v := (vP (some ⟨t.a, 0, none⟩))) rfl (by kernel_rfl) (fun w hS => by kernel_rfl) hq25_ ?_
   refine A_tk 8 (v := (vP (some ⟨t.a, 2, none⟩))) rfl (by kernel_rfl) (fun w hS => by kernel_rfl) hq25_ ?_
   refine A_tk 9 (v := (vP (some ⟨c, 0, none⟩))) rfl (by kernel_rfl) (fun w hS => x_load1 rfl underlying60 rfl (hS.2.1 2 (vP (some ⟨c, 0, none⟩)) rfl)) hq25_ ?_
   refine A_tk 10 (v := (vP (some ⟨c, 0, none⟩))) rfl (by kernel_rfl) (fun w hS => by kernel_rfl) hq25_ ?_
   refine A_tk 11 (v := (vP (some ⟨c, 1, none⟩))) rfl (by kernel_rfl) (fun w hS => by kernel_rfl) hq25_ ?_
   refine A_tk 12 (v := (Value.func (.func 16) #[] #[])) rfl (by kernel_rfl) (fun w hS => x_load1 rfl underlying53 rfl (hS.2.2.2.2.1 1 (Value.func (.func 16) #[] #[]) rfl)) hq25_ ?_
   refine A_ready (i := 13) (rs := []) (by kernel_rfl) ?_
   refine AllR.cons ?_ AllR.nil
   have H30_ := ((Holds.bring (Holds.bring H24_ 3 rfl) 6 rfl) :)
   refine A_op (ls' := #[true, true, true, true, true, true, true, true, true, true, true, true, true, true, false, false, false, false]) rfl (by kernel_rfl) (T_call (al := [t.iv, (vA #[(vI .i64 ss.key), (vI .i64 ss.val)]), (Value.func (.func 16) #[] #[])]) (pre := [sl 24 2 t.iv (List.length t.xs) (t.xs.flatMap EL.cells)]) rfl rfl cb56 (btFind R t.iv t.xs ss (hso) (hn2)) H30_ ?_)
   rintro v26_ p34_ w31_ ⟨i27_, b28_, rfl, rfl, he29_⟩ S33_ H32_
   have S35_ := Same.trans (Same.trans S13_ (Same.drew _)) S33_
   have hplq_ := (pl_le hso he29_).1
   refine ⟨⟨Holds.rd H32_ 3 rfl, Holds.rd H32_ 4 rfl, Holds.slrd H32_ 1 rfl, Holds.slrd H32_ 5 rfl, Holds.rd H32_ 7 rfl, (Holds.ro_at H32_ 0 rfl)⟩, ?_⟩
   have hq36_ := And.intro (Holds.rd H32_ 3 rfl) (And.intro (Holds.rd H32_ 4 rfl) (And.intro (Holds.slrd H32_ 1 rfl) (And.intro (Holds.slrd H32_ 5 rfl) (And.intro (Holds.rd H32_ 7 rfl) ((Holds.ro_at H32_ 0 rfl))))))
   refine A_tk 14 (v := (vT #[(vI .i64 (i27_ : Int)), (vB b28_)])) rfl (by kernel_rfl) (fun w hS => x_move rfl) hq36_ ?_
   refine A_tk 15 (v := (vI .i64 (i27_ : Int))) rfl (by kernel_rfl) (fun w hS => by kernel_rfl) hq36_ ?_
   refine A_tk 16 (v := (vB b28_)) rfl (by kernel_rfl) (fun w hS => by kernel_rfl) hq36_ ?_
   refine A_tk 17 (v := (vI .i64 (i27_ : Int))) rfl (by kernel_rfl) (fun w hS => x_assign rfl) hq36_ ?_
   refine A_done (by kernel_rfl) ?_
   refine (X_then ?_)
   have H37_ := Holds.pkF H32_ [2, 2, 2, 1, 1, 1, 0, 0, 0] 0
   exact ⟨i27_, _, congrArg (fun e => mkA 343 e []) (ch (ch (ch (ch (ch (ch (ch (ch (ch (ch rfl rfl) rfl) rfl) rfl) rfl) rfl) rfl) rfl) rfl) rfl), H37_, S35_, ((pl_le hso he29_).1), (fun y hy => ⟨c23_t, (pl_le hso he29_).2.1 y hy⟩), (fun y hy _ => (pl_le hso he29_).2.2.1 y hy)⟩
  ·skip
   refine C_skip (X_then ?_)
   exact ⟨0, _, congrArg (fun e => mkA 343 e []) (ch (ch (ch (ch (ch (ch (ch (ch (ch (ch rfl rfl) rfl) rfl) rfl) rfl) rfl) rfl) rfl) rfl) (congrArg (vI .i64) ((by first | rfl | omega | (simp; done) | (simp; omega)) : 0 = (0 : Int)))), H11_, S13_, (Nat.zero_le _), (fun y hy => by simp at hy), (fun y hy h__ => absurd h__ (by rw [c23_f]; decide))⟩
 ·rintro _ w19_ ⟨i0, h, rfl, H20_, S21_, hi00, hlo0, hhi0⟩
  refine C_seq (fun _ hK38_ => ?_)
  refine cR fun _ hK39_ => ?_
  refine sm (vI .i64 (i0 : Int)) ?_
  refine sv (v := (vI .i64 (i0 : Int))) (x_assign rfl) ?_
  refine wn (hK39_ _ _ ?_)
  refine C_block ?_
  refine C_loop (γ := Nat × Bool × (List EL) × Bool × Bool) (fun x__ a__ w1__ => match x__ with | ⟨i, hb, O1, t14_v, t15_v⟩ => ∃ h : Env, a__ = mkA 343 (upd (upd (upd (upd (upd (upd (upd (upd (upd (upd h 0 (vP (some ⟨t.a, 0, none⟩))) 1 (vI .i64 1)) 4 (vB us)) 5 (vB hb)) 6 (Value.func (.func 44) #[] #[(vP (some ⟨ob, 0, none⟩)), (vP (some ⟨pb, 0, none⟩))])) 9 (vP (some ⟨b4_, 0, none⟩))) 10 (vP (some ⟨b9_, 0, none⟩))) 14 (vB t14_v)) 15 (vB t15_v)) 19 (vI .i64 (i : Int))) [] ∧ Holds w1__ (cl b9_ 105 [(vI .i64 pp.key), (vI .i64 pp.val), (vB ut)] :: cl b4_ 105 [(vI .i64 ss.key), (vI .i64 ss.val), (vB us)] :: cl t.a 79 [t.iv, t.cv, (vP (some ⟨c, 0, none⟩))] :: sl 24 2 t.iv (List.length t.xs) (t.xs.flatMap EL.cells) :: sl 59 1 t.cv (List.length (ks.map BT.a)) (pBs (ks.map BT.a)) :: kids c ks :: ro R :: cl c 58 [(vP (some ⟨fl, 0, none⟩)), (Value.func (.func 16) #[] #[])] :: outP ob pb q O1 :: F) ∧ Same w w1__ ∧ (i0 ≤ i ∧ i ≤ t.xs.length) ∧ (runA (stA ut pp) q.most (selA us ss (preI (t.xs.take i) ((ks.map BT.el).take i))) O = (O1, true))) (fun x__ => match x__ with | ⟨i, hb, O1, t14_v, t15_v⟩ => t.xs.length - i) (⟨i0, hit, O, false, false⟩) ⟨_, congrArg (fun e => mkA 343 e []) (ch (ch (ch (ch (ch (ch (ch (ch (ch (ch rfl rfl) rfl) rfl) rfl) rfl) rfl) rfl) rfl) rfl) rfl), H20_, S21_, (⟨Nat.le_refl _, hi00⟩), (itA_start hKl hse hi00 hlo0)⟩ ?_
  rintro ⟨i, hb, O1, t14_v, t15_v⟩ _ w40_ ⟨h, rfl, H41_, S42_, hil, hrun⟩
  refine C_seq (fun _ hK43_ => ?_)
  refine cR fun _ hK44_ => ?_
  refine sm (vI .i64 (i : Int)) ?_
  refine sm (vP (some ⟨t.a, 0, none⟩)) ?_
  refine sv (v := (vP (some ⟨t.a, 0, none⟩))) (by kernel_rfl) ?_
  refine sv (v := (vP (some ⟨t.a, 0, none⟩))) (by kernel_rfl) ?_
  refine sv (v := t.iv) (x_load1 rfl underlying76 rfl ((Holds.rd H41_ 2 rfl) 0 t.iv rfl)) ?_
  refine sv (v := (vI .i64 ((List.length t.xs) : Int))) (x_lenSl rfl H41_ 3 rfl underlying76) ?_
  refine sv (v := (vB (decide ((i : Int) < ((List.length t.xs) : Int))))) (x_bin rfl rfl rfl) ?_
  refine wn (hK44_ _ _ ?_)
  refine C_cond (b := decide ((i : Int) < ((List.length t.xs) : Int))) rfl (fun c45_t => ?_) (fun c45_f => ?_)
  ·have c45_tp : (i : Int) < ((List.length t.xs) : Int) := of_decide_eq_true c45_t
   obtain ⟨x_, hx_, _⟩ := elem_at t.xs i (by omega)
   have hxs_ : us = true → ss.key ≤ x_.key := hhi0 x_ (mem_dropI hx_ (by omega))
   obtain ⟨k_, hk_, _⟩ := elem_at ks i (by omega)
   obtain ⟨k0_, hk0_⟩ : ∃ k0, k0 = k_.el := ⟨_, rfl⟩
   obtain ⟨hsk_, hnk_, hwk_⟩ := kid_srt (t := t) hw hk_ hs
   have hkK_ : (ks.map BT.el)[i]? = some k0_ := by rw [hk0_]; exact map_at2 (f := BT.el) hk_
   have hbn_ := runA_bnd hrun
   have hpl_ := pre_len1 hKl hkK_ hx_
   refine C_skip (X_then (hK43_ _ _ ?_))
   refine C_seq (fun _ hK46_ => ?_)
   refine C_block ?_
   refine C_seq (fun _ hK47_ => ?_)
   refine cR fun _ hK48_ => ?_
   refine sm (vP (some ⟨t.a, 0, none⟩)) ?_
   refine sv (v := (vP (some ⟨t.a, 0, none⟩))) (by kernel_rfl) ?_
   refine sv (v := (vP (some ⟨t.a, 1, none⟩))) (by kernel_rfl) ?_
   refine sv (v := t.cv) (x_load1 rfl underlying77 rfl ((Holds.rd H41_ 2 rfl) 1 t.cv rfl)) ?_
   refine sv (v := (vI .i64 ((List.length (ks.map BT.a)) : Int))) (x_lenSl rfl H41_ 4 rfl underlying77) ?_
   refine sv (v := (vB (decide (0 < ((List.length (ks.map BT.a)) : Int))))) (x_bin rfl rfl rfl) ?_
   refine wn (hK48_ _ _ ?_)
   refine C_cond (b := decide (0 < ((List.length (ks.map BT.a)) : Int))) rfl (fun c49_t => ?_) (fun c49_f => ?_)
   ·have c49_tp : 0 < ((List.length (ks.map BT.a)) : Int) := of_decide_eq_true c49_t
    refine C_seq (fun _ hK50_ => ?_)
    refine A_start (S := fun w => Rd b9_ [(vI .i64 pp.key), (vI .i64 pp.val), (vB ut)] w ∧ Rd b4_ [(vI .i64 ss.key), (vI .i64 ss.val), (vB us)] w ∧ Rd t.a [t.iv, t.cv, (vP (some ⟨c, 0, none⟩))] w ∧ SlRd t.iv (t.xs.flatMap EL.cells) w ∧ SlRd t.cv (pBs (ks.map BT.a)) w ∧ Rd c [(vP (some ⟨fl, 0, none⟩)), (Value.func (.func 16) #[] #[])] w ∧ Sub R (hp w)) (N := 19) foll rfl rfl ?_
    have H51_ := Holds.drew_ H41_
    have hq52_ := And.intro (Holds.rd H51_ 0 rfl) (And.intro (Holds.rd H51_ 1 rfl) (And.intro (Holds.rd H51_ 2 rfl) (And.intro (Holds.slrd H51_ 3 rfl) (And.intro (Holds.slrd H51_ 4 rfl) (And.intro (Holds.rd H51_ 7 rfl) ((Holds.ro_at H51_ 6 rfl)))))))
    refine A_tk 0 (v := (vP (some ⟨t.a, 0, none⟩))) rfl (by kernel_rfl) (fun w hS => x_move rfl) hq52_ ?_
    refine A_tk 1 (v := (vP (some ⟨t.a, 0, none⟩))) rfl (by kernel_rfl) (fun w hS => by kernel_rfl) hq52_ ?_
    refine A_tk 2 (v := (vP (some ⟨t.a, 1, none⟩))) rfl (by kernel_rfl) (fun w hS => by kernel_rfl) hq52_ ?_
    refine A_tk 3 (v := t.cv) rfl (by kernel_rfl) (fun w hS => x_load1 rfl underlying77 rfl (hS.2.2.1 1 t.cv rfl)) hq52_ ?_
    refine A_tk 4 (v := (vI .i64 (i : Int))) rfl (by kernel_rfl) (fun w hS => x_move rfl) hq52_ ?_
    have hr53_ := Holds.sl_RSw H51_ 4 rfl
    refine A_tk 5 (v := (vP (some ⟨(sb t.cv), so t.cv + i, none⟩))) rfl (by kernel_rfl) (fun w hS => x_idxSlR (v := t.cv) rfl hr53_ rfl underlying77 z59 (by omega) (by omega) (by omega : _ = i) (by rw [Nat.mul_one])) hq52_ ?_
    refine A_tk 6 (v := (vP (some ⟨k_.a, 0, none⟩))) rfl (by kernel_rfl) (fun w hS => x_load1 rfl underlying59 rfl (hS.2.2.2.2.1 _ _ (pbs_at (kid_a hk_)))) hq52_ ?_
    refine A_tk 7 (v := (vI .i64 1)) rfl (by kernel_rfl) (fun w hS => x_move rfl) hq52_ ?_
    refine A_tk 8 (v := (vA #[(vI .i64 ss.key), (vI .i64 ss.val), (vB us)])) rfl (by kernel_rfl) (fun w hS => x_loadN (vs := [(vI .i64 ss.key), (vI .i64 ss.val), (vB us)]) rfl underlying105 rfl z105 rfl (Rd.cells hS.2.1 0 rfl)) hq52_ ?_
    refine A_tk 9 (v := (vA #[(vI .i64 pp.key), (vI .i64 pp.val), (vB ut)])) rfl (by kernel_rfl) (fun w hS => x_loadN (vs := [(vI .i64 pp.key), (vI .i64 pp.val), (vB ut)]) rfl underlying105 rfl z105 rfl (Rd.cells hS.1 0 rfl)) hq52_ ?_
    refine A_tk 10 (v := (vB us)) rfl (by kernel_rfl) (fun w hS => x_move rfl) hq52_ ?_
    refine A_tk 11 (v := (vB hb)) rfl (by kernel_rfl) (fun w hS => x_move rfl) hq52_ ?_
    refine A_tk 12 (v := (Value.func (.func 44) #[] #[(vP (some ⟨ob, 0, none⟩)), (vP (some ⟨pb, 0, none⟩))])) rfl (by kernel_rfl) (fun w hS => x_move rfl) hq52_ ?_
    refine A_ready (i := 13) (rs := []) (by kernel_rfl) ?_
    refine AllR.cons ?_ AllR.nil
    have H54_ := ((Holds.bring H51_ 5 rfl) :)
    have H55_ := Holds.kids_out hk_ H54_
    have H61_ := ((Holds.bring (Holds.bring (Holds.bring (Holds.bring H55_ 9 rfl) 9 rfl) 2 rfl) 9 rfl) :)
    refine A_op (ls' := #[true, true, true, true, true, true, true, true, true, true, true, true, true, true, false, false, false, false, false]) rfl (by kernel_rfl) (T_call (al := [(vP (some ⟨k_.a, 0, none⟩)), (vI .i64 1), (vA #[(vI .i64 ss.key), (vI .i64 ss.val), (vB us)]), (vA #[(vI .i64 pp.key), (vI .i64 pp.val), (vB ut)]), (vB us), (vB hb), (Value.func (.func 44) #[] #[(vP (some ⟨ob, 0, none⟩)), (vP (some ⟨pb, 0, none⟩))])]) (pre := [btp c k_, cl c 58 [(vP (some ⟨fl, 0, none⟩)), (Value.func (.func 16) #[] #[])], outP ob pb q O1]) rfl rfl cb63 (ih R c fl k_ ss pp us ut hb ob pb q O1 (hwk_) (hsk_) (Nat.le_trans hnk_ hn) (by rw [← hk0_]; omega)) H61_ ?_)
    rintro v56_ p65_ w62_ ⟨h57_, ok58_, O59_, rfl, rfl, he60_⟩ S64_ H63_
    have S66_ := Same.trans (Same.trans S42_ (Same.drew _)) S64_
    have H67_ := ((Holds.bring (Holds.bring H63_ 4 rfl) 2 rfl) :)
    have H68_ := Holds.kids_back hk_ H67_
    have hq0_ : runA (stA ut pp) q.most (selA us ss ((preI (t.xs.take i) ((ks.map BT.el).take i)) ++ k0_)) O = (O59_, ok58_) := itA_kid hrun (by rw [hk0_]; exact he60_)
    refine ⟨⟨Holds.rd H68_ 4 rfl, Holds.rd H68_ 5 rfl, Holds.rd H68_ 6 rfl, Holds.slrd H68_ 7 rfl, Holds.slrd H68_ 8 rfl, Holds.rd H68_ 2 rfl, (Holds.ro_at H68_ 1 rfl)⟩, ?_⟩
    have hq69_ := And.intro (Holds.rd H68_ 4 rfl) (And.intro (Holds.rd H68_ 5 rfl) (And.intro (Holds.rd H68_ 6 rfl) (And.intro (Holds.slrd H68_ 7 rfl) (And.intro (Holds.slrd H68_ 8 rfl) (And.intro (Holds.rd H68_ 2 rfl) ((Holds.ro_at H68_ 1 rfl)))))))
    refine A_tk 14 (v := (vT #[(vB h57_), (vB ok58_)])) rfl (by kernel_rfl) (fun w hS => x_move rfl) hq69_ ?_
    refine A_tk 15 (v := (vB h57_)) rfl (by kernel_rfl) (fun w hS => by kernel_rfl) hq69_ ?_
    refine A_tk 16 (v := (vB ok58_)) rfl (by kernel_rfl) (fun w hS => by kernel_rfl) hq69_ ?_
    refine A_tk 17 (v := (vB h57_)) rfl (by kernel_rfl) (fun w hS => x_assign rfl) hq69_ ?_
    refine A_tk 18 (v := (vB ok58_)) rfl (by kernel_rfl) (fun w hS => x_assign rfl) hq69_ ?_
    refine A_done (by kernel_rfl) ?_
    refine (X_then (hK50_ _ _ ?_))
    refine cR fun _ hK70_ => ?_
    refine sm (vB ok58_) ?_
    refine sv (v := (vB (!ok58_))) (x_not rfl) ?_
    refine wn (hK70_ _ _ ?_)
    refine C_cond (b := !ok58_) rfl (fun c71_t => ?_) (fun c71_f => ?_)
    ·skip
     have hq1_ := hq0_
     rw [show ok58_ = false by simpa using c71_t] at hq1_
     refine cR fun _ hK72_ => ?_
     refine sm (vB h57_) ?_
     refine sv (v := (vB h57_)) (x_assign rfl) ?_
     refine sv (v := (vB false)) (x_assign rfl) ?_
     refine wn (hK72_ _ _ ?_)
     refine C_ret (X_thenR (X_blkR (X_thenR (X_thenR (X_blkR (X_thenR (X_blkR (X_thenR ?_))))))))
     refine R_any (v := (vT #[(vB h57_), (vB false)])) (run_results2 rfl rfl rfl) ?_
     have H73_ := ((Holds.bring (Holds.bring (Holds.bring H68_ 8 rfl) 8 rfl) 8 rfl) :)
     have H74_ := Holds.node_in (t := t) H73_
     have H75_ := Holds.pkF H74_ [1, 0, 0, 0] 2
     exact ⟨_, _, rfl, ⟨h57_, false, O59_, rfl, rfl, (finA_kid hKl hkK_ hq1_)⟩, S66_, H75_⟩
    ·skip
     have hq1_ := hq0_
     rw [show ok58_ = true by simpa using c71_f] at hq1_
     refine C_skip (X_then (hK47_ _ _ ?_))
     refine C_cut (fun a__ w1__ => ∃ a5_v : Bool, ∃ h : Env, a__ = mkA 343 (upd (upd (upd (upd (upd (upd (upd (upd (upd (upd h 0 (vP (some ⟨t.a, 0, none⟩))) 1 (vI .i64 1)) 4 (vB us)) 5 (vB a5_v)) 6 (Value.func (.func 44) #[] #[(vP (some ⟨ob, 0, none⟩)), (vP (some ⟨pb, 0, none⟩))])) 9 (vP (some ⟨b4_, 0, none⟩))) 10 (vP (some ⟨b9_, 0, none⟩))) 14 (vB t14_v)) 15 (vB t15_v)) 19 (vI .i64 (i : Int))) [] ∧ Holds w1__ (kids c ks :: ro R :: cl c 58 [(vP (some ⟨fl, 0, none⟩)), (Value.func (.func 16) #[] #[])] :: outP ob pb q O59_ :: cl b9_ 105 [(vI .i64 pp.key), (vI .i64 pp.val), (vB ut)] :: cl b4_ 105 [(vI .i64 ss.key), (vI .i64 ss.val), (vB us)] :: cl t.a 79 [t.iv, t.cv, (vP (some ⟨c, 0, none⟩))] :: sl 24 2 t.iv (List.length t.xs) (t.xs.flatMap EL.cells) :: sl 59 1 t.cv (List.length (ks.map BT.a)) (pBs (ks.map BT.a)) :: F) ∧ Same w w1__) ?_ ?_
     ·refine C_seq (fun _ hK79_ => ?_)
      refine A_start (S := fun w => Rd c [(vP (some ⟨fl, 0, none⟩)), (Value.func (.func 16) #[] #[])] w ∧ Rd b4_ [(vI .i64 ss.key), (vI .i64 ss.val), (vB us)] w ∧ Rd t.a [t.iv, t.cv, (vP (some ⟨c, 0, none⟩))] w ∧ SlRd t.iv (t.xs.flatMap EL.cells) w ∧ SlRd t.cv (pBs (ks.map BT.a)) w ∧ Sub R (hp w)) (N := 30) foll rfl rfl ?_
      have H80_ := Holds.drew_ H68_
      have hq81_ := And.intro (Holds.rd H80_ 2 rfl) (And.intro (Holds.rd H80_ 5 rfl) (And.intro (Holds.rd H80_ 6 rfl) (And.intro (Holds.slrd H80_ 7 rfl) (And.intro (Holds.slrd H80_ 8 rfl) ((Holds.ro_at H80_ 1 rfl))))))
      refine A_tk 0 (v := (vB us)) rfl (by kernel_rfl) (fun w hS => x_move rfl) hq81_ ?_
      refine A_tk 1 (v := (vB (!us))) rfl (by kernel_rfl) (fun w hS => x_not rfl) hq81_ ?_
      refine A_tk 2 (v := (vB (!us))) rfl (by kernel_rfl) (fun w hS => x_move rfl) hq81_ ?_
      rcases Bool.eq_false_or_eq_true (!us) with c82_t | c82_f
      ·skip
       refine A_tkY 3 (j := 2) (dj := 81) (b := true) (v := (vB h57_)) rfl (by kernel_rfl) rfl rfl (congrArg vB c82_t) (fun w hS => x_move rfl) hq81_ ?_
       refine A_tkY 4 (j := 2) (dj := 81) (b := true) (v := (vB (!h57_))) rfl (by kernel_rfl) rfl rfl (congrArg vB c82_t) (fun w hS => x_not rfl) hq81_ ?_
       refine A_tk 5 (v := (vB (!h57_))) rfl (by kernel_rfl) (fun w hS => (x_pickT (congrArg vB c82_t) rfl)) hq81_ ?_
       refine A_tk 6 (v := (vB (!h57_))) rfl (by kernel_rfl) (fun w hS => x_move rfl) hq81_ ?_
       rcases Bool.eq_false_or_eq_true (!h57_) with c83_t | c83_f
       ·skip
        refine A_tkY 7 (j := 6) (dj := 85) (b := true) (v := (vP (some ⟨b4_, 2, none⟩))) rfl (by kernel_rfl) rfl rfl (congrArg vB c83_t) (fun w hS => by kernel_rfl) hq81_ ?_
        refine A_tkY 8 (j := 6) (dj := 85) (b := true) (v := (vB us)) rfl (by kernel_rfl) rfl rfl (congrArg vB c83_t) (fun w hS => x_load1 rfl underlying4 rfl (hS.2.1 2 (vB us) rfl)) hq81_ ?_
        refine A_tk 9 (v := (vB us)) rfl (by kernel_rfl) (fun w hS => (x_pickT (congrArg vB c83_t) rfl)) hq81_ ?_
        refine A_tk 10 (v := (vB us)) rfl (by kernel_rfl) (fun w hS => x_move rfl) hq81_ ?_
        rcases Bool.eq_false_or_eq_true (us) with c84_t | c84_f
        ·skip
         simp [c84_t] at c82_t
        ·skip
         refine A_tkN 11 (j := 10) (dj := 89) (b := false) rfl (by kernel_rfl) rfl rfl (congrArg vB c84_f) (by decide) hq81_ ?_
         refine A_tkN 12 (j := 10) (dj := 89) (b := false) rfl (by kernel_rfl) rfl rfl (congrArg vB c84_f) (by decide) hq81_ ?_
         refine A_tkN 13 (j := 10) (dj := 89) (b := false) rfl (by kernel_rfl) rfl rfl (congrArg vB c84_f) (by decide) hq81_ ?_
         refine A_tkN 14 (j := 10) (dj := 89) (b := false) rfl (by kernel_rfl) rfl rfl (congrArg vB c84_f) (by decide) hq81_ ?_
         refine A_tkN 15 (j := 10) (dj := 89) (b := false) rfl (by kernel_rfl) rfl rfl (congrArg vB c84_f) (by decide) hq81_ ?_
         refine A_tkN 16 (j := 10) (dj := 89) (b := false) rfl (by kernel_rfl) rfl rfl (congrArg vB c84_f) (by decide) hq81_ ?_
         refine A_tkN 17 (j := 10) (dj := 89) (b := false) rfl (by kernel_rfl) rfl rfl (congrArg vB c84_f) (by decide) hq81_ ?_
         refine A_tkN 18 (j := 10) (dj := 89) (b := false) rfl (by kernel_rfl) rfl rfl (congrArg vB c84_f) (by decide) hq81_ ?_
         refine A_tkN 19 (j := 10) (dj := 89) (b := false) rfl (by kernel_rfl) rfl rfl (congrArg vB c84_f) (by decide) hq81_ ?_
         refine A_tkN 20 (j := 10) (dj := 89) (b := false) rfl (by kernel_rfl) rfl rfl (congrArg vB c84_f) (by decide) hq81_ ?_
         refine A_tkN 21 (j := 10) (dj := 89) (b := false) rfl (by kernel_rfl) rfl rfl (congrArg vB c84_f) (by decide) hq81_ ?_
         refine A_tkN 22 (j := 10) (dj := 89) (b := false) rfl (by kernel_rfl) rfl rfl (congrArg vB c84_f) (by decide) hq81_ ?_
         refine A_tkN 23 (j := 10) (dj := 89) (b := false) rfl (by kernel_rfl) rfl rfl (congrArg vB c84_f) (by decide) hq81_ ?_
         refine A_tkN 24 (j := 10) (dj := 89) (b := false) rfl (by kernel_rfl) rfl rfl (congrArg vB c84_f) (by decide) hq81_ ?_
         refine A_tkN 25 (j := 10) (dj := 89) (b := false) rfl (by kernel_rfl) rfl rfl (congrArg vB c84_f) (by decide) hq81_ ?_
         refine A_tkN 26 (j := 10) (dj := 89) (b := false) rfl (by kernel_rfl) rfl rfl (congrArg vB c84_f) (by decide) hq81_ ?_
         refine A_tkN 27 (j := 10) (dj := 89) (b := false) rfl (by kernel_rfl) rfl rfl (congrArg vB c84_f) (by decide) hq81_ ?_
         refine A_tkN 28 (j := 10) (dj := 89) (b := false) rfl (by kernel_rfl) rfl rfl (congrArg vB c84_f) (by decide) hq81_ ?_
         refine A_tk 29 (v := (vB false)) rfl (by kernel_rfl) (fun w hS => (x_pickF (congrArg vB c84_f) rfl)) hq81_ ?_
         refine A_done (by kernel_rfl) ?_
         refine (X_then (hK79_ _ _ ?_))
         refine C_condF rfl ?_
         refine C_skip (X_then ?_)
         exact ⟨h57_, _, congrArg (fun e => mkA 343 e []) (ch (ch (ch (ch (ch (ch (ch (ch (ch (ch rfl rfl) rfl) rfl) rfl) rfl) rfl) rfl) rfl) rfl) rfl), H80_, (Same.trans S66_ (Same.drew _))⟩
       ·skip
        refine A_tkN 7 (j := 6) (dj := 85) (b := false) rfl (by kernel_rfl) rfl rfl (congrArg vB c83_f) (by decide) hq81_ ?_
        refine A_tkN 8 (j := 6) (dj := 85) (b := false) rfl (by kernel_rfl) rfl rfl (congrArg vB c83_f) (by decide) hq81_ ?_
        refine A_tk 9 (v := (vB false)) rfl (by kernel_rfl) (fun w hS => (x_pickF (congrArg vB c83_f) rfl)) hq81_ ?_
        refine A_tk 10 (v := (vB false)) rfl (by kernel_rfl) (fun w hS => x_move rfl) hq81_ ?_
        refine A_tkN 11 (j := 10) (dj := 89) (b := false) rfl (by kernel_rfl) rfl rfl rfl (by decide) hq81_ ?_
        refine A_tkN 12 (j := 10) (dj := 89) (b := false) rfl (by kernel_rfl) rfl rfl rfl (by decide) hq81_ ?_
        refine A_tkN 13 (j := 10) (dj := 89) (b := false) rfl (by kernel_rfl) rfl rfl rfl (by decide) hq81_ ?_
        refine A_tkN 14 (j := 10) (dj := 89) (b := false) rfl (by kernel_rfl) rfl rfl rfl (by decide) hq81_ ?_
        refine A_tkN 15 (j := 10) (dj := 89) (b := false) rfl (by kernel_rfl) rfl rfl rfl (by decide) hq81_ ?_
        refine A_tkN 16 (j := 10) (dj := 89) (b := false) rfl (by kernel_rfl) rfl rfl rfl (by decide) hq81_ ?_
        refine A_tkN 17 (j := 10) (dj := 89) (b := false) rfl (by kernel_rfl) rfl rfl rfl (by decide) hq81_ ?_
        refine A_tkN 18 (j := 10) (dj := 89) (b := false) rfl (by kernel_rfl) rfl rfl rfl (by decide) hq81_ ?_
        refine A_tkN 19 (j := 10) (dj := 89) (b := false) rfl (by kernel_rfl) rfl rfl rfl (by decide) hq81_ ?_
        refine A_tkN 20 (j := 10) (dj := 89) (b := false) rfl (by kernel_rfl) rfl rfl rfl (by decide) hq81_ ?_
        refine A_tkN 21 (j := 10) (dj := 89) (b := false) rfl (by kernel_rfl) rfl rfl rfl (by decide) hq81_ ?_
        refine A_tkN 22 (j := 10) (dj := 89) (b := false) rfl (by kernel_rfl) rfl rfl rfl (by decide) hq81_ ?_
        refine A_tkN 23 (j := 10) (dj := 89) (b := false) rfl (by kernel_rfl) rfl rfl rfl (by decide) hq81_ ?_
        refine A_tkN 24 (j := 10) (dj := 89) (b := false) rfl (by kernel_rfl) rfl rfl rfl (by decide) hq81_ ?_
        refine A_tkN 25 (j := 10) (dj := 89) (b := false) rfl (by kernel_rfl) rfl rfl rfl (by decide) hq81_ ?_
        refine A_tkN 26 (j := 10) (dj := 89) (b := false) rfl (by kernel_rfl) rfl rfl rfl (by decide) hq81_ ?_
        refine A_tkN 27 (j := 10) (dj := 89) (b := false) rfl (by kernel_rfl) rfl rfl rfl (by decide) hq81_ ?_
        refine A_tkN 28 (j := 10) (dj := 89) (b := false) rfl (by kernel_rfl) rfl rfl rfl (by decide) hq81_ ?_
        refine A_tk 29 (v := (vB false)) rfl (by kernel_rfl) (fun w hS => (x_pickF rfl rfl)) hq81_ ?_
        refine A_done (by kernel_rfl) ?_
        refine (X_then (hK79_ _ _ ?_))
        refine C_condF rfl ?_
        refine C_skip (X_then ?_)
        exact ⟨h57_, _, congrArg (fun e => mkA 343 e []) (ch (ch (ch (ch (ch (ch (ch (ch (ch (ch rfl rfl) rfl) rfl) rfl) rfl) rfl) rfl) rfl) rfl) rfl), H80_, (Same.trans S66_ (Same.drew _))⟩
      ·skip
       refine A_tkN 3 (j := 2) (dj := 81) (b := false) rfl (by kernel_rfl) rfl rfl (congrArg vB c82_f) (by decide) hq81_ ?_
       refine A_tkN 4 (j := 2) (dj := 81) (b := false) rfl (by kernel_rfl) rfl rfl (congrArg vB c82_f) (by decide) hq81_ ?_
       refine A_tk 5 (v := (vB false)) rfl (by kernel_rfl) (fun w hS => (x_pickF (congrArg vB c82_f) rfl)) hq81_ ?_
       refine A_tk 6 (v := (vB false)) rfl (by kernel_rfl) (fun w hS => x_move rfl) hq81_ ?_
       refine A_tkN 7 (j := 6) (dj := 85) (b := false) rfl (by kernel_rfl) rfl rfl rfl (by decide) hq81_ ?_
       refine A_tkN 8 (j := 6) (dj := 85) (b := false) rfl (by kernel_rfl) rfl rfl rfl (by decide) hq81_ ?_
       refine A_tk 9 (v := (vB false)) rfl (by kernel_rfl) (fun w hS => (x_pickF rfl rfl)) hq81_ ?_
       refine A_tk 10 (v := (vB false)) rfl (by kernel_rfl) (fun w hS => x_move rfl) hq81_ ?_
       refine A_tkN 11 (j := 10) (dj := 89) (b := false) rfl (by kernel_rfl) rfl rfl rfl (by decide) hq81_ ?_
       refine A_tkN 12 (j := 10) (dj := 89) (b := false) rfl (by kernel_rfl) rfl rfl rfl (by decide) hq81_ ?_
       refine A_tkN 13 (j := 10) (dj := 89) (b := false) rfl (by kernel_rfl) rfl rfl rfl (by decide) hq81_ ?_
       refine A_tkN 14 (j := 10) (dj := 89) (b := false) rfl (by kernel_rfl) rfl rfl rfl (by decide) hq81_ ?_
       refine A_tkN 15 (j := 10) (dj := 89) (b := false) rfl (by kernel_rfl) rfl rfl rfl (by decide) hq81_ ?_
       refine A_tkN 16 (j := 10) (dj := 89) (b := false) rfl (by kernel_rfl) rfl rfl rfl (by decide) hq81_ ?_
       refine A_tkN 17 (j := 10) (dj := 89) (b := false) rfl (by kernel_rfl) rfl rfl rfl (by decide) hq81_ ?_
       refine A_tkN 18 (j := 10) (dj := 89) (b := false) rfl (by kernel_rfl) rfl rfl rfl (by decide) hq81_ ?_
       refine A_tkN 19 (j := 10) (dj := 89) (b := false) rfl (by kernel_rfl) rfl rfl rfl (by decide) hq81_ ?_
       refine A_tkN 20 (j := 10) (dj := 89) (b := false) rfl (by kernel_rfl) rfl rfl rfl (by decide) hq81_ ?_
       refine A_tkN 21 (j := 10) (dj := 89) (b := false) rfl (by kernel_rfl) rfl rfl rfl (by decide) hq81_ ?_
       refine A_tkN 22 (j := 10) (dj := 89) (b := false) rfl (by kernel_rfl) rfl rfl rfl (by decide) hq81_ ?_
       refine A_tkN 23 (j := 10) (dj := 89) (b := false) rfl (by kernel_rfl) rfl rfl rfl (by decide) hq81_ ?_
       refine A_tkN 24 (j := 10) (dj := 89) (b := false) rfl (by kernel_rfl) rfl rfl rfl (by decide) hq81_ ?_
       refine A_tkN 25 (j := 10) (dj := 89) (b := false) rfl (by kernel_rfl) rfl rfl rfl (by decide) hq81_ ?_
       refine A_tkN 26 (j := 10) (dj := 89) (b := false) rfl (by kernel_rfl) rfl rfl rfl (by decide) hq81_ ?_
       refine A_tkN 27 (j := 10) (dj := 89) (b := false) rfl (by kernel_rfl) rfl rfl rfl (by decide) hq81_ ?_
       refine A_tkN 28 (j := 10) (dj := 89) (b := false) rfl (by kernel_rfl) rfl rfl rfl (by decide) hq81_ ?_
       refine A_tk 29 (v := (vB false)) rfl (by kernel_rfl) (fun w hS => (x_pickF rfl rfl)) hq81_ ?_
       refine A_done (by kernel_rfl) ?_
       refine (X_then (hK79_ _ _ ?_))
       refine C_condF rfl ?_
       refine C_skip (X_then ?_)
       exact ⟨h57_, _, congrArg (fun e => mkA 343 e []) (ch (ch (ch (ch (ch (ch (ch (ch (ch (ch rfl rfl) rfl) rfl) rfl) rfl) rfl) rfl) rfl) rfl) rfl), H80_, (Same.trans S66_ (Same.drew _))⟩
     ·rintro _ w76_ ⟨a5_v, h, rfl, H77_, S78_⟩
      refine cR fun _ hK85_ => ?_
      refine sv (v := (vB true)) (x_assign rfl) ?_
      refine wn (hK85_ _ _ ?_)
      refine C_cut (fun a__ w1__ => ∃ t14_v : Bool, ∃ t15_v : Bool, ∃ h : Env, a__ = mkA 343 (upd (upd (upd (upd (upd (upd (upd (upd (upd (upd h 0 (vP (some ⟨t.a, 0, none⟩))) 1 (vI .i64 1)) 4 (vB us)) 5 (vB true)) 6 (Value.func (.func 44) #[] #[(vP (some ⟨ob, 0, none⟩)), (vP (some ⟨pb, 0, none⟩))])) 9 (vP (some ⟨b4_, 0, none⟩))) 10 (vP (some ⟨b9_, 0, none⟩))) 14 (vB t14_v)) 15 (vB t15_v)) 19 (vI .i64 (i : Int))) [] ∧ Holds w1__ (kids c ks :: ro R :: cl c 58 [(vP (some ⟨fl, 0, none⟩)), (Value.func (.func 16) #[] #[])] :: outP ob pb q O59_ :: cl b9_ 105 [(vI .i64 pp.key), (vI .i64 pp.val), (vB ut)] :: cl b4_ 105 [(vI .i64 ss.key), (vI .i64 ss.val), (vB us)] :: cl t.a 79 [t.iv, t.cv, (vP (some ⟨c, 0, none⟩))] :: sl 24 2 t.iv (List.length t.xs) (t.xs.flatMap EL.cells) :: sl 59 1 t.cv (List.length (ks.map BT.a)) (pBs (ks.map BT.a)) :: F) ∧ Same w w1__ ∧ ((stA ut pp x_) = false)) ?_ ?_
      ·refine C_seq (fun _ hK89_ => ?_)
       refine A_start (S := fun w => Rd c [(vP (some ⟨fl, 0, none⟩)), (Value.func (.func 16) #[] #[])] w ∧ Rd b9_ [(vI .i64 pp.key), (vI .i64 pp.val), (vB ut)] w ∧ Rd t.a [t.iv, t.cv, (vP (some ⟨c, 0, none⟩))] w ∧ SlRd t.iv (t.xs.flatMap EL.cells) w ∧ SlRd t.cv (pBs (ks.map BT.a)) w ∧ Sub R (hp w)) (N := 22) foll rfl rfl ?_
       have H90_ := Holds.drew_ H77_
       have hq91_ := And.intro (Holds.rd H90_ 2 rfl) (And.intro (Holds.rd H90_ 4 rfl) (And.intro (Holds.rd H90_ 6 rfl) (And.intro (Holds.slrd H90_ 7 rfl) (And.intro (Holds.slrd H90_ 8 rfl) ((Holds.ro_at H90_ 1 rfl))))))
       refine A_tk 0 (v := (vP (some ⟨b9_, 2, none⟩))) rfl (by kernel_rfl) (fun w hS => by kernel_rfl) hq91_ ?_
       refine A_tk 1 (v := (vB ut)) rfl (by kernel_rfl) (fun w hS => x_load1 rfl underlying4 rfl (hS.2.1 2 (vB ut) rfl)) hq91_ ?_
       refine A_tk 2 (v := (vB ut)) rfl (by kernel_rfl) (fun w hS => x_move rfl) hq91_ ?_
       rcases Bool.eq_false_or_eq_true (ut) with c92_t | c92_f
       ·skip
        refine A_tkY 3 (j := 2) (dj := 111) (b := true) (v := (vP (some ⟨t.a, 0, none⟩))) rfl (by kernel_rfl) rfl rfl (congrArg vB c92_t) (fun w hS => x_move rfl) hq91_ ?_
        refine A_tkY 4 (j := 2) (dj := 111) (b := true) (v := (vP (some ⟨t.a, 0, none⟩))) rfl (by kernel_rfl) rfl rfl (congrArg vB c92_t) (fun w hS => by kernel_rfl) hq91_ ?_
        refine A_tkY 5 (j := 2) (dj := 111) (b := true) (v := (vP (some ⟨t.a, 2, none⟩))) rfl (by kernel_rfl) rfl rfl (congrArg vB c92_t) (fun w hS => by kernel_rfl) hq91_ ?_
        refine A_tkY 6 (j := 2) (dj := 111) (b := true) (v := (vP (some ⟨c, 0, none⟩))) rfl (by kernel_rfl) rfl rfl (congrArg vB c92_t) (fun w hS => x_load1 rfl underlying60 rfl (hS.2.2.1 2 (vP (some ⟨c, 0, none⟩)) rfl)) hq91_ ?_
        refine A_tkY 7 (j := 2) (dj := 111) (b := true) (v := (vP (some ⟨c, 0, none⟩))) rfl (by kernel_rfl) rfl rfl (congrArg vB c92_t) (fun w hS => by kernel_rfl) hq91_ ?_
        refine A_tkY 8 (j := 2) (dj := 111) (b := true) (v := (vP (some ⟨c, 1, none⟩))) rfl (by kernel_rfl) rfl rfl (congrArg vB c92_t) (fun w hS => by kernel_rfl) hq91_ ?_
        refine A_tkY 9 (j := 2) (dj := 111) (b := true) (v := (Value.func (.func 16) #[] #[])) rfl (by kernel_rfl) rfl rfl (congrArg vB c92_t) (fun w hS => x_load1 rfl underlying53 rfl (hS.1 1 (Value.func (.func 16) #[] #[]) rfl)) hq91_ ?_
        refine A_tkY 10 (j := 2) (dj := 111) (b := true) (v := (vP (some ⟨t.a, 0, none⟩))) rfl (by kernel_rfl) rfl rfl (congrArg vB c92_t) (fun w hS => x_move rfl) hq91_ ?_
        refine A_tkY 11 (j := 2) (dj := 111) (b := true) (v := (vP (some ⟨t.a, 0, none⟩))) rfl (by kernel_rfl) rfl rfl (congrArg vB c92_t) (fun w hS => by kernel_rfl) hq91_ ?_
        refine A_tkY 12 (j := 2) (dj := 111) (b := true) (v := (vP (some ⟨t.a, 0, none⟩))) rfl (by kernel_rfl) rfl rfl (congrArg vB c92_t) (fun w hS => by kernel_rfl) hq91_ ?_
        refine A_tkY 13 (j := 2) (dj := 111) (b := true) (v := t.iv) rfl (by kernel_rfl) rfl rfl (congrArg vB c92_t) (fun w hS => x_load1 rfl underlying76 rfl (hS.2.2.1 0 t.iv rfl)) hq91_ ?_
        refine A_tkY 14 (j := 2) (dj := 111) (b := true) (v := (vI .i64 (i : Int))) rfl (by kernel_rfl) rfl rfl (congrArg vB c92_t) (fun w hS => x_move rfl) hq91_ ?_
        have hr93_ := Holds.sl_RSw H90_ 7 rfl
        refine A_tkY 15 (j := 2) (dj := 111) (b := true) (v := (vP (some ⟨(sb t.iv), so t.iv + (i * 2 + 0), none⟩))) rfl (by kernel_rfl) rfl rfl (congrArg vB c92_t) (fun w hS => x_idxSlR (v := t.iv) rfl hr93_ rfl underlying76 z24 (by omega) (by omega) (by omega : _ = i) rfl) hq91_ ?_
        refine A_tkY 16 (j := 2) (dj := 111) (b := true) (v := (vA #[(vI .i64 x_.key), (vI .i64 x_.val)])) rfl (by kernel_rfl) rfl rfl (congrArg vB c92_t) (fun w hS => x_loadN (vs := [(vI .i64 x_.key), (vI .i64 x_.val)]) rfl underlying24 rfl z24 rfl (SlRd.cells hS.2.2.2.1 (i * 2 + 0) (fm_cells EL.len hx_ (i := 0) rfl))) hq91_ ?_
        refine A_tkY 17 (j := 2) (dj := 111) (b := true) (v := (vP (some ⟨b9_, 0, none⟩))) rfl (by kernel_rfl) rfl rfl (congrArg vB c92_t) (fun w hS => by kernel_rfl) hq91_ ?_
        refine A_tkY 18 (j := 2) (dj := 111) (b := true) (v := (vA #[(vI .i64 pp.key), (vI .i64 pp.val)])) rfl (by kernel_rfl) rfl rfl (congrArg vB c92_t) (fun w hS => x_loadN (vs := [(vI .i64 pp.key), (vI .i64 pp.val)]) rfl underlying24 rfl z24 rfl (Rd.cells hS.2.1 0 rfl)) hq91_ ?_
        refine A_ready (i := 19) (rs := []) (by kernel_rfl) ?_
        refine AllR.cons ?_ AllR.nil
        have H95_ := ((Holds.bring H90_ 1 rfl) :)
        refine A_opYes (ls' := #[true, true, true, true, true, true, true, true, true, true, true, true, true, true, true, true, true, true, true, true, false, false]) (j := 2) (dj := 111) (b := true) rfl (by kernel_rfl) rfl rfl (congrArg vB c92_t) (T_call (al := [(vA #[(vI .i64 x_.key), (vI .i64 x_.val)]), (vA #[(vI .i64 pp.key), (vI .i64 pp.val)])]) (pre := []) rfl rfl cb16 (btLess R x_ pp) H95_ ?_)
        rintro v94_ p99_ w96_ ⟨rfl, rfl⟩ S98_ H97_
        have S100_ := Same.trans (Same.trans S78_ (Same.drew _)) S98_
        refine ⟨⟨Holds.rd H97_ 2 rfl, Holds.rd H97_ 4 rfl, Holds.rd H97_ 6 rfl, Holds.slrd H97_ 7 rfl, Holds.slrd H97_ 8 rfl, (Holds.ro_at H97_ 0 rfl)⟩, ?_⟩
        have hq101_ := And.intro (Holds.rd H97_ 2 rfl) (And.intro (Holds.rd H97_ 4 rfl) (And.intro (Holds.rd H97_ 6 rfl) (And.intro (Holds.slrd H97_ 7 rfl) (And.intro (Holds.slrd H97_ 8 rfl) ((Holds.ro_at H97_ 0 rfl))))))
        refine A_tkY 20 (j := 2) (dj := 111) (b := true) (v := (vB (decide (¬ (x_.key < pp.key))))) rfl (by kernel_rfl) rfl rfl (congrArg vB c92_t) (fun w hS => x_notP rfl) hq101_ ?_
        refine A_tk 21 (v := (vB (decide (¬ (x_.key < pp.key))))) rfl (by kernel_rfl) (fun w hS => (x_pickT (congrArg vB c92_t) rfl)) hq101_ ?_
        refine A_done (by kernel_rfl) ?_
        refine (X_then (hK89_ _ _ ?_))
        refine C_cond (b := decide (¬ (x_.key < pp.key))) rfl (fun c102_t => ?_) (fun c102_f => ?_)
        ·have c102_tp : ¬ (x_.key < pp.key) := of_decide_eq_true c102_t
         refine cR fun _ hK103_ => ?_
         refine sm (vB true) ?_
         refine sv (v := (vB true)) (x_assign rfl) ?_
         refine sv (v := (vB false)) (x_assign rfl) ?_
         refine wn (hK103_ _ _ ?_)
         refine C_ret (X_thenR (X_blkR (X_thenR (X_thenR (X_blkR (X_thenR (X_blkR (X_thenR ?_))))))))
         refine R_any (v := (vT #[(vB true), (vB false)])) (run_results2 rfl rfl rfl) ?_
         have H104_ := ((Holds.bring (Holds.bring (Holds.bring (Holds.bring H97_ 1 rfl) 8 rfl) 8 rfl) 8 rfl) :)
         have H105_ := Holds.node_in (t := t) H104_
         have H106_ := Holds.pkF H105_ [1, 0, 0, 0] 2
         exact ⟨_, _, rfl, ⟨true, false, O59_, rfl, rfl, (finA_item hKl hkK_ hx_ (itA_stop hq1_ hxs_ (by simp [stA, c92_t]; have hz__ := c102_tp; omega)))⟩, S100_, H106_⟩
        ·have c102_fp : ¬ (¬ (x_.key < pp.key)) := of_decide_eq_false c102_f
         refine C_skip (X_then ?_)
         have H107_ := Holds.pkF H97_ [1, 0, 0, 0, 0, 0, 0, 0, 0] 0
         exact ⟨t14_v, t15_v, _, congrArg (fun e => mkA 343 e []) (ch (ch (ch (ch (ch (ch (ch (ch (ch (ch rfl rfl) rfl) rfl) rfl) rfl) rfl) rfl) rfl) rfl) rfl), H107_, S100_, (by simp [stA]; have hz__ := c102_fp; omega)⟩
       ·skip
        refine A_tkN 3 (j := 2) (dj := 111) (b := false) rfl (by kernel_rfl) rfl rfl (congrArg vB c92_f) (by decide) hq91_ ?_
        refine A_tkN 4 (j := 2) (dj := 111) (b := false) rfl (by kernel_rfl) rfl rfl (congrArg vB c92_f) (by decide) hq91_ ?_
        refine A_tkN 5 (j := 2) (dj := 111) (b := false) rfl (by kernel_rfl) rfl rfl (congrArg vB c92_f) (by decide) hq91_ ?_
        refine A_tkN 6 (j := 2) (dj := 111) (b := false) rfl (by kernel_rfl) rfl rfl (congrArg vB c92_f) (by decide) hq91_ ?_
        refine A_tkN 7 (j := 2) (dj := 111) (b := false) rfl (by kernel_rfl) rfl rfl (congrArg vB c92_f) (by decide) hq91_ ?_
        refine A_tkN 8 (j := 2) (dj := 111) (b := false) rfl (by kernel_rfl) rfl rfl (congrArg vB c92_f) (by decide) hq91_ ?_
        refine A_tkN 9 (j := 2) (dj := 111) (b := false) rfl (by kernel_rfl) rfl rfl (congrArg vB c92_f) (by decide) hq91_ ?_
        refine A_tkN 10 (j := 2) (dj := 111) (b := false) rfl (by kernel_rfl) rfl rfl (congrArg vB c92_f) (by decide) hq91_ ?_
        refine A_tkN 11 (j := 2) (dj := 111) (b := false) rfl (by kernel_rfl) rfl rfl (congrArg vB c92_f) (by decide) hq91_ ?_
        refine A_tkN 12 (j := 2) (dj := 111) (b := false) rfl (by kernel_rfl) rfl rfl (congrArg vB c92_f) (by decide) hq91_ ?_
        refine A_tkN 13 (j := 2) (dj := 111) (b := false) rfl (by kernel_rfl) rfl rfl (congrArg vB c92_f) (by decide) hq91_ ?_
        refine A_tkN 14 (j := 2) (dj := 111) (b := false) rfl (by kernel_rfl) rfl rfl (congrArg vB c92_f) (by decide) hq91_ ?_
        refine A_tkN 15 (j := 2) (dj := 111) (b := false) rfl (by kernel_rfl) rfl rfl (congrArg vB c92_f) (by decide) hq91_ ?_
        refine A_tkN 16 (j := 2) (dj := 111) (b := false) rfl (by kernel_rfl) rfl rfl (congrArg vB c92_f) (by decide) hq91_ ?_
        refine A_tkN 17 (j := 2) (dj := 111) (b := false) rfl (by kernel_rfl) rfl rfl (congrArg vB c92_f) (by decide) hq91_ ?_
        refine A_tkN 18 (j := 2) (dj := 111) (b := false) rfl (by kernel_rfl) rfl rfl (congrArg vB c92_f) (by decide) hq91_ ?_
        refine A_tkN 19 (j := 2) (dj := 111) (b := false) rfl (by kernel_rfl) rfl rfl (congrArg vB c92_f) (by decide) hq91_ ?_
        refine A_tkN 20 (j := 2) (dj := 111) (b := false) rfl (by kernel_rfl) rfl rfl (congrArg vB c92_f) (by decide) hq91_ ?_
        refine A_tk 21 (v := (vB false)) rfl (by kernel_rfl) (fun w hS => (x_pickF (congrArg vB c92_f) rfl)) hq91_ ?_
        refine A_done (by kernel_rfl) ?_
        refine (X_then (hK89_ _ _ ?_))
        refine C_condF rfl ?_
        refine C_skip (X_then ?_)
        exact ⟨t14_v, t15_v, _, congrArg (fun e => mkA 343 e []) (ch (ch (ch (ch (ch (ch (ch (ch (ch (ch rfl rfl) rfl) rfl) rfl) rfl) rfl) rfl) rfl) rfl) rfl), H90_, (Same.trans S78_ (Same.drew _)), (by simp [stA, c92_f])⟩
      ·rintro _ w86_ ⟨t14_v, t15_v, h, rfl, H87_, S88_, hst_⟩
       refine cR fun _ hK108_ => ?_
       refine sm (Value.func (.func 44) #[] #[(vP (some ⟨ob, 0, none⟩)), (vP (some ⟨pb, 0, none⟩))]) ?_
       refine sm (vP (some ⟨t.a, 0, none⟩)) ?_
       refine sv (v := (vP (some ⟨t.a, 0, none⟩))) (by kernel_rfl) ?_
       refine sv (v := (vP (some ⟨t.a, 0, none⟩))) (by kernel_rfl) ?_
       refine sv (v := t.iv) (x_load1 rfl underlying76 rfl ((Holds.rd H87_ 6 rfl) 0 t.iv rfl)) ?_
       refine sm (vI .i64 (i : Int)) ?_
       have hr109_ := Holds.sl_RSw H87_ 7 rfl
       refine sv (v := (vP (some ⟨(sb t.iv), so t.iv + (i * 2 + 0), none⟩))) (x_idxSlR (v := t.iv) rfl hr109_ rfl underlying76 z24 (by omega) (by omega) (by omega : _ = i) rfl) ?_
       refine sv (v := (vA #[(vI .i64 x_.key), (vI .i64 x_.val)])) (x_loadN (vs := [(vI .i64 x_.key), (vI .i64 x_.val)]) rfl underlying24 rfl z24 rfl (SlRd.cells (Holds.slrd H87_ 7 rfl) (i * 2 + 0) (fm_cells EL.len hx_ (i := 0) rfl))) ?_
       have hq2_ := itA_item hq1_ hxs_ hst_
       have hbv_ := runA_bnd hq1_
       simp only [List.length_append] at hbv_
       have H111_ := ((Holds.bring (Holds.bring H87_ 3 rfl) 2 rfl) :)
       refine S_list (T_call (al := [(vA #[(vI .i64 x_.key), (vI .i64 x_.val)]), (vP (some ⟨ob, 0, none⟩)), (vP (some ⟨pb, 0, none⟩))]) (pre := [outP ob pb q O59_]) rfl rfl cb44 (btVis R ob pb q O59_ x_ (by omega)) H111_ ?_)
       rintro v110_ p115_ w112_ ⟨rfl, rfl⟩ S114_ H113_
       have S116_ := Same.trans S88_ S114_
       refine sv (v := (vB (!(moreB q.most (O59_ ++ [x_]))))) (x_not rfl) ?_
       refine wn (hK108_ _ _ ?_)
       refine C_cond (b := !(moreB q.most (O59_ ++ [x_]))) rfl (fun c117_t => ?_) (fun c117_f => ?_)
       ·skip
        refine cR fun _ hK118_ => ?_
        refine sm (vB true) ?_
        refine sv (v := (vB true)) (x_assign rfl) ?_
        refine sv (v := (vB false)) (x_assign rfl) ?_
        refine wn (hK118_ _ _ ?_)
        refine C_ret (X_blkR (X_thenR (X_thenR (X_blkR (X_thenR (X_blkR (X_thenR ?_)))))))
        refine R_any (v := (vT #[(vB true), (vB false)])) (run_results2 rfl rfl rfl) ?_
        have H119_ := ((Holds.bring (Holds.bring (Holds.bring (Holds.bring H113_ 2 rfl) 8 rfl) 8 rfl) 8 rfl) :)
        have H120_ := Holds.node_in (t := t) H119_
        have H121_ := Holds.pkF H120_ [1, 0, 1, 0] 2
        exact ⟨_, _, rfl, ⟨true, false, (O59_ ++ [x_]), rfl, rfl, (finA_item hKl hkK_ hx_ (hq2_.trans (by rw [show moreB q.most (O59_ ++ [x_]) = false by simpa using c117_t])))⟩, S116_, H121_⟩
       ·skip
        refine C_skip (X_blkN (X_then (hK46_ _ _ ?_)))
        refine C_reg ?_
        refine sm (vI .i64 (i : Int)) ?_
        refine sv (v := (vI .i64 ((i : Int) + 1))) (x_bin rfl rfl (ib_add (IntWalk.i64_in _ (by omega)))) ?_
        refine sv (v := (vI .i64 ((i : Int) + 1))) (x_assign rfl) ?_
        refine wpList_nil (X_then ?_)
        have H122_ := Holds.pkF H113_ [4, 4, 4, 4, 4, 2, 0, 1, 0] 0
        exact ⟨⟨i + 1, true, (O59_ ++ [x_]), t14_v, t15_v⟩, ⟨_, congrArg (fun e => mkA 343 e []) (ch (ch (ch (ch (ch (ch (ch (ch (ch (ch rfl rfl) rfl) rfl) rfl) rfl) rfl) rfl) rfl) rfl) (congrArg (vI .i64) ((by first | rfl | omega | (simp; done) | (simp; omega)) : (i : Int) + 1 = ((i + 1 : Nat) : Int)))), H122_, S116_, (⟨by omega, by omega⟩), (nextA hkK_ hx_ (hq2_.trans (by rw [show moreB q.most (O59_ ++ [x_]) = true by simpa using c117_f])))⟩, by first | omega | (dsimp only; omega) | (simp; omega)⟩
   ·have c49_fp : ¬ (0 < ((List.length (ks.map BT.a)) : Int)) := of_decide_eq_false c49_f
    simp only [List.length_map] at c49_fp; omega
  ·have c45_fp : ¬ ((i : Int) < ((List.length t.xs) : Int)) := of_decide_eq_false c45_f
   have hie_ : i = t.xs.length := by omega
   obtain ⟨k_, hk_, _⟩ := elem_at ks i (by omega)
   obtain ⟨k0_, hk0_⟩ : ∃ k0, k0 = k_.el := ⟨_, rfl⟩
   obtain ⟨hsk_, hnk_, hwk_⟩ := kid_srt (t := t) hw hk_ hs
   have hkK_ : (ks.map BT.el)[i]? = some k0_ := by rw [hk0_]; exact map_at2 (f := BT.el) hk_
   have hbn_ := runA_bnd hrun
   have hpl_ := pre_len hKl hkK_
   refine C_exit (X_thenX (X_thenX (X_blkHit ?_)))
   refine (X_then (hK38_ _ _ ?_))
   refine cR fun _ hK123_ => ?_
   refine sm (vP (some ⟨t.a, 0, none⟩)) ?_
   refine sv (v := (vP (some ⟨t.a, 0, none⟩))) (by kernel_rfl) ?_
   refine sv (v := (vP (some ⟨t.a, 1, none⟩))) (by kernel_rfl) ?_
   refine sv (v := t.cv) (x_load1 rfl underlying77 rfl ((Holds.rd H41_ 2 rfl) 1 t.cv rfl)) ?_
   refine sv (v := (vI .i64 ((List.length (ks.map BT.a)) : Int))) (x_lenSl rfl H41_ 4 rfl underlying77) ?_
   refine sv (v := (vB (decide (0 < ((List.length (ks.map BT.a)) : Int))))) (x_bin rfl rfl rfl) ?_
   refine wn (hK123_ _ _ ?_)
   refine C_cond (b := decide (0 < ((List.length (ks.map BT.a)) : Int))) rfl (fun c124_t => ?_) (fun c124_f => ?_)
   ·have c124_tp : 0 < ((List.length (ks.map BT.a)) : Int) := of_decide_eq_true c124_t
    refine C_seq (fun _ hK125_ => ?_)
    refine A_start (S := fun w => Rd b9_ [(vI .i64 pp.key), (vI .i64 pp.val), (vB ut)] w ∧ Rd b4_ [(vI .i64 ss.key), (vI .i64 ss.val), (vB us)] w ∧ Rd t.a [t.iv, t.cv, (vP (some ⟨c, 0, none⟩))] w ∧ SlRd t.iv (t.xs.flatMap EL.cells) w ∧ SlRd t.cv (pBs (ks.map BT.a)) w ∧ Rd c [(vP (some ⟨fl, 0, none⟩)), (Value.func (.func 16) #[] #[])] w ∧ Sub R (hp w)) (N := 24) foll rfl rfl ?_
    have H126_ := Holds.drew_ H41_
    have hq127_ := And.intro (Holds.rd H126_ 0 rfl) (And.intro (Holds.rd H126_ 1 rfl) (And.intro (Holds.rd H126_ 2 rfl) (And.intro (Holds.slrd H126_ 3 rfl) (And.intro (Holds.slrd H126_ 4 rfl) (And.intro (Holds.rd H126_ 7 rfl) ((Holds.ro_at H126_ 6 rfl)))))))
    refine A_tk 0 (v := (vP (some ⟨t.a, 0, none⟩))) rfl (by kernel_rfl) (fun w hS => x_move rfl) hq127_ ?_
    refine A_tk 1 (v := (vP (some ⟨t.a, 0, none⟩))) rfl (by kernel_rfl) (fun w hS => by kernel_rfl) hq127_ ?_
    refine A_tk 2 (v := (vP (some ⟨t.a, 1, none⟩))) rfl (by kernel_rfl) (fun w hS => by kernel_rfl) hq127_ ?_
    refine A_tk 3 (v := t.cv) rfl (by kernel_rfl) (fun w hS => x_load1 rfl underlying77 rfl (hS.2.2.1 1 t.cv rfl)) hq127_ ?_
    refine A_tk 4 (v := (vP (some ⟨t.a, 0, none⟩))) rfl (by kernel_rfl) (fun w hS => x_move rfl) hq127_ ?_
    refine A_tk 5 (v := (vP (some ⟨t.a, 0, none⟩))) rfl (by kernel_rfl) (fun w hS => by kernel_rfl) hq127_ ?_
    refine A_tk 6 (v := (vP (some ⟨t.a, 1, none⟩))) rfl (by kernel_rfl) (fun w hS => by kernel_rfl) hq127_ ?_
    refine A_tk 7 (v := t.cv) rfl (by kernel_rfl) (fun w hS => x_load1 rfl underlying77 rfl (hS.2.2.1 1 t.cv rfl)) hq127_ ?_
    refine A_tk 12 (v := (vI .i64 1)) rfl (by kernel_rfl) (fun w hS => x_move rfl) hq127_ ?_
    refine A_tk 13 (v := (vA #[(vI .i64 ss.key), (vI .i64 ss.val), (vB us)])) rfl (by kernel_rfl) (fun w hS => x_loadN (vs := [(vI .i64 ss.key), (vI .i64 ss.val), (vB us)]) rfl underlying105 rfl z105 rfl (Rd.cells hS.2.1 0 rfl)) hq127_ ?_
    refine A_tk 14 (v := (vA #[(vI .i64 pp.key), (vI .i64 pp.val), (vB ut)])) rfl (by kernel_rfl) (fun w hS => x_loadN (vs := [(vI .i64 pp.key), (vI .i64 pp.val), (vB ut)]) rfl underlying105 rfl z105 rfl (Rd.cells hS.1 0 rfl)) hq127_ ?_
    refine A_tk 15 (v := (vB us)) rfl (by kernel_rfl) (fun w hS => x_move rfl) hq127_ ?_
    refine A_tk 16 (v := (vB hb)) rfl (by kernel_rfl) (fun w hS => x_move rfl) hq127_ ?_
    refine A_tk 17 (v := (Value.func (.func 44) #[] #[(vP (some ⟨ob, 0, none⟩)), (vP (some ⟨pb, 0, none⟩))])) rfl (by kernel_rfl) (fun w hS => x_move rfl) hq127_ ?_
    refine A_ready (i := 8) (rs := []) (by kernel_rfl) ?_
    refine AllR.cons ?_ AllR.nil
    refine A_op (ls' := #[true, true, true, true, true, true, true, true, true, false, false, false, true, true, true, true, true, true, false, false, false, false, false, false]) rfl (by kernel_rfl) (T_val (v := (vI .i64 ((List.length (ks.map BT.a)) : Int))) (x_lenSl rfl H126_ 4 rfl underlying77) ?_)
    refine ⟨⟨Holds.rd H126_ 0 rfl, Holds.rd H126_ 1 rfl, Holds.rd H126_ 2 rfl, Holds.slrd H126_ 3 rfl, Holds.slrd H126_ 4 rfl, Holds.rd H126_ 7 rfl, (Holds.ro_at H126_ 6 rfl)⟩, ?_⟩
    refine A_tk 9 (v := (vI .i64 (((List.length (ks.map BT.a)) : Int) - 1))) rfl (by kernel_rfl) (fun w hS => x_bin rfl rfl (ib_sub (IntWalk.i64_in _ (by omega)))) hq127_ ?_
    have hr128_ := Holds.sl_RSw H126_ 4 rfl
    refine A_tk 10 (v := (vP (some ⟨(sb t.cv), so t.cv + i, none⟩))) rfl (by kernel_rfl) (fun w hS => x_idxSlR (v := t.cv) rfl hr128_ rfl underlying77 z59 (by omega) (by omega) (by omega : _ = i) (by rw [Nat.mul_one])) hq127_ ?_
    refine A_tk 11 (v := (vP (some ⟨k_.a, 0, none⟩))) rfl (by kernel_rfl) (fun w hS => x_load1 rfl underlying59 rfl (hS.2.2.2.2.1 _ _ (pbs_at (kid_a hk_)))) hq127_ ?_
    refine A_ready (i := 18) (rs := []) (by kernel_rfl) ?_
    refine AllR.cons ?_ AllR.nil
    have H129_ := ((Holds.bring H126_ 5 rfl) :)
    have H130_ := Holds.kids_out hk_ H129_
    have H136_ := ((Holds.bring (Holds.bring (Holds.bring (Holds.bring H130_ 9 rfl) 9 rfl) 2 rfl) 9 rfl) :)
    refine A_op (ls' := #[true, true, true, true, true, true, true, true, true, true, true, true, true, true, true, true, true, true, true, false, false, false, false, false]) rfl (by kernel_rfl) (T_call (al := [(vP (some ⟨k_.a, 0, none⟩)), (vI .i64 1), (vA #[(vI .i64 ss.key), (vI .i64 ss.val), (vB us)]), (vA #[(vI .i64 pp.key), (vI .i64 pp.val), (vB ut)]), (vB us), (vB hb), (Value.func (.func 44) #[] #[(vP (some ⟨ob, 0, none⟩)), (vP (some ⟨pb, 0, none⟩))])]) (pre := [btp c k_, cl c 58 [(vP (some ⟨fl, 0, none⟩)), (Value.func (.func 16) #[] #[])], outP ob pb q O1]) rfl rfl cb63 (ih R c fl k_ ss pp us ut hb ob pb q O1 (hwk_) (hsk_) (Nat.le_trans hnk_ hn) (by rw [← hk0_]; omega)) H136_ ?_)
    rintro v131_ p140_ w137_ ⟨h132_, ok133_, O134_, rfl, rfl, he135_⟩ S139_ H138_
    have S141_ := Same.trans (Same.trans S42_ (Same.drew _)) S139_
    have H142_ := ((Holds.bring (Holds.bring H138_ 4 rfl) 2 rfl) :)
    have H143_ := Holds.kids_back hk_ H142_
    have hq0_ : runA (stA ut pp) q.most (selA us ss ((preI (t.xs.take i) ((ks.map BT.el).take i)) ++ k0_)) O = (O134_, ok133_) := itA_kid hrun (by rw [hk0_]; exact he135_)
    refine ⟨⟨Holds.rd H143_ 4 rfl, Holds.rd H143_ 5 rfl, Holds.rd H143_ 6 rfl, Holds.slrd H143_ 7 rfl, Holds.slrd H143_ 8 rfl, Holds.rd H143_ 2 rfl, (Holds.ro_at H143_ 1 rfl)⟩, ?_⟩
    have hq144_ := And.intro (Holds.rd H143_ 4 rfl) (And.intro (Holds.rd H143_ 5 rfl) (And.intro (Holds.rd H143_ 6 rfl) (And.intro (Holds.slrd H143_ 7 rfl) (And.intro (Holds.slrd H143_ 8 rfl) (And.intro (Holds.rd H143_ 2 rfl) ((Holds.ro_at H143_ 1 rfl)))))))
    refine A_tk 19 (v := (vT #[(vB h132_), (vB ok133_)])) rfl (by kernel_rfl) (fun w hS => x_move rfl) hq144_ ?_
    refine A_tk 20 (v := (vB h132_)) rfl (by kernel_rfl) (fun w hS => by kernel_rfl) hq144_ ?_
    refine A_tk 21 (v := (vB ok133_)) rfl (by kernel_rfl) (fun w hS => by kernel_rfl) hq144_ ?_
    refine A_tk 22 (v := (vB h132_)) rfl (by kernel_rfl) (fun w hS => x_assign rfl) hq144_ ?_
    refine A_tk 23 (v := (vB ok133_)) rfl (by kernel_rfl) (fun w hS => x_assign rfl) hq144_ ?_
    refine A_done (by kernel_rfl) ?_
    refine (X_then (hK125_ _ _ ?_))
    refine cR fun _ hK145_ => ?_
    refine sm (vB ok133_) ?_
    refine sv (v := (vB (!ok133_))) (x_not rfl) ?_
    refine wn (hK145_ _ _ ?_)
    refine C_cond (b := !ok133_) rfl (fun c146_t => ?_) (fun c146_f => ?_)
    ·skip
     have hq1_ := hq0_
     rw [show ok133_ = false by simpa using c146_t] at hq1_
     refine cR fun _ hK147_ => ?_
     refine sm (vB h132_) ?_
     refine sv (v := (vB h132_)) (x_assign rfl) ?_
     refine sv (v := (vB false)) (x_assign rfl) ?_
     refine wn (hK147_ _ _ ?_)
     refine C_ret (X_blkR (X_thenR ?_))
     refine R_any (v := (vT #[(vB h132_), (vB false)])) (run_results2 rfl rfl rfl) ?_
     have H148_ := ((Holds.bring (Holds.bring (Holds.bring H143_ 8 rfl) 8 rfl) 8 rfl) :)
     have H149_ := Holds.node_in (t := t) H148_
     have H150_ := Holds.pkF H149_ [1, 0, 0, 0] 2
     exact ⟨_, _, rfl, ⟨h132_, false, O134_, rfl, rfl, (finA hKl hie_ hkK_ hq1_)⟩, S141_, H150_⟩
    ·skip
     have hq1_ := hq0_
     rw [show ok133_ = true by simpa using c146_f] at hq1_
     refine C_skip (X_blkN (X_then (hK16_ _ _ ?_)))
     refine cR fun _ hK151_ => ?_
     refine sm (vB h132_) ?_
     refine sv (v := (vB h132_)) (x_assign rfl) ?_
     refine sv (v := (vB true)) (x_assign rfl) ?_
     refine wn (hK151_ _ _ ?_)
     refine C_ret ?_
     refine R_any (v := (vT #[(vB h132_), (vB true)])) (run_results2 rfl rfl rfl) ?_
     have H152_ := ((Holds.bring (Holds.bring (Holds.bring H143_ 8 rfl) 8 rfl) 8 rfl) :)
     have H153_ := Holds.node_in (t := t) H152_
     have H154_ := Holds.pkF H153_ [1, 0, 0, 0] 2
     exact ⟨_, _, rfl, ⟨h132_, true, O134_, rfl, rfl, (finA hKl hie_ hkK_ hq1_)⟩, S141_, H154_⟩
   ·have c124_fp : ¬ (0 < ((List.length (ks.map BT.a)) : Int)) := of_decide_eq_false c124_f
    simp only [List.length_map] at c124_fp; omega
end Go.Proofs.Ytdfjdmmmlidamaa
set_option linter.unusedVariables false
set_option linter.unusedSimpArgs false
namespace Go.Proofs.Ytdfjdmmmlidamaa
open Go Go.RowKit Gw Try
open Go.Value renaming int → vI, bool → vB, slice → vS, pointer → vP, agg → vA, tuple → vT

set_option maxHeartbeats 16000000 in
theorem itDN (R : HP) (c fl : Nat) (h : Nat) (t : BN) (ks : List (BT h)) (ss pp : EL) (us ut hit : Bool) (ob pb : Nat) (q : BO) (O : List EL) (hw : (nodeB t ks).Wf) (hs : SrtE (nodeB t ks).el) (hn : (nodeB t ks).el.length ≤ 100000) (hO : O.length + (nodeB t ks).el.length ≤ 1000000) (hh : hit = true → us = true → ∀ y ∈ (nodeB t ks).el, y.key < ss.key) (ih : ∀ (R : HP) (c fl : Nat) (k : BT h) (ss pp : EL) (us ut hit : Bool) (ob pb : Nat) (q : BO) (O : List EL) (hwk : k.Wf) (hsk : SrtE k.el) (hnk : k.el.length ≤ 100000) (hOk : O.length + k.el.length ≤ 1000000) (hhk : hit = true → us = true → ∀ y ∈ k.el, y.key < ss.key), Tri Try.prog 63 #[(vP (some ⟨k.a, 0, none⟩)), (vI .i64 (-1)), (vA #[(vI .i64 ss.key), (vI .i64 ss.val), (vB us)]), (vA #[(vI .i64 pp.key), (vI .i64 pp.val), (vB ut)]), (vB us), (vB hit), (Value.func (.func 44) #[] #[(vP (some ⟨ob, 0, none⟩)), (vP (some ⟨pb, 0, none⟩))])] R [btp c k, cl c 58 [(vP (some ⟨fl, 0, none⟩)), (Value.func (.func 16) #[] #[])], outP ob pb q O] (fun v__ post__ => ∃ (h' ok : Bool) (O' : List EL), v__ = (vT #[(vB h'), (vB ok)]) ∧ post__ = [btp c k, cl c 58 [(vP (some ⟨fl, 0, none⟩)), (Value.func (.func 16) #[] #[])], outP ob pb q O'] ∧ (runA (stD ut pp) q.most (selD us ss k.el) O = (O', ok)))) :
    Tri Try.prog 63 #[(vP (some ⟨t.a, 0, none⟩)), (vI .i64 (-1)), (vA #[(vI .i64 ss.key), (vI .i64 ss.val), (vB us)]), (vA #[(vI .i64 pp.key), (vI .i64 pp.val), (vB ut)]), (vB us), (vB hit), (Value.func (.func 44) #[] #[(vP (some ⟨ob, 0, none⟩)), (vP (some ⟨pb, 0, none⟩))])] R [btp c (nodeB t ks), cl c 58 [(vP (some ⟨fl, 0, none⟩)), (Value.func (.func 16) #[] #[])], outP ob pb q O] (fun v__ post__ => ∃ (h' ok : Bool) (O' : List EL), v__ = (vT #[(vB h'), (vB ok)]) ∧ post__ = [btp c (nodeB t ks), cl c 58 [(vP (some ⟨fl, 0, none⟩)), (Value.func (.func 16) #[] #[])], outP ob pb q O'] ∧ (runA (stD ut pp) q.most (selD us ss (nodeB t ks).el) O = (O', ok))) := by
 have hkl := ((BT.wfS t ks).1 hw).1
 have hkm : (ks.map BT.a).length = ks.length := List.length_map ..
 obtain ⟨hso, hno⟩ := own_srt (t := t) (ks := ks) hw hs
 have hn2 : t.xs.length ≤ 1000000 := Nat.le_trans hno (Nat.le_trans hn (by decide))
 have hKl : (ks.map BT.el).length = t.xs.length + 1 := by rw [List.length_map]; exact hkl
 have hse : SrtE (inter t.xs (ks.map BT.el)) := hs
 have hel : (inter t.xs (ks.map BT.el)).length ≤ 100000 ∧ O.length + (inter t.xs (ks.map BT.el)).length ≤ 1000000 := ⟨hn, hO⟩
 have hhe : hit = true → us = true → ∀ y ∈ inter t.xs (ks.map BT.el), y.key < ss.key := hh
 refine Tri.into (n := 343) (al := [(vP (some ⟨t.a, 0, none⟩)), (vI .i64 (-1)), (vA #[(vI .i64 ss.key), (vI .i64 ss.val), (vB us)]), (vA #[(vI .i64 pp.key), (vI .i64 pp.val), (vB ut)]), (vB us), (vB hit), (Value.func (.func 44) #[] #[(vP (some ⟨ob, 0, none⟩)), (vP (some ⟨pb, 0, none⟩))])]) func63 rfl ntmps63 rfl rfl fun w F H => ?_
 have H1_ := ((Holds.bring H 1 rfl) :)
 have H2_ := Holds.nodeO H1_
 refine cR fun _ hK3_ => ?_
 refine S_list (T_box (v := (vA #[(vI .i64 ss.key), (vI .i64 ss.val), (vB us)])) rfl H2_ ?_)
 intro b4_ w5_ S7_ H6_
 have S8_ := Same.trans (Same.refl w) S7_
 refine S_list (T_box (v := (vA #[(vI .i64 pp.key), (vI .i64 pp.val), (vB ut)])) rfl H6_ ?_)
 intro b9_ w10_ S12_ H11_
 have S13_ := Same.trans S8_ S12_
 refine sv (v := (vB false)) (x_assign rfl) ?_
 refine sv (v := (vB false)) (x_assign rfl) ?_
 refine wn (hK3_ _ _ ?_)
 refine cR fun _ hK14_ => ?_
 refine sv (v := (vB false)) (x_assign rfl) ?_
 refine sv (v := (vB false)) (x_assign rfl) ?_
 refine wn (hK14_ _ _ ?_)
 refine cR fun _ hK15_ => ?_
 refine sv (v := (vI .i64 0)) (x_assign rfl) ?_
 refine wn (hK15_ _ _ ?_)
 refine C_seq (fun _ hK16_ => ?_)
 refine cR fun _ hK17_ => ?_
 refine sm (vI .i64 (-1)) ?_
 refine wn (hK17_ _ _ ?_)
 refine C_block ?_
 refine cR fun _ hK18_ => ?_
 refine sv (v := (vB false)) (x_bin rfl rfl rfl) ?_
 refine sv (v := (vB false)) (x_assign rfl) ?_
 refine wn (hK18_ _ _ ?_)
 refine C_condF rfl ?_
 refine cR fun _ hK19_ => ?_
 refine sv (v := (vB true)) (x_bin rfl rfl rfl) ?_
 refine sv (v := (vB true)) (x_assign rfl) ?_
 refine wn (hK19_ _ _ ?_)
 refine C_condT rfl ?_
 refine C_cut (fun a__ w1__ => ∃ n0 : Nat, ∃ h : Env, a__ = mkA 343 (upd (upd (upd (upd (upd (upd (upd (upd (upd (upd h 0 (vP (some ⟨t.a, 0, none⟩))) 1 (vI .i64 (-1))) 4 (vB us)) 5 (vB hit)) 6 (Value.func (.func 44) #[] #[(vP (some ⟨ob, 0, none⟩)), (vP (some ⟨pb, 0, none⟩))])) 9 (vP (some ⟨b4_, 0, none⟩))) 10 (vP (some ⟨b9_, 0, none⟩))) 14 (vB false)) 15 (vB false)) 18 (vI .i64 ((n0 : Int) - 1))) [] ∧ Holds w1__ (cl b9_ 105 [(vI .i64 pp.key), (vI .i64 pp.val), (vB ut)] :: cl b4_ 105 [(vI .i64 ss.key), (vI .i64 ss.val), (vB us)] :: cl t.a 79 [t.iv, t.cv, (vP (some ⟨c, 0, none⟩))] :: sl 24 2 t.iv (List.length t.xs) (t.xs.flatMap EL.cells) :: sl 59 1 t.cv (List.length (ks.map BT.a)) (pBs (ks.map BT.a)) :: kids c ks :: ro R :: cl c 58 [(vP (some ⟨fl, 0, none⟩)), (Value.func (.func 16) #[] #[])] :: outP ob pb q O :: F) ∧ Same w w1__ ∧ (n0 ≤ t.xs.length) ∧ (∀ y ∈ t.xs.take n0, us = true → y.key ≤ ss.key) ∧ (∀ y ∈ t.xs.drop n0, us = true ∧ ss.key < y.key)) ?_ ?_
 ·refine cR fun _ hK23_ => ?_
  refine sv (v := (vP (some ⟨b4_, 2, none⟩))) (by kernel_rfl) ?_
  refine sv (v := (vB us)) (x_load1 rfl underlying4 rfl ((Holds.rd H11_ 1 rfl) 2 (vB us) rfl)) ?_
  refine wn (hK23_ _ _ ?_)
  refine C_cond (b := us) rfl (fun c24_t => ?_) (fun c24_f => ?_)
  ·skip
   refine C_seq (fun _ hK25_ => ?_)
   refine A_start (S := fun w => Rd b4_ [(vI .i64 ss.key), (vI .i64 ss.val), (vB us)] w ∧ Rd t.a [t.iv, t.cv, (vP (some ⟨c, 0, none⟩))] w ∧ SlRd t.iv (t.xs.flatMap EL.cells) w ∧ SlRd t.cv (pBs (ks.map BT.a)) w ∧ Rd c [(vP (some ⟨fl, 0, none⟩)), (Value.func (.func 16) #[] #[])] w ∧ Sub R (hp w)) (N := 19) foll rfl rfl ?_
   have H26_ := Holds.drew_ H11_
   have hq27_ := And.intro (Holds.rd H26_ 1 rfl) (And.intro (Holds.rd H26_ 2 rfl) (And.intro (Holds.slrd H26_ 3 rfl) (And.intro (Holds.slrd H26_ 4 rfl) (And.intro (Holds.rd H26_ 7 rfl) ((Holds.ro_at H26_ 6 rfl))))))
   refine A_tk 0 (v := (vP (some ⟨t.a, 0, none⟩))) rfl (by kernel_rfl) (fun w hS => x_move rfl) hq27_ ?_
   refine A_tk 1 (v := (vP (some ⟨t.a, 0, none⟩))) rfl (by kernel_rfl) (fun w hS => by kernel_rfl) hq27_ ?_
   refine A_tk 2 (v := (vP (some ⟨t.a, 0, none⟩))) rfl (by kernel_rfl) (fun w hS => by kernel_rfl) hq27_ ?_
   refine A_tk 3 (v := t.iv) rfl (by kernel_rfl) (fun w hS => x_load1 rfl underlying76 rfl (hS.2.1 0 t.iv rfl)) hq27_ ?_
   refine A_tk 4 (v := (vP (some ⟨b4_, 0, none⟩))) rfl (by kernel_rfl) (fun w hS => by kernel_rfl) hq27_ ?_
   refine A_tk 5 (v := (vA #[(vI .i64 ss.key), (vI .i64 ss.val)])) rfl (by kernel_rfl) (fun w hS => x_loadN (vs := [(vI .i64 ss.key), (vI .i64 ss.val)]) rfl underlying24 rfl z24 rfl (Rd.cells hS.1 0 rfl)) hq27_ ?_
   refine A_tk 6 (v := (vP (some ⟨t.a, 0, none⟩))) rfl (by kernel_rfl) (fun w hS => x_move rfl) hq27_ ?_
   refine A_tk 7 (v := (vP (some ⟨t.a, 0, none⟩))) rfl (by kernel_rfl) (fun w hS => by kernel_rfl) hq27_ ?_
   refine A_tk 8 (v := (vP (some ⟨t.a, 2, none⟩))) rfl (by kernel_rfl) (fun w hS => by kernel_rfl) hq27_ ?_
   refine A_tk 9 (v := (vP (some ⟨c, 0, none⟩))) rfl (by kernel_rfl) (fun w hS => x_load1 rfl underlying60 rfl (hS.2.1 2 (vP (some ⟨c, 0, none⟩)) rfl)) hq27_ ?_
   refine A_tk 10 (v := (vP (some ⟨c, 0, none⟩))) rfl (by kernel_rfl) (fun w hS => by kernel_rfl) hq27_ ?_
   refine A_tk 11 (v := (vP (some ⟨c, 1, none⟩))) rfl (by kernel_rfl) (fun w hS => by kernel_rfl) hq27_ ?_
   refine A_tk 12 (v := (Value.func (.func 16) #[] #[])) rfl (by kernel_rfl) (fun w hS => x_load1 rfl underlying53 rfl (hS.2.2.2.2.1 1 (Value.func (.func 16) #[] #[]) rfl)) hq27_ ?_
   refine A_ready (i := 13) (rs := []) (by kernel_rfl) ?_
   refine AllR.cons ?_ AllR.nil
   have H32_ := ((Holds.bring (Holds.bring H26_ 3 rfl) 6 rfl) :)
   refine A_op (ls' := #[true, true, true, true, true, true, true, true, true, true, true, true, true, true, false, false, false, false, false]) rfl (by kernel_rfl) (T_call (al := [t.iv, (vA #[(vI .i64 ss.key), (vI .i64 ss.val)]), (Value.func (.func 16) #[] #[])]) (pre := [sl 24 2 t.iv (List.length t.xs) (t.xs.flatMap EL.cells)]) rfl rfl cb56 (btFind R t.iv t.xs ss (hso) (hn2)) H32_ ?_)
   rintro v28_ p36_ w33_ ⟨i29_, b30_, rfl, rfl, he31_⟩ S35_ H34_
   have S37_ := Same.trans (Same.trans S13_ (Same.drew _)) S35_
   have hplq_ := (pl_le hso he31_).1
   refine ⟨⟨Holds.rd H34_ 3 rfl, Holds.rd H34_ 4 rfl, Holds.slrd H34_ 1 rfl, Holds.slrd H34_ 5 rfl, Holds.rd H34_ 7 rfl, (Holds.ro_at H34_ 0 rfl)⟩, ?_⟩
   have hq38_ := And.intro (Holds.rd H34_ 3 rfl) (And.intro (Holds.rd H34_ 4 rfl) (And.intro (Holds.slrd H34_ 1 rfl) (And.intro (Holds.slrd H34_ 5 rfl) (And.intro (Holds.rd H34_ 7 rfl) ((Holds.ro_at H34_ 0 rfl))))))
   refine A_tk 14 (v := (vT #[(vI .i64 (i29_ : Int)), (vB b30_)])) rfl (by kernel_rfl) (fun w hS => x_move rfl) hq38_ ?_
   refine A_tk 15 (v := (vI .i64 (i29_ : Int))) rfl (by kernel_rfl) (fun w hS => by kernel_rfl) hq38_ ?_
   refine A_tk 16 (v := (vB b30_)) rfl (by kernel_rfl) (fun w hS => by kernel_rfl) hq38_ ?_
   refine A_tk 17 (v := (vI .i64 (i29_ : Int))) rfl (by kernel_rfl) (fun w hS => x_assign rfl) hq38_ ?_
   refine A_tk 18 (v := (vB b30_)) rfl (by kernel_rfl) (fun w hS => x_assign rfl) hq38_ ?_
   refine A_done (by kernel_rfl) ?_
   refine (X_then (hK25_ _ _ ?_))
   refine cR fun _ hK39_ => ?_
   refine sm (vB b30_) ?_
   refine sv (v := (vB (!b30_))) (x_not rfl) ?_
   refine wn (hK39_ _ _ ?_)
   refine C_cond (b := !b30_) rfl (fun c40_t => ?_) (fun c40_f => ?_)
   ·skip
    refine C_reg ?_
    refine sm (vI .i64 (i29_ : Int)) ?_
    refine sv (v := (vI .i64 ((i29_ : Int) - 1))) (x_bin rfl rfl (ib_sub (IntWalk.i64_in _ (by omega)))) ?_
    refine sv (v := (vI .i64 ((i29_ : Int) - 1))) (x_assign rfl) ?_
    refine wpList_nil (X_then ?_)
    have H41_ := Holds.pkF H34_ [2, 2, 2, 1, 1, 1, 0, 0, 0] 0
    exact ⟨i29_, _, congrArg (fun e => mkA 343 e []) (ch (ch (ch (ch (ch (ch (ch (ch (ch (ch rfl rfl) rfl) rfl) rfl) rfl) rfl) rfl) rfl) rfl) rfl), H41_, S37_, ((pl_le hso he31_).1), (fun y hy _ => Int.le_of_lt ((pl_le hso he31_).2.1 y hy)), (fun y hy => ⟨c24_t, (pl_le hso he31_).2.2.2.1 (by simpa using c40_t) y hy⟩)⟩
   ·skip
    refine C_skip (X_then ?_)
    have H42_ := Holds.pkF H34_ [2, 2, 2, 1, 1, 1, 0, 0, 0] 0
    exact ⟨(i29_ + 1), _, congrArg (fun e => mkA 343 e []) (ch (ch (ch (ch (ch (ch (ch (ch (ch (ch rfl rfl) rfl) rfl) rfl) rfl) rfl) rfl) rfl) rfl) (congrArg (vI .i64) ((by first | rfl | omega | (simp; done) | (simp; omega)) : (i29_ : Int) = ((i29_ + 1 : Nat) : Int) - 1))), H42_, S37_, (((pl_le hso he31_).2.2.2.2 (by simpa using c40_f)).1), (fun y hy _ => ((pl_le hso he31_).2.2.2.2 (by simpa using c40_f)).2.1 y hy), (fun y hy => ⟨c24_t, ((pl_le hso he31_).2.2.2.2 (by simpa using c40_f)).2.2 y hy⟩)⟩
  ·skip
   refine C_reg ?_
   refine sm (vP (some ⟨t.a, 0, none⟩)) ?_
   refine sv (v := (vP (some ⟨t.a, 0, none⟩))) (by kernel_rfl) ?_
   refine sv (v := (vP (some ⟨t.a, 0, none⟩))) (by kernel_rfl) ?_
   refine sv (v := t.iv) (x_load1 rfl underlying76 rfl ((Holds.rd H11_ 2 rfl) 0 t.iv rfl)) ?_
   refine sv (v := (vI .i64 ((List.length t.xs) : Int))) (x_lenSl rfl H11_ 3 rfl underlying76) ?_
   refine sv (v := (vI .i64 (((List.length t.xs) : Int) - 1))) (x_bin rfl rfl (ib_sub (IntWalk.i64_in _ (by omega)))) ?_
   refine sv (v := (vI .i64 (((List.length t.xs) : Int) - 1))) (x_assign rfl) ?_
   refine wpList_nil (X_then ?_)
   exact ⟨t.xs.length, _, congrArg (fun e => mkA 343 e []) (ch (ch (ch (ch (ch (ch (ch (ch (ch (ch rfl rfl) rfl) rfl) rfl) rfl) rfl) rfl) rfl) rfl) (congrArg (vI .i64) ((by first | rfl | omega | (simp; done) | (simp; omega)) : ((List.length t.xs) : Int) - 1 = (t.xs.length : Int) - 1))), H11_, S13_, (Nat.le_refl _), (fun y hy h__ => absurd h__ (by rw [c24_f]; decide)), (fun y hy => by simp at hy)⟩
 ·rintro _ w20_ ⟨n0, h, rfl, H21_, S22_, hi00, hlo0, hhi0⟩
  refine C_seq (fun _ hK43_ => ?_)
  refine cR fun _ hK44_ => ?_
  refine sm (vI .i64 ((n0 : Int) - 1)) ?_
  refine sv (v := (vI .i64 ((n0 : Int) - 1))) (x_assign rfl) ?_
  refine wn (hK44_ _ _ ?_)
  refine C_block ?_
  refine C_loop (γ := Nat × Bool × (List EL) × Bool × Bool) (fun x__ a__ w1__ => match x__ with | ⟨j, hb, O1, t14_v, t15_v⟩ => ∃ h : Env, a__ = mkA 343 (upd (upd (upd (upd (upd (upd (upd (upd (upd (upd h 0 (vP (some ⟨t.a, 0, none⟩))) 1 (vI .i64 (-1))) 4 (vB us)) 5 (vB hb)) 6 (Value.func (.func 44) #[] #[(vP (some ⟨ob, 0, none⟩)), (vP (some ⟨pb, 0, none⟩))])) 9 (vP (some ⟨b4_, 0, none⟩))) 10 (vP (some ⟨b9_, 0, none⟩))) 14 (vB t14_v)) 15 (vB t15_v)) 20 (vI .i64 ((j : Int) - 1))) [] ∧ Holds w1__ (cl b9_ 105 [(vI .i64 pp.key), (vI .i64 pp.val), (vB ut)] :: cl b4_ 105 [(vI .i64 ss.key), (vI .i64 ss.val), (vB us)] :: cl t.a 79 [t.iv, t.cv, (vP (some ⟨c, 0, none⟩))] :: sl 24 2 t.iv (List.length t.xs) (t.xs.flatMap EL.cells) :: sl 59 1 t.cv (List.length (ks.map BT.a)) (pBs (ks.map BT.a)) :: kids c ks :: ro R :: cl c 58 [(vP (some ⟨fl, 0, none⟩)), (Value.func (.func 16) #[] #[])] :: outP ob pb q O1 :: F) ∧ Same w w1__ ∧ (j ≤ n0) ∧ (runA (stD ut pp) q.most (selD us ss (postI (t.xs.drop j) ((ks.map BT.el).drop (j + 1)))) O = (O1, true)) ∧ (hb = true → us = true → ∀ y ∈ inter (t.xs.take j) ((ks.map BT.el).take (j + 1)), y.key < ss.key)) (fun x__ => match x__ with | ⟨j, hb, O1, t14_v, t15_v⟩ => j) (⟨n0, hit, O, false, false⟩) ⟨_, congrArg (fun e => mkA 343 e []) (ch (ch (ch (ch (ch (ch (ch (ch (ch (ch rfl rfl) rfl) rfl) rfl) rfl) rfl) rfl) rfl) rfl) rfl), H21_, S22_, (Nat.le_refl _), (itD_start hKl hse hi00 hhi0), (fun h1 h2 y hy => hhe h1 h2 y (by rw [inter_two' hKl hi00]; exact List.mem_append.2 (.inl hy)))⟩ ?_
  rintro ⟨j, hb, O1, t14_v, t15_v⟩ _ w45_ ⟨h, rfl, H46_, S47_, hil, hrun, hhb⟩
  refine C_seq (fun _ hK48_ => ?_)
  refine cR fun _ hK49_ => ?_
  refine sm (vI .i64 ((j : Int) - 1)) ?_
  refine sv (v := (vB (decide (0 ≤ (j : Int) - 1)))) (x_bin rfl rfl rfl) ?_
  refine wn (hK49_ _ _ ?_)
  refine C_cond (b := decide (0 ≤ (j : Int) - 1)) rfl (fun c50_t => ?_) (fun c50_f => ?_)
  ·have c50_tp : 0 ≤ (j : Int) - 1 := of_decide_eq_true c50_t
   obtain ⟨x_, hx_, _⟩ := elem_at t.xs (j - 1) (by omega)
   have hxs_ : us = true → x_.key ≤ ss.key := hlo0 x_ (mem_takeI hx_ (by omega))
   have hj1_ : 1 ≤ j := by omega
   have hxh_ : hb = true → us = true → x_.key < ss.key := fun h1 h2 => hhb h1 h2 x_ (inter_memx hKl hj1_ hx_)
   obtain ⟨k_, hk_, _⟩ := elem_at ks j (by omega)
   obtain ⟨k0_, hk0_⟩ : ∃ k0, k0 = k_.el := ⟨_, rfl⟩
   obtain ⟨hsk_, hnk_, hwk_⟩ := kid_srt (t := t) hw hk_ hs
   have hkK_ : (ks.map BT.el)[j]? = some k0_ := by rw [hk0_]; exact map_at2 (f := BT.el) hk_
   have hkh_ : hb = true → us = true → ∀ y ∈ k_.el, y.key < ss.key := fun h1 h2 y hy => hhb h1 h2 y (inter_memk hKl (by omega) hkK_ y (by rw [hk0_]; exact hy))
   have hbn_ := runD_bnd hrun
   have hpl_ := post_len1 hKl hj1_ hkK_ hx_
   refine C_skip (X_then (hK48_ _ _ ?_))
   refine C_seq (fun _ hK51_ => ?_)
   refine C_block ?_
   refine C_cut (fun a__ w1__ => ∃ h : Env, a__ = mkA 343 (upd (upd (upd (upd (upd (upd (upd (upd (upd (upd h 0 (vP (some ⟨t.a, 0, none⟩))) 1 (vI .i64 (-1))) 4 (vB us)) 5 (vB hb)) 6 (Value.func (.func 44) #[] #[(vP (some ⟨ob, 0, none⟩)), (vP (some ⟨pb, 0, none⟩))])) 9 (vP (some ⟨b4_, 0, none⟩))) 10 (vP (some ⟨b9_, 0, none⟩))) 14 (vB t14_v)) 15 (vB t15_v)) 20 (vI .i64 ((j : Int) - 1))) [] ∧ Holds w1__ (cl b9_ 105 [(vI .i64 pp.key), (vI .i64 pp.val), (vB ut)] :: cl b4_ 105 [(vI .i64 ss.key), (vI .i64 ss.val), (vB us)] :: cl t.a 79 [t.iv, t.cv, (vP (some ⟨c, 0, none⟩))] :: sl 24 2 t.iv (List.length t.xs) (t.xs.flatMap EL.cells) :: sl 59 1 t.cv (List.length (ks.map BT.a)) (pBs (ks.map BT.a)) :: kids c ks :: ro R :: cl c 58 [(vP (some ⟨fl, 0, none⟩)), (Value.func (.func 16) #[] #[])] :: outP ob pb q O1 :: F) ∧ Same w w1__) ?_ ?_
   ·refine C_seq (fun _ hK55_ => ?_)
    refine A_start (S := fun w => Rd b4_ [(vI .i64 ss.key), (vI .i64 ss.val), (vB us)] w ∧ Rd t.a [t.iv, t.cv, (vP (some ⟨c, 0, none⟩))] w ∧ SlRd t.iv (t.xs.flatMap EL.cells) w ∧ SlRd t.cv (pBs (ks.map BT.a)) w ∧ Rd c [(vP (some ⟨fl, 0, none⟩)), (Value.func (.func 16) #[] #[])] w ∧ Sub R (hp w)) (N := 22) foll rfl rfl ?_
    have H56_ := Holds.drew_ H46_
    have hq57_ := And.intro (Holds.rd H56_ 1 rfl) (And.intro (Holds.rd H56_ 2 rfl) (And.intro (Holds.slrd H56_ 3 rfl) (And.intro (Holds.slrd H56_ 4 rfl) (And.intro (Holds.rd H56_ 7 rfl) ((Holds.ro_at H56_ 6 rfl))))))
    refine A_tk 0 (v := (vP (some ⟨b4_, 2, none⟩))) rfl (by kernel_rfl) (fun w hS => by kernel_rfl) hq57_ ?_
    refine A_tk 1 (v := (vB us)) rfl (by kernel_rfl) (fun w hS => x_load1 rfl underlying4 rfl (hS.1 2 (vB us) rfl)) hq57_ ?_
    refine A_tk 2 (v := (vB us)) rfl (by kernel_rfl) (fun w hS => x_move rfl) hq57_ ?_
    rcases Bool.eq_false_or_eq_true (us) with c58_t | c58_f
    ·skip
     refine A_tkY 3 (j := 2) (dj := 212) (b := true) (v := (vP (some ⟨t.a, 0, none⟩))) rfl (by kernel_rfl) rfl rfl (congrArg vB c58_t) (fun w hS => x_move rfl) hq57_ ?_
     refine A_tkY 4 (j := 2) (dj := 212) (b := true) (v := (vP (some ⟨t.a, 0, none⟩))) rfl (by kernel_rfl) rfl rfl (congrArg vB c58_t) (fun w hS => by kernel_rfl) hq57_ ?_
     refine A_tkY 5 (j := 2) (dj := 212) (b := true) (v := (vP (some ⟨t.a, 2, none⟩))) rfl (by kernel_rfl) rfl rfl (congrArg vB c58_t) (fun w hS => by kernel_rfl) hq57_ ?_
     refine A_tkY 6 (j := 2) (dj := 212) (b := true) (v := (vP (some ⟨c, 0, none⟩))) rfl (by kernel_rfl) rfl rfl (congrArg vB c58_t) (fun w hS => x_load1 rfl underlying60 rfl (hS.2.1 2 (vP (some ⟨c, 0, none⟩)) rfl)) hq57_ ?_
     refine A_tkY 7 (j := 2) (dj := 212) (b := true) (v := (vP (some ⟨c, 0, none⟩))) rfl (by kernel_rfl) rfl rfl (congrArg vB c58_t) (fun w hS => by kernel_rfl) hq57_ ?_
     refine A_tkY 8 (j := 2) (dj := 212) (b := true) (v := (vP (some ⟨c, 1, none⟩))) rfl (by kernel_rfl) rfl rfl (congrArg vB c58_t) (fun w hS => by kernel_rfl) hq57_ ?_
     refine A_tkY 9 (j := 2) (dj := 212) (b := true) (v := (Value.func (.func 16) #[] #[])) rfl (by kernel_rfl) rfl rfl (congrArg vB c58_t) (fun w hS => x_load1 rfl underlying53 rfl (hS.2.2.2.2.1 1 (Value.func (.func 16) #[] #[]) rfl)) hq57_ ?_
     refine A_tkY 10 (j := 2) (dj := 212) (b := true) (v := (vP (some ⟨t.a, 0, none⟩))) rfl (by kernel_rfl) rfl rfl (congrArg vB c58_t) (fun w hS => x_move rfl) hq57_ ?_
     refine A_tkY 11 (j := 2) (dj := 212) (b := true) (v := (vP (some ⟨t.a, 0, none⟩))) rfl (by kernel_rfl) rfl rfl (congrArg vB c58_t) (fun w hS => by kernel_rfl) hq57_ ?_
     refine A_tkY 12 (j := 2) (dj := 212) (b := true) (v := (vP (some ⟨t.a, 0, none⟩))) rfl (by kernel_rfl) rfl rfl (congrArg vB c58_t) (fun w hS => by kernel_rfl) hq57_ ?_
     refine A_tkY 13 (j := 2) (dj := 212) (b := true) (v := t.iv) rfl (by kernel_rfl) rfl rfl (congrArg vB c58_t) (fun w hS => x_load1 rfl underlying76 rfl (hS.2.1 0 t.iv rfl)) hq57_ ?_
     refine A_tkY 14 (j := 2) (dj := 212) (b := true) (v := (vI .i64 ((j : Int) - 1))) rfl (by kernel_rfl) rfl rfl (congrArg vB c58_t) (fun w hS => x_move rfl) hq57_ ?_
     have hr59_ := Holds.sl_RSw H56_ 3 rfl
     refine A_tkY 15 (j := 2) (dj := 212) (b := true) (v := (vP (some ⟨(sb t.iv), so t.iv + ((j - 1) * 2 + 0), none⟩))) rfl (by kernel_rfl) rfl rfl (congrArg vB c58_t) (fun w hS => x_idxSlR (v := t.iv) rfl hr59_ rfl underlying76 z24 (by omega) (by omega) (by omega : _ = (j - 1)) rfl) hq57_ ?_
     refine A_tkY 16 (j := 2) (dj := 212) (b := true) (v := (vA #[(vI .i64 x_.key), (vI .i64 x_.val)])) rfl (by kernel_rfl) rfl rfl (congrArg vB c58_t) (fun w hS => x_loadN (vs := [(vI .i64 x_.key), (vI .i64 x_.val)]) rfl underlying24 rfl z24 rfl (SlRd.cells hS.2.2.1 ((j - 1) * 2 + 0) (fm_cells EL.len hx_ (i := 0) rfl))) hq57_ ?_
     refine A_tkY 17 (j := 2) (dj := 212) (b := true) (v := (vP (some ⟨b4_, 0, none⟩))) rfl (by kernel_rfl) rfl rfl (congrArg vB c58_t) (fun w hS => by kernel_rfl) hq57_ ?_
     refine A_tkY 18 (j := 2) (dj := 212) (b := true) (v := (vA #[(vI .i64 ss.key), (vI .i64 ss.val)])) rfl (by kernel_rfl) rfl rfl (congrArg vB c58_t) (fun w hS => x_loadN (vs := [(vI .i64 ss.key), (vI .i64 ss.val)]) rfl underlying24 rfl z24 rfl (Rd.cells hS.1 0 rfl)) hq57_ ?_
     refine A_ready (i := 19) (rs := []) (by kernel_rfl) ?_
     refine AllR.cons ?_ AllR.nil
     have H61_ := ((Holds.bring H56_ 6 rfl) :)
     refine A_opYes (ls' := #[true, true, true, true, true, true, true, true, true, true, true, true, true, true, true, true, true, true, true, true, false, false]) (j := 2) (dj := 212) (b := true) rfl (by kernel_rfl) rfl rfl (congrArg vB c58_t) (T_call (al := [(vA #[(vI .i64 x_.key), (vI .i64 x_.val)]), (vA #[(vI .i64 ss.key), (vI .i64 ss.val)])]) (pre := []) rfl rfl cb16 (btLess R x_ ss) H61_ ?_)
     rintro v60_ p65_ w62_ ⟨rfl, rfl⟩ S64_ H63_
     have S66_ := Same.trans (Same.trans S47_ (Same.drew _)) S64_
     refine ⟨⟨Holds.rd H63_ 2 rfl, Holds.rd H63_ 3 rfl, Holds.slrd H63_ 4 rfl, Holds.slrd H63_ 5 rfl, Holds.rd H63_ 7 rfl, (Holds.ro_at H63_ 0 rfl)⟩, ?_⟩
     have hq67_ := And.intro (Holds.rd H63_ 2 rfl) (And.intro (Holds.rd H63_ 3 rfl) (And.intro (Holds.slrd H63_ 4 rfl) (And.intro (Holds.slrd H63_ 5 rfl) (And.intro (Holds.rd H63_ 7 rfl) ((Holds.ro_at H63_ 0 rfl))))))
     refine A_tkY 20 (j := 2) (dj := 212) (b := true) (v := (vB (decide (¬ (x_.key < ss.key))))) rfl (by kernel_rfl) rfl rfl (congrArg vB c58_t) (fun w hS => x_notP rfl) hq67_ ?_
     refine A_tk 21 (v := (vB (decide (¬ (x_.key < ss.key))))) rfl (by kernel_rfl) (fun w hS => (x_pickT (congrArg vB c58_t) rfl)) hq67_ ?_
     refine A_done (by kernel_rfl) ?_
     refine (X_then (hK55_ _ _ ?_))
     refine C_cond (b := decide (¬ (x_.key < ss.key))) rfl (fun c68_t => ?_) (fun c68_f => ?_)
     ·have c68_tp : ¬ (x_.key < ss.key) := of_decide_eq_true c68_t
      refine C_seq (fun _ hK69_ => ?_)
      refine A_start (S := fun w => Rd b4_ [(vI .i64 ss.key), (vI .i64 ss.val), (vB us)] w ∧ Rd t.a [t.iv, t.cv, (vP (some ⟨c, 0, none⟩))] w ∧ SlRd t.iv (t.xs.flatMap EL.cells) w ∧ SlRd t.cv (pBs (ks.map BT.a)) w ∧ Rd c [(vP (some ⟨fl, 0, none⟩)), (Value.func (.func 16) #[] #[])] w ∧ Sub R (hp w)) (N := 24) foll rfl rfl ?_
      have H70_ := Holds.drew_ H63_
      have hq71_ := And.intro (Holds.rd H70_ 2 rfl) (And.intro (Holds.rd H70_ 3 rfl) (And.intro (Holds.slrd H70_ 4 rfl) (And.intro (Holds.slrd H70_ 5 rfl) (And.intro (Holds.rd H70_ 7 rfl) ((Holds.ro_at H70_ 0 rfl))))))
      refine A_tk 0 (v := (vB us)) rfl (by kernel_rfl) (fun w hS => x_move rfl) hq71_ ?_
      refine A_tk 1 (v := (vB (!us))) rfl (by kernel_rfl) (fun w hS => x_not rfl) hq71_ ?_
      refine A_tk 2 (v := (vB (!us))) rfl (by kernel_rfl) (fun w hS => x_move rfl) hq71_ ?_
      rcases Bool.eq_false_or_eq_true (!us) with c72_t | c72_f
      ·skip
       simp [c58_t] at c72_t
      ·skip
       refine A_tkY 3 (j := 2) (dj := 234) (b := false) (v := (vB hb)) rfl (by kernel_rfl) rfl rfl (congrArg vB c72_f) (fun w hS => x_move rfl) hq71_ ?_
       refine A_tk 4 (v := (vB hb)) rfl (by kernel_rfl) (fun w hS => (x_pickF (congrArg vB c72_f) rfl)) hq71_ ?_
       refine A_tk 5 (v := (vB hb)) rfl (by kernel_rfl) (fun w hS => x_move rfl) hq71_ ?_
       rcases Bool.eq_false_or_eq_true (hb) with c73_t | c73_f
       ·skip
        exact absurd (hxh_ c73_t c58_t) c68_tp
       ·skip
        refine A_tkY 6 (j := 5) (dj := 237) (b := false) (v := (vP (some ⟨t.a, 0, none⟩))) rfl (by kernel_rfl) rfl rfl (congrArg vB c73_f) (fun w hS => x_move rfl) hq71_ ?_
        refine A_tkY 7 (j := 5) (dj := 237) (b := false) (v := (vP (some ⟨t.a, 0, none⟩))) rfl (by kernel_rfl) rfl rfl (congrArg vB c73_f) (fun w hS => by kernel_rfl) hq71_ ?_
        refine A_tkY 8 (j := 5) (dj := 237) (b := false) (v := (vP (some ⟨t.a, 2, none⟩))) rfl (by kernel_rfl) rfl rfl (congrArg vB c73_f) (fun w hS => by kernel_rfl) hq71_ ?_
        refine A_tkY 9 (j := 5) (dj := 237) (b := false) (v := (vP (some ⟨c, 0, none⟩))) rfl (by kernel_rfl) rfl rfl (congrArg vB c73_f) (fun w hS => x_load1 rfl underlying60 rfl (hS.2.1 2 (vP (some ⟨c, 0, none⟩)) rfl)) hq71_ ?_
        refine A_tkY 10 (j := 5) (dj := 237) (b := false) (v := (vP (some ⟨c, 0, none⟩))) rfl (by kernel_rfl) rfl rfl (congrArg vB c73_f) (fun w hS => by kernel_rfl) hq71_ ?_
        refine A_tkY 11 (j := 5) (dj := 237) (b := false) (v := (vP (some ⟨c, 1, none⟩))) rfl (by kernel_rfl) rfl rfl (congrArg vB c73_f) (fun w hS => by kernel_rfl) hq71_ ?_
        refine A_tkY 12 (j := 5) (dj := 237) (b := false) (v := (Value.func (.func 16) #[] #[])) rfl (by kernel_rfl) rfl rfl (congrArg vB c73_f) (fun w hS => x_load1 rfl underlying53 rfl (hS.2.2.2.2.1 1 (Value.func (.func 16) #[] #[]) rfl)) hq71_ ?_
        refine A_tkY 13 (j := 5) (dj := 237) (b := false) (v := (vP (some ⟨b4_, 0, none⟩))) rfl (by kernel_rfl) rfl rfl (congrArg vB c73_f) (fun w hS => by kernel_rfl) hq71_ ?_
        refine A_tkY 14 (j := 5) (dj := 237) (b := false) (v := (vA #[(vI .i64 ss.key), (vI .i64 ss.val)])) rfl (by kernel_rfl) rfl rfl (congrArg vB c73_f) (fun w hS => x_loadN (vs := [(vI .i64 ss.key), (vI .i64 ss.val)]) rfl underlying24 rfl z24 rfl (Rd.cells hS.1 0 rfl)) hq71_ ?_
        refine A_tkY 15 (j := 5) (dj := 237) (b := false) (v := (vP (some ⟨t.a, 0, none⟩))) rfl (by kernel_rfl) rfl rfl (congrArg vB c73_f) (fun w hS => x_move rfl) hq71_ ?_
        refine A_tkY 16 (j := 5) (dj := 237) (b := false) (v := (vP (some ⟨t.a, 0, none⟩))) rfl (by kernel_rfl) rfl rfl (congrArg vB c73_f) (fun w hS => by kernel_rfl) hq71_ ?_
        refine A_tkY 17 (j := 5) (dj := 237) (b := false) (v := (vP (some ⟨t.a, 0, none⟩))) rfl (by kernel_rfl) rfl rfl (congrArg vB c73_f) (fun w hS => by kernel_rfl) hq71_ ?_
        refine A_tkY 18 (j := 5) (dj := 237) (b := false) (v := t.iv) rfl (by kernel_rfl) rfl rfl (congrArg vB c73_f) (fun w hS => x_load1 rfl underlying76 rfl (hS.2.1 0 t.iv rfl)) hq71_ ?_
        refine A_tkY 19 (j := 5) (dj := 237) (b := false) (v := (vI .i64 ((j : Int) - 1))) rfl (by kernel_rfl) rfl rfl (congrArg vB c73_f) (fun w hS => x_move rfl) hq71_ ?_
        refine A_tkY 20 (j := 5) (dj := 237) (b := false) (v := (vP (some ⟨(sb t.iv), so t.iv + ((j - 1) * 2 + 0), none⟩))) rfl (by kernel_rfl) rfl rfl (congrArg vB c73_f) (fun w hS => x_idxSlR (v := t.iv) rfl hr59_ rfl underlying76 z24 (by omega) (by omega) (by omega : _ = (j - 1)) rfl) hq71_ ?_
        refine A_tkY 21 (j := 5) (dj := 237) (b := false) (v := (vA #[(vI .i64 x_.key), (vI .i64 x_.val)])) rfl (by kernel_rfl) rfl rfl (congrArg vB c73_f) (fun w hS => x_loadN (vs := [(vI .i64 x_.key), (vI .i64 x_.val)]) rfl underlying24 rfl z24 rfl (SlRd.cells hS.2.2.1 ((j - 1) * 2 + 0) (fm_cells EL.len hx_ (i := 0) rfl))) hq71_ ?_
        refine A_ready (i := 22) (rs := []) (by kernel_rfl) ?_
        refine AllR.cons ?_ AllR.nil
        refine A_opYes (ls' := #[true, true, true, true, true, true, true, true, true, true, true, true, true, true, true, true, true, true, true, true, true, true, true, false]) (j := 5) (dj := 237) (b := false) rfl (by kernel_rfl) rfl rfl (congrArg vB c73_f) (T_call (al := [(vA #[(vI .i64 ss.key), (vI .i64 ss.val)]), (vA #[(vI .i64 x_.key), (vI .i64 x_.val)])]) (pre := []) rfl rfl cb16 (btLess R ss x_) H70_ ?_)
        rintro v74_ p78_ w75_ ⟨rfl, rfl⟩ S77_ H76_
        have S79_ := Same.trans (Same.trans S66_ (Same.drew _)) S77_
        refine ⟨⟨Holds.rd H76_ 2 rfl, Holds.rd H76_ 3 rfl, Holds.slrd H76_ 4 rfl, Holds.slrd H76_ 5 rfl, Holds.rd H76_ 7 rfl, (Holds.ro_at H76_ 0 rfl)⟩, ?_⟩
        have hq80_ := And.intro (Holds.rd H76_ 2 rfl) (And.intro (Holds.rd H76_ 3 rfl) (And.intro (Holds.slrd H76_ 4 rfl) (And.intro (Holds.slrd H76_ 5 rfl) (And.intro (Holds.rd H76_ 7 rfl) ((Holds.ro_at H76_ 0 rfl))))))
        refine A_tk 23 (v := (vB (decide (ss.key < x_.key)))) rfl (by kernel_rfl) (fun w hS => (x_pickF (congrArg vB c73_f) rfl)) hq80_ ?_
        refine A_done (by kernel_rfl) ?_
        refine (X_then (hK69_ _ _ ?_))
        refine C_cond (b := decide (ss.key < x_.key)) rfl (fun c81_t => ?_) (fun c81_f => ?_)
        ·have c81_tp : ss.key < x_.key := of_decide_eq_true c81_t
         exact absurd (hxs_ c58_t) (by omega)
        ·have c81_fp : ¬ (ss.key < x_.key) := of_decide_eq_false c81_f
         refine C_skip (X_then ?_)
         have H82_ := Holds.pkF H76_ [1, 1, 1, 1, 1, 1, 0, 0, 0] 0
         exact ⟨_, congrArg (fun e => mkA 343 e []) (ch (ch (ch (ch (ch (ch (ch (ch (ch (ch rfl rfl) rfl) rfl) rfl) rfl) rfl) rfl) rfl) rfl) rfl), H82_, S79_⟩
     ·have c68_fp : ¬ (¬ (x_.key < ss.key)) := of_decide_eq_false c68_f
      refine C_skip (X_then ?_)
      have H83_ := Holds.pkF H63_ [1, 1, 1, 1, 1, 1, 0, 0, 0] 0
      exact ⟨_, congrArg (fun e => mkA 343 e []) (ch (ch (ch (ch (ch (ch (ch (ch (ch (ch rfl rfl) rfl) rfl) rfl) rfl) rfl) rfl) rfl) rfl) rfl), H83_, S66_⟩
    ·skip
     refine A_tkN 3 (j := 2) (dj := 212) (b := false) rfl (by kernel_rfl) rfl rfl (congrArg vB c58_f) (by decide) hq57_ ?_
     refine A_tkN 4 (j := 2) (dj := 212) (b := false) rfl (by kernel_rfl) rfl rfl (congrArg vB c58_f) (by decide) hq57_ ?_
     refine A_tkN 5 (j := 2) (dj := 212) (b := false) rfl (by kernel_rfl) rfl rfl (congrArg vB c58_f) (by decide) hq57_ ?_
     refine A_tkN 6 (j := 2) (dj := 212) (b := false) rfl (by kernel_rfl) rfl rfl (congrArg vB c58_f) (by decide) hq57_ ?_
     refine A_tkN 7 (j := 2) (dj := 212) (b := false) rfl (by kernel_rfl) rfl rfl (congrArg vB c58_f) (by decide) hq57_ ?_
     refine A_tkN 8 (j := 2) (dj := 212) (b := false) rfl (by kernel_rfl) rfl rfl (congrArg vB c58_f) (by decide) hq57_ ?_
     refine A_tkN 9 (j := 2) (dj := 212) (b := false) rfl (by kernel_rfl) rfl rfl (congrArg vB c58_f) (by decide) hq57_ ?_
     refine A_tkN 10 (j := 2) (dj := 212) (b := false) rfl (by kernel_rfl) rfl rfl (congrArg vB c58_f) (by decide) hq57_ ?_
     refine A_tkN 11 (j := 2) (dj := 212) (b := false) rfl (by kernel_rfl) rfl rfl (congrArg vB c58_f) (by decide) hq57_ ?_
     refine A_tkN 12 (j := 2) (dj := 212) (b := false) rfl (by kernel_rfl) rfl rfl (congrArg vB c58_f) (by decide) hq57_ ?_
     refine A_tkN 13 (j := 2) (dj := 212) (b := false) rfl (by kernel_rfl) rfl rfl (congrArg vB c58_f) (by decide) hq57_ ?_
     refine A_tkN 14 (j := 2) (dj := 212) (b := false) rfl (by kernel_rfl) rfl rfl (congrArg vB c58_f) (by decide) hq57_ ?_
     refine A_tkN 15 (j := 2) (dj := 212) (b := false) rfl (by kernel_rfl) rfl rfl (congrArg vB c58_f) (by decide) hq57_ ?_
     refine A_tkN 16 (j := 2) (dj := 212) (b := false) rfl (by kernel_rfl) rfl rfl (congrArg vB c58_f) (by decide) hq57_ ?_
     refine A_tkN 17 (j := 2) (dj := 212) (b := false) rfl (by kernel_rfl) rfl rfl (congrArg vB c58_f) (by decide) hq57_ ?_
     refine A_tkN 18 (j := 2) (dj := 212) (b := false) rfl (by kernel_rfl) rfl rfl (congrArg vB c58_f) (by decide) hq57_ ?_
     refine A_tkN 19 (j := 2) (dj := 212) (b := false) rfl (by kernel_rfl) rfl rfl (congrArg vB c58_f) (by decide) hq57_ ?_
     refine A_tkN 20 (j := 2) (dj := 212) (b := false) rfl (by kernel_rfl) rfl rfl (congrArg vB c58_f) (by decide) hq57_ ?_
     refine A_tk 21 (v := (vB false)) rfl (by kernel_rfl) (fun w hS => (x_pickF (congrArg vB c58_f) rfl)) hq57_ ?_
     refine A_done (by kernel_rfl) ?_
     refine (X_then (hK55_ _ _ ?_))
     refine C_condF rfl ?_
     refine C_skip (X_then ?_)
     exact ⟨_, congrArg (fun e => mkA 343 e []) (ch (ch (ch (ch (ch (ch (ch (ch (ch (ch rfl rfl) rfl) rfl) rfl) rfl) rfl) rfl) rfl) rfl) rfl), H56_, (Same.trans S47_ (Same.drew _))⟩
   ·rintro _ w52_ ⟨h, rfl, H53_, S54_⟩
    refine C_seq (fun _ hK84_ => ?_)
    refine cR fun _ hK85_ => ?_
    refine sm (vP (some ⟨t.a, 0, none⟩)) ?_
    refine sv (v := (vP (some ⟨t.a, 0, none⟩))) (by kernel_rfl) ?_
    refine sv (v := (vP (some ⟨t.a, 1, none⟩))) (by kernel_rfl) ?_
    refine sv (v := t.cv) (x_load1 rfl underlying77 rfl ((Holds.rd H53_ 2 rfl) 1 t.cv rfl)) ?_
    refine sv (v := (vI .i64 ((List.length (ks.map BT.a)) : Int))) (x_lenSl rfl H53_ 4 rfl underlying77) ?_
    refine sv (v := (vB (decide (0 < ((List.length (ks.map BT.a)) : Int))))) (x_bin rfl rfl rfl) ?_
    refine wn (hK85_ _ _ ?_)
    refine C_cond (b := decide (0 < ((List.length (ks.map BT.a)) : Int))) rfl (fun c86_t => ?_) (fun c86_f => ?_)
    ·have c86_tp : 0 < ((List.length (ks.map BT.a)) : Int) := of_decide_eq_true c86_t
     refine C_seq (fun _ hK87_ => ?_)
     refine A_start (S := fun w => Rd b9_ [(vI .i64 pp.key), (vI .i64 pp.val), (vB ut)] w ∧ Rd b4_ [(vI .i64 ss.key), (vI .i64 ss.val), (vB us)] w ∧ Rd t.a [t.iv, t.cv, (vP (some ⟨c, 0, none⟩))] w ∧ SlRd t.iv (t.xs.flatMap EL.cells) w ∧ SlRd t.cv (pBs (ks.map BT.a)) w ∧ Rd c [(vP (some ⟨fl, 0, none⟩)), (Value.func (.func 16) #[] #[])] w ∧ Sub R (hp w)) (N := 20) foll rfl rfl ?_
     have H88_ := Holds.drew_ H53_
     have hq89_ := And.intro (Holds.rd H88_ 0 rfl) (And.intro (Holds.rd H88_ 1 rfl) (And.intro (Holds.rd H88_ 2 rfl) (And.intro (Holds.slrd H88_ 3 rfl) (And.intro (Holds.slrd H88_ 4 rfl) (And.intro (Holds.rd H88_ 7 rfl) ((Holds.ro_at H88_ 6 rfl)))))))
     refine A_tk 0 (v := (vP (some ⟨t.a, 0, none⟩))) rfl (by kernel_rfl) (fun w hS => x_move rfl) hq89_ ?_
     refine A_tk 1 (v := (vP (some ⟨t.a, 0, none⟩))) rfl (by kernel_rfl) (fun w hS => by kernel_rfl) hq89_ ?_
     refine A_tk 2 (v := (vP (some ⟨t.a, 1, none⟩))) rfl (by kernel_rfl) (fun w hS => by kernel_rfl) hq89_ ?_
     refine A_tk 3 (v := t.cv) rfl (by kernel_rfl) (fun w hS => x_load1 rfl underlying77 rfl (hS.2.2.1 1 t.cv rfl)) hq89_ ?_
     refine A_tk 4 (v := (vI .i64 ((j : Int) - 1))) rfl (by kernel_rfl) (fun w hS => x_move rfl) hq89_ ?_
     refine A_tk 5 (v := (vI .i64 (((j : Int) - 1) + 1))) rfl (by kernel_rfl) (fun w hS => x_bin rfl rfl (ib_add (IntWalk.i64_in _ (by omega)))) hq89_ ?_
     have hr90_ := Holds.sl_RSw H88_ 4 rfl
     refine A_tk 6 (v := (vP (some ⟨(sb t.cv), so t.cv + j, none⟩))) rfl (by kernel_rfl) (fun w hS => x_idxSlR (v := t.cv) rfl hr90_ rfl underlying77 z59 (by omega) (by omega) (by omega : _ = j) (by rw [Nat.mul_one])) hq89_ ?_
     refine A_tk 7 (v := (vP (some ⟨k_.a, 0, none⟩))) rfl (by kernel_rfl) (fun w hS => x_load1 rfl underlying59 rfl (hS.2.2.2.2.1 _ _ (pbs_at (kid_a hk_)))) hq89_ ?_
     refine A_tk 8 (v := (vI .i64 (-1))) rfl (by kernel_rfl) (fun w hS => x_move rfl) hq89_ ?_
     refine A_tk 9 (v := (vA #[(vI .i64 ss.key), (vI .i64 ss.val), (vB us)])) rfl (by kernel_rfl) (fun w hS => x_loadN (vs := [(vI .i64 ss.key), (vI .i64 ss.val), (vB us)]) rfl underlying105 rfl z105 rfl (Rd.cells hS.2.1 0 rfl)) hq89_ ?_
     refine A_tk 10 (v := (vA #[(vI .i64 pp.key), (vI .i64 pp.val), (vB ut)])) rfl (by kernel_rfl) (fun w hS => x_loadN (vs := [(vI .i64 pp.key), (vI .i64 pp.val), (vB ut)]) rfl underlying105 rfl z105 rfl (Rd.cells hS.1 0 rfl)) hq89_ ?_
     refine A_tk 11 (v := (vB us)) rfl (by kernel_rfl) (fun w hS => x_move rfl) hq89_ ?_
     refine A_tk 12 (v := (vB hb)) rfl (by kernel_rfl) (fun w hS => x_move rfl) hq89_ ?_
     refine A_tk 13 (v := (Value.func (.func 44) #[] #[(vP (some ⟨ob, 0, none⟩)), (vP (some ⟨pb, 0, none⟩))])) rfl (by kernel_rfl) (fun w hS => x_move rfl) hq89_ ?_
     refine A_ready (i := 14) (rs := []) (by kernel_rfl) ?_
     refine AllR.cons ?_ AllR.nil
     have H91_ := ((Holds.bring H88_ 5 rfl) :)
     have H92_ := Holds.kids_out hk_ H91_
     have H98_ := ((Holds.bring (Holds.bring (Holds.bring (Holds.bring H92_ 9 rfl) 9 rfl) 2 rfl) 9 rfl) :)
     refine A_op (ls' := #[true, true, true, true, true, true, true, true, true, true, true, true, true, true, true, false, false, false, false, false]) rfl (by kernel_rfl) (T_call (al := [(vP (some ⟨k_.a, 0, none⟩)), (vI .i64 (-1)), (vA #[(vI .i64 ss.key), (vI .i64 ss.val), (vB us)]), (vA #[(vI .i64 pp.key), (vI .i64 pp.val), (vB ut)]), (vB us), (vB hb), (Value.func (.func 44) #[] #[(vP (some ⟨ob, 0, none⟩)), (vP (some ⟨pb, 0, none⟩))])]) (pre := [btp c k_, cl c 58 [(vP (some ⟨fl, 0, none⟩)), (Value.func (.func 16) #[] #[])], outP ob pb q O1]) rfl rfl cb63 (ih R c fl k_ ss pp us ut hb ob pb q O1 (hwk_) (hsk_) (Nat.le_trans hnk_ hn) (by rw [← hk0_]; omega) (hkh_)) H98_ ?_)
     rintro v93_ p102_ w99_ ⟨h94_, ok95_, O96_, rfl, rfl, he97_⟩ S101_ H100_
     have S103_ := Same.trans (Same.trans S54_ (Same.drew _)) S101_
     have H104_ := ((Holds.bring (Holds.bring H100_ 4 rfl) 2 rfl) :)
     have H105_ := Holds.kids_back hk_ H104_
     have hq0_ : runA (stD ut pp) q.most (selD us ss (k0_ ++ (postI (t.xs.drop j) ((ks.map BT.el).drop (j + 1))))) O = (O96_, ok95_) := itD_kid hrun (by rw [hk0_]; exact he97_)
     refine ⟨⟨Holds.rd H105_ 4 rfl, Holds.rd H105_ 5 rfl, Holds.rd H105_ 6 rfl, Holds.slrd H105_ 7 rfl, Holds.slrd H105_ 8 rfl, Holds.rd H105_ 2 rfl, (Holds.ro_at H105_ 1 rfl)⟩, ?_⟩
     have hq106_ := And.intro (Holds.rd H105_ 4 rfl) (And.intro (Holds.rd H105_ 5 rfl) (And.intro (Holds.rd H105_ 6 rfl) (And.intro (Holds.slrd H105_ 7 rfl) (And.intro (Holds.slrd H105_ 8 rfl) (And.intro (Holds.rd H105_ 2 rfl) ((Holds.ro_at H105_ 1 rfl)))))))
     refine A_tk 15 (v := (vT #[(vB h94_), (vB ok95_)])) rfl (by kernel_rfl) (fun w hS => x_move rfl) hq106_ ?_
     refine A_tk 16 (v := (vB h94_)) rfl (by kernel_rfl) (fun w hS => by kernel_rfl) hq106_ ?_
     refine A_tk 17 (v := (vB ok95_)) rfl (by kernel_rfl) (fun w hS => by kernel_rfl) hq106_ ?_
     refine A_tk 18 (v := (vB h94_)) rfl (by kernel_rfl) (fun w hS => x_assign rfl) hq106_ ?_
     refine A_tk 19 (v := (vB ok95_)) rfl (by kernel_rfl) (fun w hS => x_assign rfl) hq106_ ?_
     refine A_done (by kernel_rfl) ?_
     refine (X_then (hK87_ _ _ ?_))
     refine cR fun _ hK107_ => ?_
     refine sm (vB ok95_) ?_
     refine sv (v := (vB (!ok95_))) (x_not rfl) ?_
     refine wn (hK107_ _ _ ?_)
     refine C_cond (b := !ok95_) rfl (fun c108_t => ?_) (fun c108_f => ?_)
     ·skip
      have hq1_ := hq0_
      rw [show ok95_ = false by simpa using c108_t] at hq1_
      refine cR fun _ hK109_ => ?_
      refine sm (vB h94_) ?_
      refine sv (v := (vB h94_)) (x_assign rfl) ?_
      refine sv (v := (vB false)) (x_assign rfl) ?_
      refine wn (hK109_ _ _ ?_)
      refine C_ret (X_thenR (X_blkR (X_thenR (X_thenR (X_blkR (X_thenR (X_blkR (X_thenR ?_))))))))
      refine R_any (v := (vT #[(vB h94_), (vB false)])) (run_results2 rfl rfl rfl) ?_
      have H110_ := ((Holds.bring (Holds.bring (Holds.bring H105_ 8 rfl) 8 rfl) 8 rfl) :)
      have H111_ := Holds.node_in (t := t) H110_
      have H112_ := Holds.pkF H111_ [1, 0, 0, 0] 2
      exact ⟨_, _, rfl, ⟨h94_, false, O96_, rfl, rfl, (finD_kid hKl hkK_ hq1_)⟩, S103_, H112_⟩
     ·skip
      have hq1_ := hq0_
      rw [show ok95_ = true by simpa using c108_f] at hq1_
      refine C_skip (X_then (hK84_ _ _ ?_))
      refine C_cut (fun a__ w1__ => ∃ t14_v : Bool, ∃ t15_v : Bool, ∃ h : Env, a__ = mkA 343 (upd (upd (upd (upd (upd (upd (upd (upd (upd (upd h 0 (vP (some ⟨t.a, 0, none⟩))) 1 (vI .i64 (-1))) 4 (vB us)) 5 (vB h94_)) 6 (Value.func (.func 44) #[] #[(vP (some ⟨ob, 0, none⟩)), (vP (some ⟨pb, 0, none⟩))])) 9 (vP (some ⟨b4_, 0, none⟩))) 10 (vP (some ⟨b9_, 0, none⟩))) 14 (vB t14_v)) 15 (vB t15_v)) 20 (vI .i64 ((j : Int) - 1))) [] ∧ Holds w1__ (kids c ks :: ro R :: cl c 58 [(vP (some ⟨fl, 0, none⟩)), (Value.func (.func 16) #[] #[])] :: outP ob pb q O96_ :: cl b9_ 105 [(vI .i64 pp.key), (vI .i64 pp.val), (vB ut)] :: cl b4_ 105 [(vI .i64 ss.key), (vI .i64 ss.val), (vB us)] :: cl t.a 79 [t.iv, t.cv, (vP (some ⟨c, 0, none⟩))] :: sl 24 2 t.iv (List.length t.xs) (t.xs.flatMap EL.cells) :: sl 59 1 t.cv (List.length (ks.map BT.a)) (pBs (ks.map BT.a)) :: F) ∧ Same w w1__ ∧ ((stD ut pp x_) = false)) ?_ ?_
      ·refine C_seq (fun _ hK116_ => ?_)
       refine A_start (S := fun w => Rd c [(vP (some ⟨fl, 0, none⟩)), (Value.func (.func 16) #[] #[])] w ∧ Rd b9_ [(vI .i64 pp.key), (vI .i64 pp.val), (vB ut)] w ∧ Rd t.a [t.iv, t.cv, (vP (some ⟨c, 0, none⟩))] w ∧ SlRd t.iv (t.xs.flatMap EL.cells) w ∧ SlRd t.cv (pBs (ks.map BT.a)) w ∧ Sub R (hp w)) (N := 22) foll rfl rfl ?_
       have H117_ := Holds.drew_ H105_
       have hq118_ := And.intro (Holds.rd H117_ 2 rfl) (And.intro (Holds.rd H117_ 4 rfl) (And.intro (Holds.rd H117_ 6 rfl) (And.intro (Holds.slrd H117_ 7 rfl) (And.intro (Holds.slrd H117_ 8 rfl) ((Holds.ro_at H117_ 1 rfl))))))
       refine A_tk 0 (v := (vP (some ⟨b9_, 2, none⟩))) rfl (by kernel_rfl) (fun w hS => by kernel_rfl) hq118_ ?_
       refine A_tk 1 (v := (vB ut)) rfl (by kernel_rfl) (fun w hS => x_load1 rfl underlying4 rfl (hS.2.1 2 (vB ut) rfl)) hq118_ ?_
       refine A_tk 2 (v := (vB ut)) rfl (by kernel_rfl) (fun w hS => x_move rfl) hq118_ ?_
       rcases Bool.eq_false_or_eq_true (ut) with c119_t | c119_f
       ·skip
        refine A_tkY 3 (j := 2) (dj := 285) (b := true) (v := (vP (some ⟨t.a, 0, none⟩))) rfl (by kernel_rfl) rfl rfl (congrArg vB c119_t) (fun w hS => x_move rfl) hq118_ ?_
        refine A_tkY 4 (j := 2) (dj := 285) (b := true) (v := (vP (some ⟨t.a, 0, none⟩))) rfl (by kernel_rfl) rfl rfl (congrArg vB c119_t) (fun w hS => by kernel_rfl) hq118_ ?_
        refine A_tkY 5 (j := 2) (dj := 285) (b := true) (v := (vP (some ⟨t.a, 2, none⟩))) rfl (by kernel_rfl) rfl rfl (congrArg vB c119_t) (fun w hS => by kernel_rfl) hq118_ ?_
        refine A_tkY 6 (j := 2) (dj := 285) (b := true) (v := (vP (some ⟨c, 0, none⟩))) rfl (by kernel_rfl) rfl rfl (congrArg vB c119_t) (fun w hS => x_load1 rfl underlying60 rfl (hS.2.2.1 2 (vP (some ⟨c, 0, none⟩)) rfl)) hq118_ ?_
        refine A_tkY 7 (j := 2) (dj := 285) (b := true) (v := (vP (some ⟨c, 0, none⟩))) rfl (by kernel_rfl) rfl rfl (congrArg vB c119_t) (fun w hS => by kernel_rfl) hq118_ ?_
        refine A_tkY 8 (j := 2) (dj := 285) (b := true) (v := (vP (some ⟨c, 1, none⟩))) rfl (by kernel_rfl) rfl rfl (congrArg vB c119_t) (fun w hS => by kernel_rfl) hq118_ ?_
        refine A_tkY 9 (j := 2) (dj := 285) (b := true) (v := (Value.func (.func 16) #[] #[])) rfl (by kernel_rfl) rfl rfl (congrArg vB c119_t) (fun w hS => x_load1 rfl underlying53 rfl (hS.1 1 (Value.func (.func 16) #[] #[]) rfl)) hq118_ ?_
        refine A_tkY 10 (j := 2) (dj := 285) (b := true) (v := (vP (some ⟨b9_, 0, none⟩))) rfl (by kernel_rfl) rfl rfl (congrArg vB c119_t) (fun w hS => by kernel_rfl) hq118_ ?_
        refine A_tkY 11 (j := 2) (dj := 285) (b := true) (v := (vA #[(vI .i64 pp.key), (vI .i64 pp.val)])) rfl (by kernel_rfl) rfl rfl (congrArg vB c119_t) (fun w hS => x_loadN (vs := [(vI .i64 pp.key), (vI .i64 pp.val)]) rfl underlying24 rfl z24 rfl (Rd.cells hS.2.1 0 rfl)) hq118_ ?_
        refine A_tkY 12 (j := 2) (dj := 285) (b := true) (v := (vP (some ⟨t.a, 0, none⟩))) rfl (by kernel_rfl) rfl rfl (congrArg vB c119_t) (fun w hS => x_move rfl) hq118_ ?_
        refine A_tkY 13 (j := 2) (dj := 285) (b := true) (v := (vP (some ⟨t.a, 0, none⟩))) rfl (by kernel_rfl) rfl rfl (congrArg vB c119_t) (fun w hS => by kernel_rfl) hq118_ ?_
        refine A_tkY 14 (j := 2) (dj := 285) (b := true) (v := (vP (some ⟨t.a, 0, none⟩))) rfl (by kernel_rfl) rfl rfl (congrArg vB c119_t) (fun w hS => by kernel_rfl) hq118_ ?_
        refine A_tkY 15 (j := 2) (dj := 285) (b := true) (v := t.iv) rfl (by kernel_rfl) rfl rfl (congrArg vB c119_t) (fun w hS => x_load1 rfl underlying76 rfl (hS.2.2.1 0 t.iv rfl)) hq118_ ?_
        refine A_tkY 16 (j := 2) (dj := 285) (b := true) (v := (vI .i64 ((j : Int) - 1))) rfl (by kernel_rfl) rfl rfl (congrArg vB c119_t) (fun w hS => x_move rfl) hq118_ ?_
        have hr120_ := Holds.sl_RSw H117_ 7 rfl
        refine A_tkY 17 (j := 2) (dj := 285) (b := true) (v := (vP (some ⟨(sb t.iv), so t.iv + ((j - 1) * 2 + 0), none⟩))) rfl (by kernel_rfl) rfl rfl (congrArg vB c119_t) (fun w hS => x_idxSlR (v := t.iv) rfl hr120_ rfl underlying76 z24 (by omega) (by omega) (by omega : _ = (j - 1)) rfl) hq118_ ?_
        refine A_tkY 18 (j := 2) (dj := 285) (b := true) (v := (vA #[(vI .i64 x_.key), (vI .i64 x_.val)])) rfl (by kernel_rfl) rfl rfl (congrArg vB c119_t) (fun w hS => x_loadN (vs := [(vI .i64 x_.key), (vI .i64 x_.val)]) rfl underlying24 rfl z24 rfl (SlRd.cells hS.2.2.2.1 ((j - 1) * 2 + 0) (fm_cells EL.len hx_ (i := 0) rfl))) hq118_ ?_
        refine A_ready (i := 19) (rs := []) (by kernel_rfl) ?_
        refine AllR.cons ?_ AllR.nil
        have H122_ := ((Holds.bring H117_ 1 rfl) :)
        refine A_opYes (ls' := #[true, true, true, true, true, true, true, true, true, true, true, true, true, true, true, true, true, true, true, true, false, false]) (j := 2) (dj := 285) (b := true) rfl (by kernel_rfl) rfl rfl (congrArg vB c119_t) (T_call (al := [(vA #[(vI .i64 pp.key), (vI .i64 pp.val)]), (vA #[(vI .i64 x_.key), (vI .i64 x_.val)])]) (pre := []) rfl rfl cb16 (btLess R pp x_) H122_ ?_)
        rintro v121_ p126_ w123_ ⟨rfl, rfl⟩ S125_ H124_
        have S127_ := Same.trans (Same.trans S103_ (Same.drew _)) S125_
        refine ⟨⟨Holds.rd H124_ 2 rfl, Holds.rd H124_ 4 rfl, Holds.rd H124_ 6 rfl, Holds.slrd H124_ 7 rfl, Holds.slrd H124_ 8 rfl, (Holds.ro_at H124_ 0 rfl)⟩, ?_⟩
        have hq128_ := And.intro (Holds.rd H124_ 2 rfl) (And.intro (Holds.rd H124_ 4 rfl) (And.intro (Holds.rd H124_ 6 rfl) (And.intro (Holds.slrd H124_ 7 rfl) (And.intro (Holds.slrd H124_ 8 rfl) ((Holds.ro_at H124_ 0 rfl))))))
        refine A_tkY 20 (j := 2) (dj := 285) (b := true) (v := (vB (decide (¬ (pp.key < x_.key))))) rfl (by kernel_rfl) rfl rfl (congrArg vB c119_t) (fun w hS => x_notP rfl) hq128_ ?_
        refine A_tk 21 (v := (vB (decide (¬ (pp.key < x_.key))))) rfl (by kernel_rfl) (fun w hS => (x_pickT (congrArg vB c119_t) rfl)) hq128_ ?_
        refine A_done (by kernel_rfl) ?_
        refine (X_then (hK116_ _ _ ?_))
        refine C_cond (b := decide (¬ (pp.key < x_.key))) rfl (fun c129_t => ?_) (fun c129_f => ?_)
        ·have c129_tp : ¬ (pp.key < x_.key) := of_decide_eq_true c129_t
         refine cR fun _ hK130_ => ?_
         refine sm (vB h94_) ?_
         refine sv (v := (vB h94_)) (x_assign rfl) ?_
         refine sv (v := (vB false)) (x_assign rfl) ?_
         refine wn (hK130_ _ _ ?_)
         refine C_ret (X_thenR (X_blkR (X_thenR (X_thenR (X_blkR (X_thenR (X_blkR (X_thenR ?_))))))))
         refine R_any (v := (vT #[(vB h94_), (vB false)])) (run_results2 rfl rfl rfl) ?_
         have H131_ := ((Holds.bring (Holds.bring (Holds.bring (Holds.bring H124_ 1 rfl) 8 rfl) 8 rfl) 8 rfl) :)
         have H132_ := Holds.node_in (t := t) H131_
         have H133_ := Holds.pkF H132_ [1, 0, 0, 0] 2
         exact ⟨_, _, rfl, ⟨h94_, false, O96_, rfl, rfl, (finD_item hKl hj1_ hkK_ hx_ (itD_stop hq1_ hxs_ (by simp [stD, c119_t]; have hz__ := c129_tp; omega)))⟩, S127_, H133_⟩
        ·have c129_fp : ¬ (¬ (pp.key < x_.key)) := of_decide_eq_false c129_f
         refine C_skip (X_then ?_)
         have H134_ := Holds.pkF H124_ [1, 0, 0, 0, 0, 0, 0, 0, 0] 0
         exact ⟨t14_v, t15_v, _, congrArg (fun e => mkA 343 e []) (ch (ch (ch (ch (ch (ch (ch (ch (ch (ch rfl rfl) rfl) rfl) rfl) rfl) rfl) rfl) rfl) rfl) rfl), H134_, S127_, (by simp [stD]; have hz__ := c129_fp; omega)⟩
       ·skip
        refine A_tkN 3 (j := 2) (dj := 285) (b := false) rfl (by kernel_rfl) rfl rfl (congrArg vB c119_f) (by decide) hq118_ ?_
        refine A_tkN 4 (j := 2) (dj := 285) (b := false) rfl (by kernel_rfl) rfl rfl (congrArg vB c119_f) (by decide) hq118_ ?_
        refine A_tkN 5 (j := 2) (dj := 285) (b := false) rfl (by kernel_rfl) rfl rfl (congrArg vB c119_f) (by decide) hq118_ ?_
        refine A_tkN 6 (j := 2) (dj := 285) (b := false) rfl (by kernel_rfl) rfl rfl (congrArg vB c119_f) (by decide) hq118_ ?_
        refine A_tkN 7 (j := 2) (dj := 285) (b := false) rfl (by kernel_rfl) rfl rfl (congrArg vB c119_f) (by decide) hq118_ ?_
        refine A_tkN 8 (j := 2) (dj := 285) (b := false) rfl (by kernel_rfl) rfl rfl (congrArg vB c119_f) (by decide) hq118_ ?_
        refine A_tkN 9 (j := 2) (dj := 285) (b := false) rfl (by kernel_rfl) rfl rfl (congrArg vB c119_f) (by decide) hq118_ ?_
        refine A_tkN 10 (j := 2) (dj := 285) (b := false) rfl (by kernel_rfl) rfl rfl (congrArg vB c119_f) (by decide) hq118_ ?_
        refine A_tkN 11 (j := 2) (dj := 285) (b := false) rfl (by kernel_rfl) rfl rfl (congrArg vB c119_f) (by decide) hq118_ ?_
        refine A_tkN 12 (j := 2) (dj := 285) (b := false) rfl (by kernel_rfl) rfl rfl (congrArg vB c119_f) (by decide) hq118_ ?_
        refine A_tkN 13 (j := 2) (dj := 285) (b := false) rfl (by kernel_rfl) rfl rfl (congrArg vB c119_f) (by decide) hq118_ ?_
        refine A_tkN 14 (j := 2) (dj := 285) (b := false) rfl (by kernel_rfl) rfl rfl (congrArg vB c119_f) (by decide) hq118_ ?_
        refine A_tkN 15 (j := 2) (dj := 285) (b := false) rfl (by kernel_rfl) rfl rfl (congrArg vB c119_f) (by decide) hq118_ ?_
        refine A_tkN 16 (j := 2) (dj := 285) (b := false) rfl (by kernel_rfl) rfl rfl (congrArg vB c119_f) (by decide) hq118_ ?_
        refine A_tkN 17 (j := 2) (dj := 285) (b := false) rfl (by kernel_rfl) rfl rfl (congrArg vB c119_f) (by decide) hq118_ ?_
        refine A_tkN 18 (j := 2) (dj := 285) (b := false) rfl (by kernel_rfl) rfl rfl (congrArg vB c119_f) (by decide) hq118_ ?_
        refine A_tkN 19 (j := 2) (dj := 285) (b := false) rfl (by kernel_rfl) rfl rfl (congrArg vB c119_f) (by decide) hq118_ ?_
        refine A_tkN 20 (j := 2) (dj := 285) (b := false) rfl (by kernel_rfl) rfl rfl (congrArg vB c119_f) (by decide) hq118_ ?_
        refine A_tk 21 (v := (vB false)) rfl (by kernel_rfl) (fun w hS => (x_pickF (congrArg vB c119_f) rfl)) hq118_ ?_
        refine A_done (by kernel_rfl) ?_
        refine (X_then (hK116_ _ _ ?_))
        refine C_condF rfl ?_
        refine C_skip (X_then ?_)
        exact ⟨t14_v, t15_v, _, congrArg (fun e => mkA 343 e []) (ch (ch (ch (ch (ch (ch (ch (ch (ch (ch rfl rfl) rfl) rfl) rfl) rfl) rfl) rfl) rfl) rfl) rfl), H117_, (Same.trans S103_ (Same.drew _)), (by simp [stD, c119_f])⟩
      ·rintro _ w113_ ⟨t14_v, t15_v, h, rfl, H114_, S115_, hst_⟩
       refine cR fun _ hK135_ => ?_
       refine sv (v := (vB true)) (x_assign rfl) ?_
       refine wn (hK135_ _ _ ?_)
       refine cR fun _ hK136_ => ?_
       refine sm (Value.func (.func 44) #[] #[(vP (some ⟨ob, 0, none⟩)), (vP (some ⟨pb, 0, none⟩))]) ?_
       refine sm (vP (some ⟨t.a, 0, none⟩)) ?_
       refine sv (v := (vP (some ⟨t.a, 0, none⟩))) (by kernel_rfl) ?_
       refine sv (v := (vP (some ⟨t.a, 0, none⟩))) (by kernel_rfl) ?_
       refine sv (v := t.iv) (x_load1 rfl underlying76 rfl ((Holds.rd H114_ 6 rfl) 0 t.iv rfl)) ?_
       refine sm (vI .i64 ((j : Int) - 1)) ?_
       have hr137_ := Holds.sl_RSw H114_ 7 rfl
       refine sv (v := (vP (some ⟨(sb t.iv), so t.iv + ((j - 1) * 2 + 0), none⟩))) (x_idxSlR (v := t.iv) rfl hr137_ rfl underlying76 z24 (by omega) (by omega) (by omega : _ = (j - 1)) rfl) ?_
       refine sv (v := (vA #[(vI .i64 x_.key), (vI .i64 x_.val)])) (x_loadN (vs := [(vI .i64 x_.key), (vI .i64 x_.val)]) rfl underlying24 rfl z24 rfl (SlRd.cells (Holds.slrd H114_ 7 rfl) ((j - 1) * 2 + 0) (fm_cells EL.len hx_ (i := 0) rfl))) ?_
       have hq2_ := itD_item hq1_ hxs_ hst_
       have hbv_ := runD_bnd hq1_
       simp only [List.length_append] at hbv_
       have H139_ := ((Holds.bring (Holds.bring H114_ 3 rfl) 2 rfl) :)
       refine S_list (T_call (al := [(vA #[(vI .i64 x_.key), (vI .i64 x_.val)]), (vP (some ⟨ob, 0, none⟩)), (vP (some ⟨pb, 0, none⟩))]) (pre := [outP ob pb q O96_]) rfl rfl cb44 (btVis R ob pb q O96_ x_ (by omega)) H139_ ?_)
       rintro v138_ p143_ w140_ ⟨rfl, rfl⟩ S142_ H141_
       have S144_ := Same.trans S115_ S142_
       refine sv (v := (vB (!(moreB q.most (O96_ ++ [x_]))))) (x_not rfl) ?_
       refine wn (hK136_ _ _ ?_)
       refine C_cond (b := !(moreB q.most (O96_ ++ [x_]))) rfl (fun c145_t => ?_) (fun c145_f => ?_)
       ·skip
        refine cR fun _ hK146_ => ?_
        refine sm (vB true) ?_
        refine sv (v := (vB true)) (x_assign rfl) ?_
        refine sv (v := (vB false)) (x_assign rfl) ?_
        refine wn (hK146_ _ _ ?_)
        refine C_ret (X_blkR (X_thenR (X_thenR (X_blkR (X_thenR (X_blkR (X_thenR ?_)))))))
        refine R_any (v := (vT #[(vB true), (vB false)])) (run_results2 rfl rfl rfl) ?_
        have H147_ := ((Holds.bring (Holds.bring (Holds.bring (Holds.bring H141_ 2 rfl) 8 rfl) 8 rfl) 8 rfl) :)
        have H148_ := Holds.node_in (t := t) H147_
        have H149_ := Holds.pkF H148_ [1, 0, 1, 0] 2
        exact ⟨_, _, rfl, ⟨true, false, (O96_ ++ [x_]), rfl, rfl, (finD_item hKl hj1_ hkK_ hx_ (hq2_.trans (by rw [show moreB q.most (O96_ ++ [x_]) = false by simpa using c145_t])))⟩, S144_, H149_⟩
       ·skip
        refine C_skip (X_blkN (X_then (hK51_ _ _ ?_)))
        refine C_reg ?_
        refine sm (vI .i64 ((j : Int) - 1)) ?_
        refine sv (v := (vI .i64 (((j : Int) - 1) - 1))) (x_bin rfl rfl (ib_sub (IntWalk.i64_in _ (by omega)))) ?_
        refine sv (v := (vI .i64 (((j : Int) - 1) - 1))) (x_assign rfl) ?_
        refine wpList_nil (X_then ?_)
        have H150_ := Holds.pkF H141_ [4, 4, 4, 4, 4, 2, 0, 1, 0] 0
        exact ⟨⟨(j - 1), true, (O96_ ++ [x_]), t14_v, t15_v⟩, ⟨_, congrArg (fun e => mkA 343 e []) (ch (ch (ch (ch (ch (ch (ch (ch (ch (ch rfl rfl) rfl) rfl) rfl) rfl) rfl) rfl) rfl) rfl) (congrArg (vI .i64) ((by first | rfl | omega | (simp; done) | (simp; omega)) : ((j : Int) - 1) - 1 = ((j - 1 : Nat) : Int) - 1))), H150_, S144_, (by omega), (nextD hj1_ hkK_ hx_ (hq2_.trans (by rw [show moreB q.most (O96_ ++ [x_]) = true by simpa using c145_f]))), (fun _ h2 => inter_lt hKl hse hj1_ hx_ (hxs_ h2))⟩, by first | omega | (dsimp only; omega) | (simp; omega)⟩
    ·have c86_fp : ¬ (0 < ((List.length (ks.map BT.a)) : Int)) := of_decide_eq_false c86_f
     simp only [List.length_map] at c86_fp; omega
  ·have c50_fp : ¬ (0 ≤ (j : Int) - 1) := of_decide_eq_false c50_f
   have hie_ : j = 0 := by omega
   obtain ⟨k_, hk_, _⟩ := elem_at ks 0 (by omega)
   obtain ⟨k0_, hk0_⟩ : ∃ k0, k0 = k_.el := ⟨_, rfl⟩
   obtain ⟨hsk_, hnk_, hwk_⟩ := kid_srt (t := t) hw hk_ hs
   have hkK_ : (ks.map BT.el)[0]? = some k0_ := by rw [hk0_]; exact map_at2 (f := BT.el) hk_
   have hkh_ : hb = true → us = true → ∀ y ∈ k_.el, y.key < ss.key := fun h1 h2 y hy => hhb h1 h2 y (by rw [hie_]; exact inter_memk hKl (by omega) hkK_ y (by rw [hk0_]; exact hy))
   have hbn_ := runD_bnd hrun
   have hpl_ := post_len hKl hkK_
   rw [hie_] at hbn_
   refine C_exit (X_thenX (X_thenX (X_blkHit ?_)))
   refine (X_then (hK43_ _ _ ?_))
   refine cR fun _ hK151_ => ?_
   refine sm (vP (some ⟨t.a, 0, none⟩)) ?_
   refine sv (v := (vP (some ⟨t.a, 0, none⟩))) (by kernel_rfl) ?_
   refine sv (v := (vP (some ⟨t.a, 1, none⟩))) (by kernel_rfl) ?_
   refine sv (v := t.cv) (x_load1 rfl underlying77 rfl ((Holds.rd H46_ 2 rfl) 1 t.cv rfl)) ?_
   refine sv (v := (vI .i64 ((List.length (ks.map BT.a)) : Int))) (x_lenSl rfl H46_ 4 rfl underlying77) ?_
   refine sv (v := (vB (decide (0 < ((List.length (ks.map BT.a)) : Int))))) (x_bin rfl rfl rfl) ?_
   refine wn (hK151_ _ _ ?_)
   refine C_cond (b := decide (0 < ((List.length (ks.map BT.a)) : Int))) rfl (fun c152_t => ?_) (fun c152_f => ?_)
   ·have c152_tp : 0 < ((List.length (ks.map BT.a)) : Int) := of_decide_eq_true c152_t
    refine C_seq (fun _ hK153_ => ?_)
    refine A_start (S := fun w => Rd b9_ [(vI .i64 pp.key), (vI .i64 pp.val), (vB ut)] w ∧ Rd b4_ [(vI .i64 ss.key), (vI .i64 ss.val), (vB us)] w ∧ Rd t.a [t.iv, t.cv, (vP (some ⟨c, 0, none⟩))] w ∧ SlRd t.iv (t.xs.flatMap EL.cells) w ∧ SlRd t.cv (pBs (ks.map BT.a)) w ∧ Rd c [(vP (some ⟨fl, 0, none⟩)), (Value.func (.func 16) #[] #[])] w ∧ Sub R (hp w)) (N := 18) foll rfl rfl ?_
    have H154_ := Holds.drew_ H46_
    have hq155_ := And.intro (Holds.rd H154_ 0 rfl) (And.intro (Holds.rd H154_ 1 rfl) (And.intro (Holds.rd H154_ 2 rfl) (And.intro (Holds.slrd H154_ 3 rfl) (And.intro (Holds.slrd H154_ 4 rfl) (And.intro (Holds.rd H154_ 7 rfl) ((Holds.ro_at H154_ 6 rfl)))))))
    refine A_tk 0 (v := (vP (some ⟨t.a, 0, none⟩))) rfl (by kernel_rfl) (fun w hS => x_move rfl) hq155_ ?_
    refine A_tk 1 (v := (vP (some ⟨t.a, 0, none⟩))) rfl (by kernel_rfl) (fun w hS => by kernel_rfl) hq155_ ?_
    refine A_tk 2 (v := (vP (some ⟨t.a, 1, none⟩))) rfl (by kernel_rfl) (fun w hS => by kernel_rfl) hq155_ ?_
    refine A_tk 3 (v := t.cv) rfl (by kernel_rfl) (fun w hS => x_load1 rfl underlying77 rfl (hS.2.2.1 1 t.cv rfl)) hq155_ ?_
    have hr156_ := Holds.sl_RSw H154_ 4 rfl
    refine A_tk 4 (v := (vP (some ⟨(sb t.cv), so t.cv + 0, none⟩))) rfl (by kernel_rfl) (fun w hS => x_idxSlR (v := t.cv) rfl hr156_ rfl underlying77 z59 (by omega) (by omega) (by omega : _ = 0) (by rw [Nat.mul_one])) hq155_ ?_
    refine A_tk 5 (v := (vP (some ⟨k_.a, 0, none⟩))) rfl (by kernel_rfl) (fun w hS => x_load1 rfl underlying59 rfl (hS.2.2.2.2.1 _ _ (pbs_at (kid_a hk_)))) hq155_ ?_
    refine A_tk 6 (v := (vI .i64 (-1))) rfl (by kernel_rfl) (fun w hS => x_move rfl) hq155_ ?_
    refine A_tk 7 (v := (vA #[(vI .i64 ss.key), (vI .i64 ss.val), (vB us)])) rfl (by kernel_rfl) (fun w hS => x_loadN (vs := [(vI .i64 ss.key), (vI .i64 ss.val), (vB us)]) rfl underlying105 rfl z105 rfl (Rd.cells hS.2.1 0 rfl)) hq155_ ?_
    refine A_tk 8 (v := (vA #[(vI .i64 pp.key), (vI .i64 pp.val), (vB ut)])) rfl (by kernel_rfl) (fun w hS => x_loadN (vs := [(vI .i64 pp.key), (vI .i64 pp.val), (vB ut)]) rfl underlying105 rfl z105 rfl (Rd.cells hS.1 0 rfl)) hq155_ ?_
    refine A_tk 9 (v := (vB us)) rfl (by kernel_rfl) (fun w hS => x_move rfl) hq155_ ?_
    refine A_tk 10 (v := (vB hb)) rfl (by kernel_rfl) (fun w hS => x_move rfl) hq155_ ?_
    refine A_tk 11 (v := (Value.func (.func 44) #[] #[(vP (some ⟨ob, 0, none⟩)), (vP (some ⟨pb, 0, none⟩))])) rfl (by kernel_rfl) (fun w hS => x_move rfl) hq155_ ?_
    refine A_ready (i := 12) (rs := []) (by kernel_rfl) ?_
    refine AllR.cons ?_ AllR.nil
    have H157_ := ((Holds.bring H154_ 5 rfl) :)
    have H158_ := Holds.kids_out hk_ H157_
    have H164_ := ((Holds.bring (Holds.bring (Holds.bring (Holds.bring H158_ 9 rfl) 9 rfl) 2 rfl) 9 rfl) :)
    refine A_op (ls' := #[true, true, true, true, true, true, true, true, true, true, true, true, true, false, false, false, false, false]) rfl (by kernel_rfl) (T_call (al := [(vP (some ⟨k_.a, 0, none⟩)), (vI .i64 (-1)), (vA #[(vI .i64 ss.key), (vI .i64 ss.val), (vB us)]), (vA #[(vI .i64 pp.key), (vI .i64 pp.val), (vB ut)]), (vB us), (vB hb), (Value.func (.func 44) #[] #[(vP (some ⟨ob, 0, none⟩)), (vP (some ⟨pb, 0, none⟩))])]) (pre := [btp c k_, cl c 58 [(vP (some ⟨fl, 0, none⟩)), (Value.func (.func 16) #[] #[])], outP ob pb q O1]) rfl rfl cb63 (ih R c fl k_ ss pp us ut hb ob pb q O1 (hwk_) (hsk_) (Nat.le_trans hnk_ hn) (by rw [← hk0_]; omega) (hkh_)) H164_ ?_)
    rintro v159_ p168_ w165_ ⟨h160_, ok161_, O162_, rfl, rfl, he163_⟩ S167_ H166_
    have S169_ := Same.trans (Same.trans S47_ (Same.drew _)) S167_
    have H170_ := ((Holds.bring (Holds.bring H166_ 4 rfl) 2 rfl) :)
    have H171_ := Holds.kids_back hk_ H170_
    have hq0_ : runA (stD ut pp) q.most (selD us ss (k0_ ++ (postI (t.xs.drop j) ((ks.map BT.el).drop (j + 1))))) O = (O162_, ok161_) := itD_kid hrun (by rw [hk0_]; exact he163_)
    refine ⟨⟨Holds.rd H171_ 4 rfl, Holds.rd H171_ 5 rfl, Holds.rd H171_ 6 rfl, Holds.slrd H171_ 7 rfl, Holds.slrd H171_ 8 rfl, Holds.rd H171_ 2 rfl, (Holds.ro_at H171_ 1 rfl)⟩, ?_⟩
    have hq172_ := And.intro (Holds.rd H171_ 4 rfl) (And.intro (Holds.rd H171_ 5 rfl) (And.intro (Holds.rd H171_ 6 rfl) (And.intro (Holds.slrd H171_ 7 rfl) (And.intro (Holds.slrd H171_ 8 rfl) (And.intro (Holds.rd H171_ 2 rfl) ((Holds.ro_at H171_ 1 rfl)))))))
    refine A_tk 13 (v := (vT #[(vB h160_), (vB ok161_)])) rfl (by kernel_rfl) (fun w hS => x_move rfl) hq172_ ?_
    refine A_tk 14 (v := (vB h160_)) rfl (by kernel_rfl) (fun w hS => by kernel_rfl) hq172_ ?_
    refine A_tk 15 (v := (vB ok161_)) rfl (by kernel_rfl) (fun w hS => by kernel_rfl) hq172_ ?_
    refine A_tk 16 (v := (vB h160_)) rfl (by kernel_rfl) (fun w hS => x_assign rfl) hq172_ ?_
    refine A_tk 17 (v := (vB ok161_)) rfl (by kernel_rfl) (fun w hS => x_assign rfl) hq172_ ?_
    refine A_done (by kernel_rfl) ?_
    refine (X_then (hK153_ _ _ ?_))
    refine cR fun _ hK173_ => ?_
    refine sm (vB ok161_) ?_
    refine sv (v := (vB (!ok161_))) (x_not rfl) ?_
    refine wn (hK173_ _ _ ?_)
    refine C_cond (b := !ok161_) rfl (fun c174_t => ?_) (fun c174_f => ?_)
    ·skip
     have hq1_ := hq0_
     rw [show ok161_ = false by simpa using c174_t] at hq1_
     refine cR fun _ hK175_ => ?_
     refine sm (vB h160_) ?_
     refine sv (v := (vB h160_)) (x_assign rfl) ?_
     refine sv (v := (vB false)) (x_assign rfl) ?_
     refine wn (hK175_ _ _ ?_)
     refine C_ret (X_blkR (X_thenR ?_))
     refine R_any (v := (vT #[(vB h160_), (vB false)])) (run_results2 rfl rfl rfl) ?_
     have H176_ := ((Holds.bring (Holds.bring (Holds.bring H171_ 8 rfl) 8 rfl) 8 rfl) :)
     have H177_ := Holds.node_in (t := t) H176_
     have H178_ := Holds.pkF H177_ [1, 0, 0, 0] 2
     exact ⟨_, _, rfl, ⟨h160_, false, O162_, rfl, rfl, (finD hKl hie_ hkK_ hq1_)⟩, S169_, H178_⟩
    ·skip
     have hq1_ := hq0_
     rw [show ok161_ = true by simpa using c174_f] at hq1_
     refine C_skip (X_blkN (X_then (hK16_ _ _ ?_)))
     refine cR fun _ hK179_ => ?_
     refine sm (vB h160_) ?_
     refine sv (v := (vB h160_)) (x_assign rfl) ?_
     refine sv (v := (vB true)) (x_assign rfl) ?_
     refine wn (hK179_ _ _ ?_)
     refine C_ret ?_
     refine R_any (v := (vT #[(vB h160_), (vB true)])) (run_results2 rfl rfl rfl) ?_
     have H180_ := ((Holds.bring (Holds.bring (Holds.bring H171_ 8 rfl) 8 rfl) 8 rfl) :)
     have H181_ := Holds.node_in (t := t) H180_
     have H182_ := Holds.pkF H181_ [1, 0, 0, 0] 2
     exact ⟨_, _, rfl, ⟨h160_, true, O162_, rfl, rfl, (finD hKl hie_ hkK_ hq1_)⟩, S169_, H182_⟩
   ·have c152_fp : ¬ (0 < ((List.length (ks.map BT.a)) : Int)) := of_decide_eq_false c152_f
    simp only [List.length_map] at c152_fp; omega
end Go.Proofs.Ytdfjdmmmlidamaa
set_option linter.unusedVariables false
set_option linter.unusedSimpArgs false
namespace Go.Proofs.Ytdfjdmmmlidamaa
open Go Go.RowKit Gw Try
open Go.Value renaming int → vI, bool → vB, slice → vS, pointer → vP, agg → vA, tuple → vT

/-! ### What a listing of all shows -/
theorem runA_cut {p : EL → Bool} {m : Int} : ∀ (L O : List EL), m ≤ 0 ∨ (O.length : Int) < m → (runA p m L O).1 = O ++ (if m ≤ 0 then L.takeWhile (fun x => !p x) else (L.takeWhile (fun x => !p x)).take (m.toNat - O.length))
  | [], O, _ => by simp [runA]
  | x :: L, O, h => by
    rw [runA]
    by_cases hp : p x = true
    · simp [hp]
    · have hp' : (!p x) = true := by simp [hp]
      rw [if_neg hp, List.takeWhile_cons, if_pos hp']
      by_cases hm : m ≤ 0
      · have hb : moreB m (O ++ [x]) = true := by simp [moreB, hm]
        rw [if_pos hb, runA_cut L (O ++ [x]) (.inl hm), if_pos hm, if_pos hm]
        simp
      · have hO : (O.length : Int) < m := h.resolve_left hm
        rw [if_neg hm]
        by_cases h2 : ((O ++ [x]).length : Int) < m
        · have hb : moreB m (O ++ [x]) = true := by simp only [moreB]; rw [decide_eq_true h2]; simp
          rw [if_pos hb, runA_cut L (O ++ [x]) (.inr h2), if_neg hm]
          simp only [List.length_append, List.length_cons, List.length_nil] at h2 ⊢
          rw [show m.toNat - O.length = (m.toNat - (O.length + (0 + 1))) + 1 by omega, List.take_succ_cons]
          simp
        · have hb : moreB m (O ++ [x]) = false := by simp only [moreB]; rw [decide_eq_false hm, decide_eq_false h2]; rfl
          have hb' : ¬ moreB m (O ++ [x]) = true := by rw [hb]; decide
          rw [if_neg hb']
          simp only [List.length_append, List.length_cons, List.length_nil] at h2
          rw [show m.toNat - O.length = 1 by omega]
          simp
theorem runA_all {p : EL → Bool} {m : Int} (L : List EL) : (runA p m L []).1 = cutM m (L.takeWhile (fun x => !p x)) := by
  by_cases hm : m ≤ 0
  · rw [runA_cut L [] (.inl hm)]; unfold cutM; rw [if_pos hm, if_pos hm]; rfl
  · rw [runA_cut L [] (.inr (by simp; omega))]; unfold cutM; rw [if_neg hm, if_neg hm]; simp
theorem tw_fil {q : EL → Bool} : ∀ {l : List EL}, l.Pairwise (fun a b => q b = true → q a = true) → l.takeWhile q = l.filter q
  | [], _ => rfl
  | x :: l, h => by
    obtain ⟨h1, h2⟩ := List.pairwise_cons.1 h
    rw [List.takeWhile_cons, List.filter_cons]
    by_cases hx : q x = true
    · rw [if_pos hx, if_pos hx, tw_fil h2]
    · rw [if_neg hx, if_neg hx]
      exact (List.filter_eq_nil_iff.2 fun y hy hq => hx (h1 y hy hq)).symm
theorem listA {us ut : Bool} {s t : EL} {m : Int} {l : List EL} (hs : SrtE l) : (runA (stA ut t) m (selA us s l) []).1 = cutM m (l.filter (fun x => (!us || decide (s.key ≤ x.key)) && (!ut || decide (x.key < t.key)))) := by
  rw [runA_all, tw_fil]
  · unfold selA
    rw [List.filter_filter]
    congr 1
    refine List.filter_congr fun x _ => ?_
    unfold stA
    cases ut <;> simp
    rw [Bool.and_comm]
  · refine (List.Pairwise.filter _ hs).imp fun {a b} hab => ?_
    unfold stA
    cases ut <;> simp
    omega
theorem listD {us ut : Bool} {s t : EL} {m : Int} {l : List EL} (hs : SrtE l) : (runA (stD ut t) m (selD us s l) []).1 = cutM m (l.filter (fun x => (!us || decide (x.key ≤ s.key)) && (!ut || decide (t.key < x.key)))).reverse := by
  rw [runA_all, tw_fil]
  · unfold selD
    rw [List.filter_reverse, List.filter_filter]
    congr 2
    refine List.filter_congr fun x _ => ?_
    unfold stD
    cases ut <;> simp
    rw [Bool.and_comm]
  · unfold selD
    rw [List.pairwise_reverse]
    refine (List.Pairwise.filter _ hs).imp fun {a b} hab => ?_
    unfold stD
    cases ut <;> simp
    omega


theorem itA (R : HP) (c fl : Nat) (z : Nat) (t : BT z) (ss pp : EL) (us ut hit : Bool) (ob pb : Nat) (q : BO) (O : List EL) (hw : t.Wf) (hs : SrtE t.el) (hn : t.el.length ≤ 100000) (hO : O.length + t.el.length ≤ 1000000) :
    Tri Try.prog 63 #[(vP (some ⟨t.a, 0, none⟩)), (vI .i64 1), (vA #[(vI .i64 ss.key), (vI .i64 ss.val), (vB us)]), (vA #[(vI .i64 pp.key), (vI .i64 pp.val), (vB ut)]), (vB us), (vB hit), (Value.func (.func 44) #[] #[(vP (some ⟨ob, 0, none⟩)), (vP (some ⟨pb, 0, none⟩))])] R [btp c t, cl c 58 [(vP (some ⟨fl, 0, none⟩)), (Value.func (.func 16) #[] #[])], outP ob pb q O] (fun v__ post__ => ∃ (h' ok : Bool) (O' : List EL), v__ = (vT #[(vB h'), (vB ok)]) ∧ post__ = [btp c t, cl c 58 [(vP (some ⟨fl, 0, none⟩)), (Value.func (.func 16) #[] #[])], outP ob pb q O'] ∧ (runA (stA ut pp) q.most (selA us ss t.el) O = (O', ok))) := by
  have key : ∀ (z : Nat) (R : HP) (c fl : Nat) (t : BT z) (ss pp : EL) (us ut hit : Bool) (ob pb : Nat) (q : BO) (O : List EL) (hw : t.Wf) (hs : SrtE t.el) (hn : t.el.length ≤ 100000) (hO : O.length + t.el.length ≤ 1000000), Tri Try.prog 63 #[(vP (some ⟨t.a, 0, none⟩)), (vI .i64 1), (vA #[(vI .i64 ss.key), (vI .i64 ss.val), (vB us)]), (vA #[(vI .i64 pp.key), (vI .i64 pp.val), (vB ut)]), (vB us), (vB hit), (Value.func (.func 44) #[] #[(vP (some ⟨ob, 0, none⟩)), (vP (some ⟨pb, 0, none⟩))])] R [btp c t, cl c 58 [(vP (some ⟨fl, 0, none⟩)), (Value.func (.func 16) #[] #[])], outP ob pb q O] (fun v__ post__ => ∃ (h' ok : Bool) (O' : List EL), v__ = (vT #[(vB h'), (vB ok)]) ∧ post__ = [btp c t, cl c 58 [(vP (some ⟨fl, 0, none⟩)), (Value.func (.func 16) #[] #[])], outP ob pb q O'] ∧ (runA (stA ut pp) q.most (selA us ss t.el) O = (O', ok))) := by
    intro z
    induction z with
    | zero => intro R c fl t ss pp us ut hit ob pb q O hw hs hn hO; exact itA0 R c fl t ss pp us ut hit ob pb q O hs hn hO
    | succ z ih => intro R c fl t ss pp us ut hit ob pb q O hw hs hn hO; exact itAN R c fl z t.1 t.2 ss pp us ut hit ob pb q O hw hs hn hO ih
  exact key z R c fl t ss pp us ut hit ob pb q O hw hs hn hO

theorem itD (R : HP) (c fl : Nat) (z : Nat) (t : BT z) (ss pp : EL) (us ut hit : Bool) (ob pb : Nat) (q : BO) (O : List EL) (hw : t.Wf) (hs : SrtE t.el) (hn : t.el.length ≤ 100000) (hO : O.length + t.el.length ≤ 1000000) (hh : hit = true → us = true → ∀ y ∈ t.el, y.key < ss.key) :
    Tri Try.prog 63 #[(vP (some ⟨t.a, 0, none⟩)), (vI .i64 (-1)), (vA #[(vI .i64 ss.key), (vI .i64 ss.val), (vB us)]), (vA #[(vI .i64 pp.key), (vI .i64 pp.val), (vB ut)]), (vB us), (vB hit), (Value.func (.func 44) #[] #[(vP (some ⟨ob, 0, none⟩)), (vP (some ⟨pb, 0, none⟩))])] R [btp c t, cl c 58 [(vP (some ⟨fl, 0, none⟩)), (Value.func (.func 16) #[] #[])], outP ob pb q O] (fun v__ post__ => ∃ (h' ok : Bool) (O' : List EL), v__ = (vT #[(vB h'), (vB ok)]) ∧ post__ = [btp c t, cl c 58 [(vP (some ⟨fl, 0, none⟩)), (Value.func (.func 16) #[] #[])], outP ob pb q O'] ∧ (runA (stD ut pp) q.most (selD us ss t.el) O = (O', ok))) := by
  have key : ∀ (z : Nat) (R : HP) (c fl : Nat) (t : BT z) (ss pp : EL) (us ut hit : Bool) (ob pb : Nat) (q : BO) (O : List EL) (hw : t.Wf) (hs : SrtE t.el) (hn : t.el.length ≤ 100000) (hO : O.length + t.el.length ≤ 1000000) (hh : hit = true → us = true → ∀ y ∈ t.el, y.key < ss.key), Tri Try.prog 63 #[(vP (some ⟨t.a, 0, none⟩)), (vI .i64 (-1)), (vA #[(vI .i64 ss.key), (vI .i64 ss.val), (vB us)]), (vA #[(vI .i64 pp.key), (vI .i64 pp.val), (vB ut)]), (vB us), (vB hit), (Value.func (.func 44) #[] #[(vP (some ⟨ob, 0, none⟩)), (vP (some ⟨pb, 0, none⟩))])] R [btp c t, cl c 58 [(vP (some ⟨fl, 0, none⟩)), (Value.func (.func 16) #[] #[])], outP ob pb q O] (fun v__ post__ => ∃ (h' ok : Bool) (O' : List EL), v__ = (vT #[(vB h'), (vB ok)]) ∧ post__ = [btp c t, cl c 58 [(vP (some ⟨fl, 0, none⟩)), (Value.func (.func 16) #[] #[])], outP ob pb q O'] ∧ (runA (stD ut pp) q.most (selD us ss t.el) O = (O', ok))) := by
    intro z
    induction z with
    | zero => intro R c fl t ss pp us ut hit ob pb q O hw hs hn hO hh; exact itD0 R c fl t ss pp us ut hit ob pb q O hs hn hO hh
    | succ z ih => intro R c fl t ss pp us ut hit ob pb q O hw hs hn hO hh; exact itDN R c fl z t.1 t.2 ss pp us ut hit ob pb q O hw hs hn hO hh ih
  exact key z R c fl t ss pp us ut hit ob pb q O hw hs hn hO hh
end Go.Proofs.Ytdfjdmmmlidamaa
