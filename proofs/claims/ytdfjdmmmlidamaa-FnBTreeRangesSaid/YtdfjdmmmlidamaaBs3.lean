/- Words, and proved steps, on which the proof leans. -/
import Derived.Test.YtdfjdmmmlidamaaBs2
set_option linter.unusedVariables false
set_option linter.unusedSimpArgs false
namespace Go.Proofs.Ytdfjdmmmlidamaa
open Go Go.RowKit Gw Try
open Go.Value renaming int → vI, bool → vB, slice → vS, pointer → vP, agg → vA, tuple → vT

set_option maxHeartbeats 16000000 in
theorem btRO1 (R : HP) (r : TR) (z : Nat) (t : BT z) (e : EL) (hw : t.Wf) (hs : SrtE t.el) (hn : t.el.length ≤ 100000) (hd : 2 ≤ r.d ∧ r.d ≤ 64) :
    Tri Try.prog 23 #[(vP (some ⟨r.tb, 0, none⟩)), (vA #[(vI .i64 e.key), (vI .i64 e.val)])] R [treeP r (some ⟨z, t⟩)] (fun v__ post__ => ∃ (T' : Option (Sigma BT)) (o : EL) (b : Bool), v__ = (vT #[(vA #[(vI .i64 o.key), (vI .i64 o.val)]), (vB b)]) ∧ post__ = [treeP r T'] ∧ (tOk T') ∧ (tel T' = insE e (tel (some ⟨z, t⟩))) ∧ (Told e (tel (some ⟨z, t⟩)) o b)) := by
 have hnx : t.n.xs.length ≤ 1000000 := Nat.le_trans (BT.top_len hw) (Nat.le_trans hn (by decide))
 refine Tri.into (n := 148) (al := [(vP (some ⟨r.tb, 0, none⟩)), (vA #[(vI .i64 e.key), (vI .i64 e.val)])]) func23 rfl ntmps23 rfl rfl fun w F H => ?_
 have H1_ := ((Holds.bring H 1 rfl) :)
 have H2_ := Holds.t1_out H1_
 have H3_ := ((Holds.bring H2_ 3 rfl) :)
 have H4_ := Holds.bt_out H3_
 refine cR fun _ hK5_ => ?_
 refine S_list (T_box (v := (vA #[(vI .i64 e.key), (vI .i64 e.val)])) rfl H4_ ?_)
 intro b6_ w7_ S9_ H8_
 have S10_ := Same.trans (Same.refl w) S9_
 refine S_list (T_alloc z24 H8_ ?_)
 intro b11_ w12_ S14_ H13_
 have S15_ := Same.trans S10_ S14_
 refine sv (v := (vB false)) (x_assign rfl) ?_
 refine wn (hK5_ _ _ ?_)
 refine C_seq (fun _ hK16_ => ?_)
 refine cR fun _ hK17_ => ?_
 refine sm (vP (some ⟨r.tb, 0, none⟩)) ?_
 refine sv (v := (vP (some ⟨r.tb, 0, none⟩))) (by kernel_rfl) ?_
 refine sv (v := (vP (some ⟨r.tb, 2, none⟩))) (by kernel_rfl) ?_
 refine sv (v := (vP (some ⟨t.a, 0, none⟩))) (x_load1 rfl underlying59 rfl ((Holds.rd H13_ 5 rfl) 2 (vP (some ⟨t.a, 0, none⟩)) rfl)) ?_
 refine sv (v := (vB false)) (by kernel_rfl) ?_
 refine wn (hK17_ _ _ ?_)
 refine C_condF rfl ?_
 refine C_skip (X_then (hK16_ _ _ ?_))
 refine C_seq (fun _ hK18_ => ?_)
 refine A_start (S := fun w => Rd b11_ [(vI .i64 0), (vI .i64 0)] w ∧ Rd b6_ [(vI .i64 e.key), (vI .i64 e.val)] w ∧ Rd t.a [t.n.iv, t.cv, (vP (some ⟨r.c, 0, none⟩))] w ∧ SlRd t.n.iv (t.n.xs.flatMap EL.cells) w ∧ Rd r.tb [(vI .i64 (r.d : Int)), (vI .i64 (List.length t.el : Int)), (vP (some ⟨t.a, 0, none⟩)), (vP (some ⟨r.c, 0, none⟩))] w ∧ Rd r.c [(vP (some ⟨r.fl, 0, none⟩)), (Value.func (.func 16) #[] #[])] w ∧ Rd r.fl [(vS r.fa 0 r.fc)] w ∧ Sub R (hp w)) (N := 13) foll rfl rfl ?_
 have H19_ := Holds.drew_ H13_
 refine A_cut #[true, true, true, true, true, true, true, true, true, true, true, true, false] 1 (fun a__ w1__ => ∃ h : Env, a__ = mkA 148 (upd (upd (upd (upd (upd (upd h 0 (vP (some ⟨r.tb, 0, none⟩))) 3 (vP (some ⟨b6_, 0, none⟩))) 4 (vP (some ⟨b11_, 0, none⟩))) 5 (vB false)) 56 (vP (some ⟨t.a, 0, none⟩))) 58 (vP (some ⟨r.tb, 2, none⟩))) [] ∧ Holds w1__ (ro R :: cl t.a 79 [t.n.iv, t.cv, (vP (some ⟨r.c, 0, none⟩))] :: cl b11_ 24 [(vI .i64 0), (vI .i64 0)] :: cl b6_ 24 [(vI .i64 e.key), (vI .i64 e.val)] :: sl 24 2 t.n.iv (List.length t.n.xs) (t.n.xs.flatMap EL.cells) :: rest r.c t :: cl r.tb 62 [(vI .i64 (r.d : Int)), (vI .i64 (List.length t.el : Int)), (vP (some ⟨t.a, 0, none⟩)), (vP (some ⟨r.c, 0, none⟩))] :: cl r.c 58 [(vP (some ⟨r.fl, 0, none⟩)), (Value.func (.func 16) #[] #[])] :: cl r.fl 74 [(vS r.fa 0 r.fc)] :: F) ∧ Same w w1__) ?_ ?_
 ·rintro _ w35_ ⟨h, rfl, H36_, S37_⟩
  refine A_ready (i := 12) (rs := []) (by kernel_rfl) ?_
  refine AllR.cons ?_ AllR.nil
  refine A_op0 (ls' := #[true, true, true, true, true, true, true, true, true, true, true, true, true]) rfl (by kernel_rfl) (T_store1 (v := (vP (some ⟨t.a, 0, none⟩))) rfl rfl z59 rfl H36_ 6 rfl (Nat.le_of_ble_eq_true (by rfl)) ?_)
  intro w38_ S40_ H39_
  have S41_ := Same.trans S37_ S40_
  refine ⟨⟨Holds.rd H39_ 2 rfl, Holds.rd H39_ 3 rfl, Holds.rd H39_ 1 rfl, Holds.slrd H39_ 4 rfl, Holds.rd H39_ 6 rfl, Holds.rd H39_ 7 rfl, Holds.rd H39_ 8 rfl, (Holds.ro_at H39_ 0 rfl)⟩, ?_⟩
  refine A_done (by kernel_rfl) ?_
  refine (X_then (hK18_ _ _ ?_))
  refine C_seq (fun _ hK42_ => ?_)
  refine C_seq (fun _ hK43_ => ?_)
  refine A_start (S := fun w => Rd t.a [t.n.iv, t.cv, (vP (some ⟨r.c, 0, none⟩))] w ∧ Rd b11_ [(vI .i64 0), (vI .i64 0)] w ∧ Rd b6_ [(vI .i64 e.key), (vI .i64 e.val)] w ∧ SlRd t.n.iv (t.n.xs.flatMap EL.cells) w ∧ Rd r.tb [(vI .i64 (r.d : Int)), (vI .i64 (List.length t.el : Int)), (vP (some ⟨t.a, 0, none⟩)), (vP (some ⟨r.c, 0, none⟩))] w ∧ Rd r.c [(vP (some ⟨r.fl, 0, none⟩)), (Value.func (.func 16) #[] #[])] w ∧ Rd r.fl [(vS r.fa 0 r.fc)] w ∧ Sub R (hp w)) (N := 11) foll rfl rfl ?_
  have H44_ := Holds.drew_ H39_
  refine A_cut #[true, true, true, true, true, true, true, true, true, false, false] 2 (fun a__ w1__ => ∃ h : Env, a__ = mkA 148 (upd (upd (upd (upd (upd (upd h 0 (vP (some ⟨r.tb, 0, none⟩))) 3 (vP (some ⟨b6_, 0, none⟩))) 4 (vP (some ⟨b11_, 0, none⟩))) 5 (vB false)) 66 (vI .i64 ((List.length t.n.xs) : Int))) 67 (vP (some ⟨r.tb, 0, none⟩))) [] ∧ Holds w1__ (ro R :: cl t.a 79 [t.n.iv, t.cv, (vP (some ⟨r.c, 0, none⟩))] :: cl b11_ 24 [(vI .i64 0), (vI .i64 0)] :: cl b6_ 24 [(vI .i64 e.key), (vI .i64 e.val)] :: sl 24 2 t.n.iv (List.length t.n.xs) (t.n.xs.flatMap EL.cells) :: rest r.c t :: cl r.tb 62 [(vI .i64 (r.d : Int)), (vI .i64 (List.length t.el : Int)), (vP (some ⟨t.a, 0, none⟩)), (vP (some ⟨r.c, 0, none⟩))] :: cl r.c 58 [(vP (some ⟨r.fl, 0, none⟩)), (Value.func (.func 16) #[] #[])] :: cl r.fl 74 [(vS r.fa 0 r.fc)] :: F) ∧ Same w w1__) ?_ ?_
  ·rintro _ w53_ ⟨h, rfl, H54_, S55_⟩
   refine A_ready (i := 9) (rs := []) (by kernel_rfl) ?_
   refine AllR.cons ?_ AllR.nil
   refine A_op (ls' := #[true, true, true, true, true, true, true, true, true, true, false]) rfl (by kernel_rfl) (T_callW (al := [(vP (some ⟨r.tb, 0, none⟩))]) rfl rfl cb36 (Calls.into (n := 9) func36 rfl ntmps36 rfl rfl ?_))
   refine cR fun _ hK56_ => ?_
   refine sv (v := (vI .i64 0)) (x_assign rfl) ?_
   refine wn (hK56_ _ _ ?_)
   refine cR fun _ hK57_ => ?_
   refine sm (vP (some ⟨r.tb, 0, none⟩)) ?_
   refine sv (v := (vP (some ⟨r.tb, 0, none⟩))) (by kernel_rfl) ?_
   refine sv (v := (vP (some ⟨r.tb, 0, none⟩))) (by kernel_rfl) ?_
   refine sv (v := (vI .i64 (r.d : Int))) (x_load1 rfl underlying3 rfl ((Holds.rd H54_ 6 rfl) 0 (vI .i64 (r.d : Int)) rfl)) ?_
   refine sv (v := (vI .i64 ((r.d : Int) * 2))) (x_bin rfl rfl (ib_mul (IntWalk.i64_in _ (by omega)))) ?_
   refine sv (v := (vI .i64 (((r.d : Int) * 2) - 1))) (x_bin rfl rfl (ib_sub (IntWalk.i64_in _ (by omega)))) ?_
   refine sv (v := (vI .i64 (((r.d : Int) * 2) - 1))) (x_assign rfl) ?_
   refine wn (hK57_ _ _ ?_)
   refine C_ret ?_
   refine R_any (v := (vI .i64 (((r.d : Int) * 2) - 1))) (run_results1 rfl rfl) ⟨_, rfl, ?_⟩
   refine ⟨⟨Holds.rd H54_ 1 rfl, Holds.rd H54_ 2 rfl, Holds.rd H54_ 3 rfl, Holds.slrd H54_ 4 rfl, Holds.rd H54_ 6 rfl, Holds.rd H54_ 7 rfl, Holds.rd H54_ 8 rfl, (Holds.ro_at H54_ 0 rfl)⟩, ?_⟩
   have hq58_ := And.intro (Holds.rd H54_ 1 rfl) (And.intro (Holds.rd H54_ 2 rfl) (And.intro (Holds.rd H54_ 3 rfl) (And.intro (Holds.slrd H54_ 4 rfl) (And.intro (Holds.rd H54_ 6 rfl) (And.intro (Holds.rd H54_ 7 rfl) (And.intro (Holds.rd H54_ 8 rfl) ((Holds.ro_at H54_ 0 rfl))))))))
   refine A_tk 10 (v := (vB (decide (((r.d : Int) * 2) - 1 ≤ ((List.length t.n.xs) : Int))))) rfl (by kernel_rfl) (fun w hS => x_bin rfl rfl rfl) hq58_ ?_
   refine A_done (by kernel_rfl) ?_
   refine (X_then (hK43_ _ _ ?_))
   refine C_cond (b := decide (((r.d : Int) * 2) - 1 ≤ ((List.length t.n.xs) : Int))) rfl (fun c59_t => ?_) (fun c59_f => ?_)
   ·have c59_tp : ((r.d : Int) * 2) - 1 ≤ ((List.length t.n.xs) : Int) := of_decide_eq_true c59_t
    refine C_seq (fun _ hK60_ => ?_)
    ·skip
     have H61_ := ((Holds.bring (Holds.bring (Holds.bring H54_ 5 rfl) 5 rfl) 3 rfl) :)
     have H62_ := Holds.bt_in (k := t) H61_
     obtain ⟨m_, hm_, _⟩ := elem_at t.n.xs (r.d - 1) (by omega)
     refine A_start (S := fun w => Rd b11_ [(vI .i64 0), (vI .i64 0)] w ∧ Rd b6_ [(vI .i64 e.key), (vI .i64 e.val)] w ∧ Rd r.tb [(vI .i64 (r.d : Int)), (vI .i64 (List.length t.el : Int)), (vP (some ⟨t.a, 0, none⟩)), (vP (some ⟨r.c, 0, none⟩))] w ∧ Rd r.c [(vP (some ⟨r.fl, 0, none⟩)), (Value.func (.func 16) #[] #[])] w ∧ Rd r.fl [(vS r.fa 0 r.fc)] w ∧ Sub R (hp w)) (N := 14) foll rfl rfl ?_
     have H63_ := Holds.drew_ H62_
     refine A_cut #[true, true, true, true, true, true, true, true, true, true, true, true, false, false] 2 (fun a__ w1__ => ∃ k168_ : BT z, ∃ k269_ : BT z, ∃ b78_ : Nat, ∃ h : Env, a__ = mkA 148 (upd (upd (upd (upd (upd (upd (upd h 0 (vP (some ⟨r.tb, 0, none⟩))) 3 (vP (some ⟨b6_, 0, none⟩))) 4 (vP (some ⟨b11_, 0, none⟩))) 5 (vB false)) 6 (vP (some ⟨b78_, 0, none⟩))) 79 (vA #[(vI .i64 m_.key), (vI .i64 m_.val)])) 80 (vP (some ⟨k269_.a, 0, none⟩))) [] ∧ Holds w1__ (cl b78_ 24 [(vI .i64 0), (vI .i64 0)] :: ro R :: btp r.c k168_ :: btp r.c k269_ :: cl r.c 58 [(vP (some ⟨r.fl, 0, none⟩)), (Value.func (.func 16) #[] #[])] :: cl r.fl 74 [(vS r.fa 0 r.fc)] :: cl b11_ 24 [(vI .i64 0), (vI .i64 0)] :: cl b6_ 24 [(vI .i64 e.key), (vI .i64 e.val)] :: cl r.tb 62 [(vI .i64 (r.d : Int)), (vI .i64 (List.length t.el : Int)), (vP (some ⟨t.a, 0, none⟩)), (vP (some ⟨r.c, 0, none⟩))] :: F) ∧ Same w w1__ ∧ (Spl t k168_ k269_ m_)) ?_ ?_
     ·rintro _ w118_ ⟨k168_, k269_, b78_, h, rfl, H119_, S120_, he70_⟩
      refine A_ready (i := 12) (rs := []) (by kernel_rfl) ?_
      refine AllR.cons ?_ AllR.nil
      refine A_op0 (ls' := #[true, true, true, true, true, true, true, true, true, true, true, true, true, false]) rfl (by kernel_rfl) (T_storeN (vs := [(vI .i64 m_.key), (vI .i64 m_.val)]) rfl rfl z24 rfl (by simp [Value.oneCell']) H119_ 0 rfl (Nat.le_of_ble_eq_true (by rfl)) ?_)
      intro w121_ S123_ H122_
      have S124_ := Same.trans S120_ S123_
      refine ⟨⟨Holds.rd H122_ 6 rfl, Holds.rd H122_ 7 rfl, Holds.rd H122_ 8 rfl, Holds.rd H122_ 4 rfl, Holds.rd H122_ 5 rfl, (Holds.ro_at H122_ 1 rfl)⟩, ?_⟩
      have hq125_ := And.intro (Holds.rd H122_ 6 rfl) (And.intro (Holds.rd H122_ 7 rfl) (And.intro (Holds.rd H122_ 8 rfl) (And.intro (Holds.rd H122_ 4 rfl) (And.intro (Holds.rd H122_ 5 rfl) ((Holds.ro_at H122_ 1 rfl))))))
      refine A_tk 13 (v := (vP (some ⟨k269_.a, 0, none⟩))) rfl (by kernel_rfl) (fun w hS => x_assign rfl) hq125_ ?_
      refine A_done (by kernel_rfl) ?_
      refine (X_then (hK60_ _ _ ?_))
      refine cR fun _ hK126_ => ?_
      refine sm (vP (some ⟨r.tb, 0, none⟩)) ?_
      refine sv (v := (vP (some ⟨r.tb, 0, none⟩))) (by kernel_rfl) ?_
      refine sv (v := (vP (some ⟨r.tb, 2, none⟩))) (by kernel_rfl) ?_
      refine sv (v := (vP (some ⟨t.a, 0, none⟩))) (x_load1 rfl underlying59 rfl ((Holds.rd H122_ 8 rfl) 2 (vP (some ⟨t.a, 0, none⟩)) rfl)) ?_
      refine sv (v := (vP (some ⟨t.a, 0, none⟩))) (x_assign rfl) ?_
      refine wn (hK126_ _ _ ?_)
      refine cR fun _ hK127_ => ?_
      refine sm (vP (some ⟨r.tb, 0, none⟩)) ?_
      refine sm (vP (some ⟨r.tb, 0, none⟩)) ?_
      refine sv (v := (vP (some ⟨r.tb, 0, none⟩))) (by kernel_rfl) ?_
      refine sv (v := (vP (some ⟨r.tb, 3, none⟩))) (by kernel_rfl) ?_
      refine sv (v := (vP (some ⟨r.c, 0, none⟩))) (x_load1 rfl underlying60 rfl ((Holds.rd H122_ 8 rfl) 3 (vP (some ⟨r.c, 0, none⟩)) rfl)) ?_
      have H130_ := ((Holds.bring (Holds.bring (Holds.bring H122_ 5 rfl) 5 rfl) 3 rfl) :)
      refine S_list (T_call (al := [(vP (some ⟨r.c, 0, none⟩))]) (pre := [cl r.c 58 [(vP (some ⟨r.fl, 0, none⟩)), (Value.func (.func 16) #[] #[])], cl r.fl 74 [(vS r.fa 0 r.fc)]]) rfl rfl cb34 (btNew R r.c r.fl r.fc r.fa) H130_ ?_)
      rintro v128_ p134_ w131_ ⟨a129_, rfl, rfl⟩ S133_ H132_
      have S135_ := Same.trans S124_ S133_
      refine sv (v := (vP (some ⟨r.tb, 0, none⟩))) (by kernel_rfl) ?_
      refine sv (v := (vP (some ⟨r.tb, 2, none⟩))) (by kernel_rfl) ?_
      refine S_list0 (T_store1 (v := (vP (some ⟨a129_, 0, none⟩))) rfl rfl z59 rfl H132_ 9 rfl (Nat.le_of_ble_eq_true (by rfl)) ?_)
      intro w136_ S138_ H137_
      have S139_ := Same.trans S135_ S138_
      refine wn (hK127_ _ _ ?_)
      refine C_seq (fun _ hK140_ => ?_)
      refine A_start (S := fun w => Rd r.c [(vP (some ⟨r.fl, 0, none⟩)), (Value.func (.func 16) #[] #[])] w ∧ Rd r.fl [(vS r.fa 0 r.fc)] w ∧ Rd b78_ [(vI .i64 m_.key), (vI .i64 m_.val)] w ∧ Rd b11_ [(vI .i64 0), (vI .i64 0)] w ∧ Rd b6_ [(vI .i64 e.key), (vI .i64 e.val)] w ∧ Rd r.tb [(vI .i64 (r.d : Int)), (vI .i64 (List.length t.el : Int)), (vP (some ⟨a129_, 0, none⟩)), (vP (some ⟨r.c, 0, none⟩))] w ∧ Sub R (hp w)) (N := 17) foll rfl rfl ?_
      have H141_ := Holds.drew_ H137_
      refine A_cut #[true, true, true, true, true, true, true, true, true, true, true, true, true, true, true, true, false] 1 (fun a__ w1__ => ∃ v150_ : Value, ∃ h : Env, a__ = mkA 148 (upd (upd (upd (upd (upd (upd (upd (upd h 0 (vP (some ⟨r.tb, 0, none⟩))) 3 (vP (some ⟨b6_, 0, none⟩))) 4 (vP (some ⟨b11_, 0, none⟩))) 5 (vB false)) 7 (vP (some ⟨k269_.a, 0, none⟩))) 8 (vP (some ⟨t.a, 0, none⟩))) 106 v150_) 108 (vP (some ⟨a129_, 0, none⟩))) [] ∧ Holds w1__ (sl 24 2 v150_ 1 ([] ++ [(vI .i64 m_.key), (vI .i64 m_.val)]) :: sl 24 2 (.slice none 0 0) 0 [] :: ro R :: cl a129_ 79 [(vS none 0 0), (vS none 0 0), (vP (some ⟨r.c, 0, none⟩))] :: cl r.c 58 [(vP (some ⟨r.fl, 0, none⟩)), (Value.func (.func 16) #[] #[])] :: cl r.fl 74 [(vS r.fa 0 r.fc)] :: cl b78_ 24 [(vI .i64 m_.key), (vI .i64 m_.val)] :: btp r.c k168_ :: btp r.c k269_ :: cl b11_ 24 [(vI .i64 0), (vI .i64 0)] :: cl b6_ 24 [(vI .i64 e.key), (vI .i64 e.val)] :: cl r.tb 62 [(vI .i64 (r.d : Int)), (vI .i64 (List.length t.el : Int)), (vP (some ⟨a129_, 0, none⟩)), (vP (some ⟨r.c, 0, none⟩))] :: F) ∧ Same w w1__) ?_ ?_
      ·rintro _ w170_ ⟨v150_, h, rfl, H171_, S172_⟩
       refine A_ready (i := 16) (rs := []) (by kernel_rfl) ?_
       refine AllR.cons ?_ AllR.nil
       refine A_op0 (ls' := #[true, true, true, true, true, true, true, true, true, true, true, true, true, true, true, true, true]) rfl (by kernel_rfl) (T_store1 (v := v150_) rfl rfl z76 (Holds.sl_one H171_ 0 rfl) H171_ 3 rfl (Nat.le_of_ble_eq_true (by rfl)) ?_)
       intro w173_ S175_ H174_
       have S176_ := Same.trans S172_ S175_
       refine ⟨⟨Holds.rd H174_ 4 rfl, Holds.rd H174_ 5 rfl, Holds.rd H174_ 6 rfl, Holds.rd H174_ 9 rfl, Holds.rd H174_ 10 rfl, Holds.rd H174_ 11 rfl, (Holds.ro_at H174_ 2 rfl)⟩, ?_⟩
       refine A_done (by kernel_rfl) ?_
       refine (X_then (hK140_ _ _ ?_))
       refine A_start (S := fun w => SlRd v150_ ([] ++ [(vI .i64 m_.key), (vI .i64 m_.val)]) w ∧ SlRd (.slice none 0 0) [] w ∧ Rd r.c [(vP (some ⟨r.fl, 0, none⟩)), (Value.func (.func 16) #[] #[])] w ∧ Rd r.fl [(vS r.fa 0 r.fc)] w ∧ Rd b78_ [(vI .i64 m_.key), (vI .i64 m_.val)] w ∧ Rd b11_ [(vI .i64 0), (vI .i64 0)] w ∧ Rd b6_ [(vI .i64 e.key), (vI .i64 e.val)] w ∧ Rd r.tb [(vI .i64 (r.d : Int)), (vI .i64 (List.length t.el : Int)), (vP (some ⟨a129_, 0, none⟩)), (vP (some ⟨r.c, 0, none⟩))] w ∧ Sub R (hp w)) (N := 18) foll rfl rfl ?_
       have H177_ := Holds.drew_ H174_
       refine A_cut #[true, true, true, true, true, true, true, true, true, true, true, true, true, true, true, true, true, false] 1 (fun a__ w1__ => ∃ v186_ : Value, ∃ h : Env, a__ = mkA 148 (upd (upd (upd (upd (upd (upd h 0 (vP (some ⟨r.tb, 0, none⟩))) 3 (vP (some ⟨b6_, 0, none⟩))) 4 (vP (some ⟨b11_, 0, none⟩))) 5 (vB false)) 123 v186_) 125 (vP (some ⟨a129_, 1, none⟩))) [] ∧ Holds w1__ (sl 59 1 v186_ 2 ([] ++ [(vP (some ⟨t.a, 0, none⟩)), (vP (some ⟨k269_.a, 0, none⟩))]) :: sl 59 1 (.slice none 0 0) 0 [] :: sl 24 2 v150_ 1 ([] ++ [(vI .i64 m_.key), (vI .i64 m_.val)]) :: sl 24 2 (.slice none 0 0) 0 [] :: ro R :: cl a129_ 79 [v150_, (vS none 0 0), (vP (some ⟨r.c, 0, none⟩))] :: cl r.c 58 [(vP (some ⟨r.fl, 0, none⟩)), (Value.func (.func 16) #[] #[])] :: cl r.fl 74 [(vS r.fa 0 r.fc)] :: cl b78_ 24 [(vI .i64 m_.key), (vI .i64 m_.val)] :: btp r.c k168_ :: btp r.c k269_ :: cl b11_ 24 [(vI .i64 0), (vI .i64 0)] :: cl b6_ 24 [(vI .i64 e.key), (vI .i64 e.val)] :: cl r.tb 62 [(vI .i64 (r.d : Int)), (vI .i64 (List.length t.el : Int)), (vP (some ⟨a129_, 0, none⟩)), (vP (some ⟨r.c, 0, none⟩))] :: F) ∧ Same w w1__) ?_ ?_
       ·rintro _ w206_ ⟨v186_, h, rfl, H207_, S208_⟩
        refine A_ready (i := 17) (rs := []) (by kernel_rfl) ?_
        refine AllR.cons ?_ AllR.nil
        refine A_op0 (ls' := #[true, true, true, true, true, true, true, true, true, true, true, true, true, true, true, true, true, true]) rfl (by kernel_rfl) (T_store1 (v := v186_) rfl rfl z77 (Holds.sl_one H207_ 0 rfl) H207_ 5 rfl (Nat.le_of_ble_eq_true (by rfl)) ?_)
        intro w209_ S211_ H210_
        have S212_ := Same.trans S208_ S211_
        refine ⟨⟨Holds.slrd H210_ 2 rfl, Holds.slrd H210_ 1 rfl, Holds.rd H210_ 6 rfl, Holds.rd H210_ 7 rfl, Holds.rd H210_ 8 rfl, Holds.rd H210_ 11 rfl, Holds.rd H210_ 12 rfl, Holds.rd H210_ 13 rfl, (Holds.ro_at H210_ 4 rfl)⟩, ?_⟩
        refine A_done (by kernel_rfl) ?_
        refine (X_then (hK42_ _ _ ?_))
        refine C_seq (fun _ hK213_ => ?_)
        ·skip
         have H214_ := Holds.resl H210_ 2 rfl (rfl : [] ++ [(vI .i64 m_.key), (vI .i64 m_.val)] = [m_].flatMap EL.cells) (by first | (simp; done) | (simp; omega) : 1 = (List.length [m_]))
         have H215_ := Holds.resl H214_ 0 rfl (pair_a he70_ : [] ++ [(vP (some ⟨t.a, 0, none⟩)), (vP (some ⟨k269_.a, 0, none⟩))] = pBs ([k168_, k269_].map BT.a)) (by first | (simp; done) | (simp; omega) : 2 = (List.length ([k168_, k269_].map BT.a)))
         have H216_ := ((Holds.bring (Holds.bring H215_ 10 rfl) 10 rfl) :)
         have H217_ := Holds.kids_pair H216_
         have H218_ := ((Holds.bring (Holds.bring (Holds.bring H217_ 1 rfl) 3 rfl) 6 rfl) :)
         have H219_ := Holds.nodeI H218_
         have hr_ := spl_root (a := a129_) (iv := v150_) (cv := v186_) he70_
         refine A_start (S := fun w => SlRd (.slice none 0 0) [] w ∧ SlRd (.slice none 0 0) [] w ∧ Rd r.c [(vP (some ⟨r.fl, 0, none⟩)), (Value.func (.func 16) #[] #[])] w ∧ Rd r.fl [(vS r.fa 0 r.fc)] w ∧ Rd b78_ [(vI .i64 m_.key), (vI .i64 m_.val)] w ∧ Rd b11_ [(vI .i64 0), (vI .i64 0)] w ∧ Rd b6_ [(vI .i64 e.key), (vI .i64 e.val)] w ∧ Rd r.tb [(vI .i64 (r.d : Int)), (vI .i64 (List.length t.el : Int)), (vP (some ⟨a129_, 0, none⟩)), (vP (some ⟨r.c, 0, none⟩))] w ∧ Sub R (hp w)) (N := 14) foll rfl rfl ?_
         have H220_ := Holds.drew_ H219_
         refine A_cut #[true, true, true, true, true, true, true, true, true, true, true, true, false, false] 2 (fun a__ w1__ => ∃ t225_ : BT (z + 1), ∃ o226_ : EL, ∃ b227_ : Bool, ∃ b236_ : Nat, ∃ h : Env, a__ = mkA 148 (upd (upd (upd (upd (upd (upd h 0 (vP (some ⟨r.tb, 0, none⟩))) 4 (vP (some ⟨b11_, 0, none⟩))) 5 (vB false)) 9 (vP (some ⟨b236_, 0, none⟩))) 135 (vA #[(vI .i64 o226_.key), (vI .i64 o226_.val)])) 136 (vB b227_)) [] ∧ Holds w1__ (cl b236_ 24 [(vI .i64 0), (vI .i64 0)] :: ro R :: btp r.c t225_ :: cl r.c 58 [(vP (some ⟨r.fl, 0, none⟩)), (Value.func (.func 16) #[] #[])] :: cl r.fl 74 [(vS r.fa 0 r.fc)] :: sl 59 1 (.slice none 0 0) 0 [] :: sl 24 2 (.slice none 0 0) 0 [] :: cl b78_ 24 [(vI .i64 m_.key), (vI .i64 m_.val)] :: cl b11_ 24 [(vI .i64 0), (vI .i64 0)] :: cl b6_ 24 [(vI .i64 e.key), (vI .i64 e.val)] :: cl r.tb 62 [(vI .i64 (r.d : Int)), (vI .i64 (List.length t.el : Int)), (vP (some ⟨a129_, 0, none⟩)), (vP (some ⟨r.c, 0, none⟩))] :: F) ∧ Same w w1__ ∧ (Ins e (nodeB ⟨a129_, v150_, v186_, [m_]⟩ [k168_, k269_]) t225_ o226_ b227_)) ?_ ?_
         ·rintro _ w276_ ⟨t225_, o226_, b227_, b236_, h, rfl, H277_, S278_, he228_⟩
          refine A_ready (i := 12) (rs := []) (by kernel_rfl) ?_
          refine AllR.cons ?_ AllR.nil
          refine A_op0 (ls' := #[true, true, true, true, true, true, true, true, true, true, true, true, true, false]) rfl (by kernel_rfl) (T_storeN (vs := [(vI .i64 o226_.key), (vI .i64 o226_.val)]) rfl rfl z24 rfl (by simp [Value.oneCell']) H277_ 0 rfl (Nat.le_of_ble_eq_true (by rfl)) ?_)
          intro w279_ S281_ H280_
          have S282_ := Same.trans S278_ S281_
          refine ⟨⟨Holds.slrd H280_ 5 rfl, Holds.slrd H280_ 5 rfl, Holds.rd H280_ 3 rfl, Holds.rd H280_ 4 rfl, Holds.rd H280_ 7 rfl, Holds.rd H280_ 8 rfl, Holds.rd H280_ 9 rfl, Holds.rd H280_ 10 rfl, (Holds.ro_at H280_ 1 rfl)⟩, ?_⟩
          have hq283_ := And.intro (Holds.slrd H280_ 5 rfl) (And.intro (Holds.slrd H280_ 5 rfl) (And.intro (Holds.rd H280_ 3 rfl) (And.intro (Holds.rd H280_ 4 rfl) (And.intro (Holds.rd H280_ 7 rfl) (And.intro (Holds.rd H280_ 8 rfl) (And.intro (Holds.rd H280_ 9 rfl) (And.intro (Holds.rd H280_ 10 rfl) ((Holds.ro_at H280_ 1 rfl)))))))))
          refine A_tk 13 (v := (vB b227_)) rfl (by kernel_rfl) (fun w hS => x_assign rfl) hq283_ ?_
          refine A_done (by kernel_rfl) ?_
          refine (X_then (hK213_ _ _ ?_))
          refine C_seq (fun _ hK284_ => ?_)
          refine cR fun _ hK285_ => ?_
          refine sm (vB b227_) ?_
          refine sv (v := (vB (!b227_))) (x_not rfl) ?_
          refine wn (hK285_ _ _ ?_)
          refine C_cond (b := !b227_) rfl (fun c286_t => ?_) (fun c286_f => ?_)
          ·skip
           refine C_reg ?_
           refine sm (vP (some ⟨r.tb, 0, none⟩)) ?_
           refine sv (v := (vP (some ⟨r.tb, 0, none⟩))) (by kernel_rfl) ?_
           refine sv (v := (vP (some ⟨r.tb, 1, none⟩))) (by kernel_rfl) ?_
           refine sv (v := (vI .i64 (List.length t.el : Int))) (x_load1 rfl underlying3 rfl ((Holds.rd H280_ 10 rfl) 1 (vI .i64 (List.length t.el : Int)) rfl)) ?_
           refine sv (v := (vI .i64 ((List.length t.el : Int) + 1))) (x_bin rfl rfl (ib_add (IntWalk.i64_in _ (by omega)))) ?_
           refine sv (v := (vP (some ⟨r.tb, 0, none⟩))) (by kernel_rfl) ?_
           refine sv (v := (vP (some ⟨r.tb, 1, none⟩))) (by kernel_rfl) ?_
           refine S_list0 (T_store1 (v := (vI .i64 ((List.length t.el : Int) + 1))) rfl rfl z3 rfl H280_ 10 rfl (Nat.le_of_ble_eq_true (by rfl)) ?_)
           intro w287_ S289_ H288_
           have S290_ := Same.trans S282_ S289_
           refine wn (hK284_ _ _ ?_)
           refine cR fun _ hK291_ => ?_
           refine sv (v := (vA #[(vI .i64 o226_.key), (vI .i64 o226_.val)])) (x_loadN (vs := [(vI .i64 o226_.key), (vI .i64 o226_.val)]) rfl underlying24 rfl z24 rfl (Rd.cells (Holds.rd H288_ 0 rfl) 0 rfl)) ?_
           refine sm (vB b227_) ?_
           refine S_list0 (T_storeN (vs := [(vI .i64 o226_.key), (vI .i64 o226_.val)]) rfl rfl z24 rfl (by simp [Value.oneCell']) H288_ 8 rfl (Nat.le_of_ble_eq_true (by rfl)) ?_)
           intro w292_ S294_ H293_
           have S295_ := Same.trans S290_ S294_
           refine sv (v := (vB b227_)) (x_assign rfl) ?_
           refine wn (hK291_ _ _ ?_)
           refine C_ret ?_
           refine R_any (v := (vT #[(vA #[(vI .i64 o226_.key), (vI .i64 o226_.val)]), (vB b227_)])) (run_results2 rfl ⟨_, rfl, load_resN underlying24 rfl z24 rfl (vs := [(vI .i64 o226_.key), (vI .i64 o226_.val)]) (Holds.cl_cells H293_ 8 rfl 0 rfl)⟩ rfl) ?_
           have hel_ : BT.el t225_ = insE e t.el := he228_.el.trans (congrArg (insE e) hr_.2)
           have htd_ : Told e t.el o226_ b227_ := (congrArg (fun l => Told e l o226_ b227_) hr_.2).mp he228_.t
           have hlq_ := told_len hs htd_
           rw [show b227_ = false by simpa using c286_t] at hlq_
           rw [← hel_] at hlq_
           have hap_ : a129_ = BT.a t225_ := he228_.a.symm
           have H296_ := Holds.recl H293_ 10 rfl ((lcons rfl (lcons (congrArg (vI .i64) (by simp at hlq_; omega)) (lcons (congrArg (fun x__ => vP (some ⟨x__, 0, none⟩)) hap_) rfl))) : [(vI .i64 (r.d : Int)), (vI .i64 ((List.length t.el : Int) + 1)), (vP (some ⟨a129_, 0, none⟩)), (vP (some ⟨r.c, 0, none⟩))] = [(vI .i64 (r.d : Int)), (vI .i64 (List.length (BT.el t225_) : Int)), (vP (some ⟨(BT.a t225_), 0, none⟩)), (vP (some ⟨r.c, 0, none⟩))])
           have H297_ := ((Holds.bring (Holds.bring (Holds.bring (Holds.bring H296_ 2 rfl) 4 rfl) 4 rfl) 10 rfl) :)
           have H298_ := Holds.t1_in (t := t225_) H297_
           have H299_ := Holds.pkF H298_ [2, 0] 6
           exact ⟨_, _, rfl, ⟨(some ⟨(z + 1), t225_⟩), o226_, b227_, rfl, rfl, (⟨he228_.w, by rw [hel_]; exact insE_srt hs⟩), (hel_), (htd_)⟩, S295_, H299_⟩
          ·skip
           refine C_skip (X_then (hK284_ _ _ ?_))
           refine cR fun _ hK300_ => ?_
           refine sv (v := (vA #[(vI .i64 o226_.key), (vI .i64 o226_.val)])) (x_loadN (vs := [(vI .i64 o226_.key), (vI .i64 o226_.val)]) rfl underlying24 rfl z24 rfl (Rd.cells (Holds.rd H280_ 0 rfl) 0 rfl)) ?_
           refine sm (vB b227_) ?_
           refine S_list0 (T_storeN (vs := [(vI .i64 o226_.key), (vI .i64 o226_.val)]) rfl rfl z24 rfl (by simp [Value.oneCell']) H280_ 8 rfl (Nat.le_of_ble_eq_true (by rfl)) ?_)
           intro w301_ S303_ H302_
           have S304_ := Same.trans S282_ S303_
           refine sv (v := (vB b227_)) (x_assign rfl) ?_
           refine wn (hK300_ _ _ ?_)
           refine C_ret ?_
           refine R_any (v := (vT #[(vA #[(vI .i64 o226_.key), (vI .i64 o226_.val)]), (vB b227_)])) (run_results2 rfl ⟨_, rfl, load_resN underlying24 rfl z24 rfl (vs := [(vI .i64 o226_.key), (vI .i64 o226_.val)]) (Holds.cl_cells H302_ 8 rfl 0 rfl)⟩ rfl) ?_
           have hel_ : BT.el t225_ = insE e t.el := he228_.el.trans (congrArg (insE e) hr_.2)
           have htd_ : Told e t.el o226_ b227_ := (congrArg (fun l => Told e l o226_ b227_) hr_.2).mp he228_.t
           have hlq_ := told_len hs htd_
           rw [show b227_ = true by simpa using c286_f] at hlq_
           rw [← hel_] at hlq_
           have hap_ : a129_ = BT.a t225_ := he228_.a.symm
           have H305_ := Holds.recl H302_ 10 rfl ((lcons rfl (lcons (congrArg (vI .i64) (by simp at hlq_; omega)) (lcons (congrArg (fun x__ => vP (some ⟨x__, 0, none⟩)) hap_) rfl))) : [(vI .i64 (r.d : Int)), (vI .i64 (List.length t.el : Int)), (vP (some ⟨a129_, 0, none⟩)), (vP (some ⟨r.c, 0, none⟩))] = [(vI .i64 (r.d : Int)), (vI .i64 (List.length (BT.el t225_) : Int)), (vP (some ⟨(BT.a t225_), 0, none⟩)), (vP (some ⟨r.c, 0, none⟩))])
           have H306_ := ((Holds.bring (Holds.bring (Holds.bring (Holds.bring H305_ 2 rfl) 4 rfl) 4 rfl) 10 rfl) :)
           have H307_ := Holds.t1_in (t := t225_) H306_
           have H308_ := Holds.pkF H307_ [2, 0] 6
           exact ⟨_, _, rfl, ⟨(some ⟨(z + 1), t225_⟩), o226_, b227_, rfl, rfl, (⟨he228_.w, by rw [hel_]; exact insE_srt hs⟩), (hel_), (htd_)⟩, S304_, H308_⟩
         intro hJ273
         refine A_cut #[true, true, true, true, true, true, true, true, true, true, true, false, false, false] 3 (fun a__ w1__ => ∃ t225_ : BT (z + 1), ∃ o226_ : EL, ∃ b227_ : Bool, ∃ h : Env, a__ = mkA 148 (upd (upd (upd (upd (upd h 0 (vP (some ⟨r.tb, 0, none⟩))) 4 (vP (some ⟨b11_, 0, none⟩))) 5 (vB false)) 135 (vA #[(vI .i64 o226_.key), (vI .i64 o226_.val)])) 136 (vB b227_)) [] ∧ Holds w1__ (ro R :: btp r.c t225_ :: cl r.c 58 [(vP (some ⟨r.fl, 0, none⟩)), (Value.func (.func 16) #[] #[])] :: cl r.fl 74 [(vS r.fa 0 r.fc)] :: sl 59 1 (.slice none 0 0) 0 [] :: sl 24 2 (.slice none 0 0) 0 [] :: cl b78_ 24 [(vI .i64 m_.key), (vI .i64 m_.val)] :: cl b11_ 24 [(vI .i64 0), (vI .i64 0)] :: cl b6_ 24 [(vI .i64 e.key), (vI .i64 e.val)] :: cl r.tb 62 [(vI .i64 (r.d : Int)), (vI .i64 (List.length t.el : Int)), (vP (some ⟨a129_, 0, none⟩)), (vP (some ⟨r.c, 0, none⟩))] :: F) ∧ Same w w1__ ∧ (Ins e (nodeB ⟨a129_, v150_, v186_, [m_]⟩ [k168_, k269_]) t225_ o226_ b227_)) ?_ ?_
         ·rintro _ w309_ ⟨t225_, o226_, b227_, h, rfl, H310_, S311_, he228_⟩
          refine A_ready (i := 11) (rs := []) (by kernel_rfl) ?_
          refine AllR.cons ?_ AllR.nil
          refine A_op (ls' := #[true, true, true, true, true, true, true, true, true, true, true, true, false, false]) rfl (by kernel_rfl) (T_alloc z24 H310_ ?_)
          intro b312_ w313_ S315_ H314_
          have S316_ := Same.trans S311_ S315_
          refine ⟨⟨Holds.slrd H314_ 5 rfl, Holds.slrd H314_ 5 rfl, Holds.rd H314_ 3 rfl, Holds.rd H314_ 4 rfl, Holds.rd H314_ 7 rfl, Holds.rd H314_ 8 rfl, Holds.rd H314_ 9 rfl, Holds.rd H314_ 10 rfl, (Holds.ro_at H314_ 1 rfl)⟩, ?_⟩
          exact hJ273 _ _ ⟨t225_, o226_, b227_, b312_, _, congrArg (fun e => mkA 148 e []) (ch (ch (ch (ch (ch (ch rfl rfl) rfl) rfl) rfl) rfl) rfl), H314_, S316_, he228_⟩
         intro hJ272
         refine A_cut #[true, true, true, true, true, true, true, false, false, false, false, true, false, false] 6 (fun a__ w1__ => ∃ b246_ : Nat, ∃ h : Env, a__ = mkA 148 (upd (upd (upd (upd (upd (upd (upd h 0 (vP (some ⟨r.tb, 0, none⟩))) 4 (vP (some ⟨b11_, 0, none⟩))) 5 (vB false)) 9 (vP (some ⟨b246_, 0, none⟩))) 130 (vP (some ⟨a129_, 0, none⟩))) 131 (vA #[(vI .i64 e.key), (vI .i64 e.val)])) 133 (vI .i64 (((r.d : Int) * 2) - 1))) [] ∧ Holds w1__ (cl b246_ 24 [(vI .i64 0), (vI .i64 0)] :: btp r.c (nodeB ⟨a129_, v150_, v186_, [m_]⟩ [k168_, k269_]) :: sl 59 1 (.slice none 0 0) 0 [] :: sl 24 2 (.slice none 0 0) 0 [] :: ro R :: cl r.c 58 [(vP (some ⟨r.fl, 0, none⟩)), (Value.func (.func 16) #[] #[])] :: cl r.fl 74 [(vS r.fa 0 r.fc)] :: cl b78_ 24 [(vI .i64 m_.key), (vI .i64 m_.val)] :: cl b11_ 24 [(vI .i64 0), (vI .i64 0)] :: cl b6_ 24 [(vI .i64 e.key), (vI .i64 e.val)] :: cl r.tb 62 [(vI .i64 (r.d : Int)), (vI .i64 (List.length t.el : Int)), (vP (some ⟨a129_, 0, none⟩)), (vP (some ⟨r.c, 0, none⟩))] :: F) ∧ Same w w1__) ?_ ?_
         ·rintro _ w317_ ⟨b246_, h, rfl, H318_, S319_⟩
          refine A_ready (i := 7) (rs := []) (by kernel_rfl) ?_
          refine AllR.cons ?_ AllR.nil
          have H325_ := ((Holds.bring (Holds.bring (Holds.bring (Holds.bring H318_ 6 rfl) 6 rfl) 3 rfl) 6 rfl) :)
          refine A_op (ls' := #[true, true, true, true, true, true, true, true, false, false, false, true, false, false]) rfl (by kernel_rfl) (T_call (al := [(vP (some ⟨(nodeB ⟨a129_, v150_, v186_, [m_]⟩ [k168_, k269_]).a, 0, none⟩)), (vA #[(vI .i64 e.key), (vI .i64 e.val)]), (vI .i64 ((r.d * 2 - 1 : Nat) : Int))]) (pre := [btp r.c (nodeB ⟨a129_, v150_, v186_, [m_]⟩ [k168_, k269_]), cl r.c 58 [(vP (some ⟨r.fl, 0, none⟩)), (Value.func (.func 16) #[] #[])], cl r.fl 74 [(vS r.fa 0 r.fc)]]) rfl (lcons ((by first | rfl | omega | (simp; done) | (simp; omega)) : (vP (some ⟨a129_, 0, none⟩)) = (vP (some ⟨(nodeB ⟨a129_, v150_, v186_, [m_]⟩ [k168_, k269_]).a, 0, none⟩))) (lcons rfl (lcons (congrArg (vI .i64) ((by first | rfl | omega | (simp; done) | (simp; omega)) : ((r.d : Int) * 2) - 1 = ((r.d * 2 - 1 : Nat) : Int))) rfl))) cb38 (btIns R r.c r.fl r.fc r.fa (z + 1) (nodeB ⟨a129_, v150_, v186_, [m_]⟩ [k168_, k269_]) e (r.d * 2 - 1) (hr_.1) ((congrArg SrtE hr_.2).mpr hs) ((congrArg (fun l : List EL => l.length ≤ 1000000) hr_.2).mpr (Nat.le_trans hn (by decide))) (by omega)) H325_ ?_)
          rintro v320_ p329_ w326_ ⟨t321_, o322_, b323_, rfl, rfl, he324_⟩ S328_ H327_
          have S330_ := Same.trans S319_ S328_
          refine ⟨⟨Holds.slrd H327_ 5 rfl, Holds.slrd H327_ 5 rfl, Holds.rd H327_ 2 rfl, Holds.rd H327_ 3 rfl, Holds.rd H327_ 7 rfl, Holds.rd H327_ 8 rfl, Holds.rd H327_ 9 rfl, Holds.rd H327_ 10 rfl, (Holds.ro_at H327_ 0 rfl)⟩, ?_⟩
          have hq331_ := And.intro (Holds.slrd H327_ 5 rfl) (And.intro (Holds.slrd H327_ 5 rfl) (And.intro (Holds.rd H327_ 2 rfl) (And.intro (Holds.rd H327_ 3 rfl) (And.intro (Holds.rd H327_ 7 rfl) (And.intro (Holds.rd H327_ 8 rfl) (And.intro (Holds.rd H327_ 9 rfl) (And.intro (Holds.rd H327_ 10 rfl) ((Holds.ro_at H327_ 0 rfl)))))))))
          refine A_tk 8 (v := (vT #[(vA #[(vI .i64 o322_.key), (vI .i64 o322_.val)]), (vB b323_)])) rfl (by kernel_rfl) (fun w hS => x_move rfl) hq331_ ?_
          refine A_tk 9 (v := (vA #[(vI .i64 o322_.key), (vI .i64 o322_.val)])) rfl (by kernel_rfl) (fun w hS => by kernel_rfl) hq331_ ?_
          refine A_tk 10 (v := (vB b323_)) rfl (by kernel_rfl) (fun w hS => by kernel_rfl) hq331_ ?_
          have H332_ := Holds.pkF H327_ [4, 0, 0, 0, 0, 0, 0, 0, 0, 0, 0] 0
          exact hJ273 _ _ ⟨t321_, o322_, b323_, b246_, _, congrArg (fun e => mkA 148 e []) (ch (ch (ch (ch (ch (ch rfl rfl) rfl) rfl) rfl) rfl) rfl), H332_, S330_, he324_⟩
         intro hJ274
         refine A_cut #[true, true, true, true, true, true, true, false, false, false, false, false, false, false] 7 (fun a__ w1__ => ∃ h : Env, a__ = mkA 148 (upd (upd (upd (upd (upd (upd h 0 (vP (some ⟨r.tb, 0, none⟩))) 4 (vP (some ⟨b11_, 0, none⟩))) 5 (vB false)) 130 (vP (some ⟨a129_, 0, none⟩))) 131 (vA #[(vI .i64 e.key), (vI .i64 e.val)])) 133 (vI .i64 (((r.d : Int) * 2) - 1))) [] ∧ Holds w1__ (btp r.c (nodeB ⟨a129_, v150_, v186_, [m_]⟩ [k168_, k269_]) :: sl 59 1 (.slice none 0 0) 0 [] :: sl 24 2 (.slice none 0 0) 0 [] :: ro R :: cl r.c 58 [(vP (some ⟨r.fl, 0, none⟩)), (Value.func (.func 16) #[] #[])] :: cl r.fl 74 [(vS r.fa 0 r.fc)] :: cl b78_ 24 [(vI .i64 m_.key), (vI .i64 m_.val)] :: cl b11_ 24 [(vI .i64 0), (vI .i64 0)] :: cl b6_ 24 [(vI .i64 e.key), (vI .i64 e.val)] :: cl r.tb 62 [(vI .i64 (r.d : Int)), (vI .i64 (List.length t.el : Int)), (vP (some ⟨a129_, 0, none⟩)), (vP (some ⟨r.c, 0, none⟩))] :: F) ∧ Same w w1__) ?_ ?_
         ·rintro _ w333_ ⟨h, rfl, H334_, S335_⟩
          refine A_ready (i := 7) (rs := [11]) (by kernel_rfl) ?_
          refine AllR.cons ?_ ?_
          ·skip
           have H341_ := ((Holds.bring (Holds.bring (Holds.bring (Holds.bring H334_ 5 rfl) 5 rfl) 2 rfl) 5 rfl) :)
           refine A_op (ls' := #[true, true, true, true, true, true, true, true, false, false, false, false, false, false]) rfl (by kernel_rfl) (T_call (al := [(vP (some ⟨(nodeB ⟨a129_, v150_, v186_, [m_]⟩ [k168_, k269_]).a, 0, none⟩)), (vA #[(vI .i64 e.key), (vI .i64 e.val)]), (vI .i64 ((r.d * 2 - 1 : Nat) : Int))]) (pre := [btp r.c (nodeB ⟨a129_, v150_, v186_, [m_]⟩ [k168_, k269_]), cl r.c 58 [(vP (some ⟨r.fl, 0, none⟩)), (Value.func (.func 16) #[] #[])], cl r.fl 74 [(vS r.fa 0 r.fc)]]) rfl (lcons ((by first | rfl | omega | (simp; done) | (simp; omega)) : (vP (some ⟨a129_, 0, none⟩)) = (vP (some ⟨(nodeB ⟨a129_, v150_, v186_, [m_]⟩ [k168_, k269_]).a, 0, none⟩))) (lcons rfl (lcons (congrArg (vI .i64) ((by first | rfl | omega | (simp; done) | (simp; omega)) : ((r.d : Int) * 2) - 1 = ((r.d * 2 - 1 : Nat) : Int))) rfl))) cb38 (btIns R r.c r.fl r.fc r.fa (z + 1) (nodeB ⟨a129_, v150_, v186_, [m_]⟩ [k168_, k269_]) e (r.d * 2 - 1) (hr_.1) ((congrArg SrtE hr_.2).mpr hs) ((congrArg (fun l : List EL => l.length ≤ 1000000) hr_.2).mpr (Nat.le_trans hn (by decide))) (by omega)) H341_ ?_)
           rintro v336_ p345_ w342_ ⟨t337_, o338_, b339_, rfl, rfl, he340_⟩ S344_ H343_
           have S346_ := Same.trans S335_ S344_
           refine ⟨⟨Holds.slrd H343_ 4 rfl, Holds.slrd H343_ 4 rfl, Holds.rd H343_ 2 rfl, Holds.rd H343_ 3 rfl, Holds.rd H343_ 6 rfl, Holds.rd H343_ 7 rfl, Holds.rd H343_ 8 rfl, Holds.rd H343_ 9 rfl, (Holds.ro_at H343_ 0 rfl)⟩, ?_⟩
           have hq347_ := And.intro (Holds.slrd H343_ 4 rfl) (And.intro (Holds.slrd H343_ 4 rfl) (And.intro (Holds.rd H343_ 2 rfl) (And.intro (Holds.rd H343_ 3 rfl) (And.intro (Holds.rd H343_ 6 rfl) (And.intro (Holds.rd H343_ 7 rfl) (And.intro (Holds.rd H343_ 8 rfl) (And.intro (Holds.rd H343_ 9 rfl) ((Holds.ro_at H343_ 0 rfl)))))))))
           refine A_tk 8 (v := (vT #[(vA #[(vI .i64 o338_.key), (vI .i64 o338_.val)]), (vB b339_)])) rfl (by kernel_rfl) (fun w hS => x_move rfl) hq347_ ?_
           refine A_tk 9 (v := (vA #[(vI .i64 o338_.key), (vI .i64 o338_.val)])) rfl (by kernel_rfl) (fun w hS => by kernel_rfl) hq347_ ?_
           refine A_tk 10 (v := (vB b339_)) rfl (by kernel_rfl) (fun w hS => by kernel_rfl) hq347_ ?_
           exact hJ272 _ _ ⟨t337_, o338_, b339_, _, congrArg (fun e => mkA 148 e []) (ch (ch (ch (ch (ch rfl rfl) rfl) rfl) rfl) rfl), H343_, S346_, he340_⟩
          refine AllR.cons ?_ AllR.nil
          refine A_op (ls' := #[true, true, true, true, true, true, true, false, false, false, false, true, false, false]) rfl (by kernel_rfl) (T_alloc z24 H334_ ?_)
          intro b348_ w349_ S351_ H350_
          have S352_ := Same.trans S335_ S351_
          refine ⟨⟨Holds.slrd H350_ 2 rfl, Holds.slrd H350_ 2 rfl, Holds.rd H350_ 5 rfl, Holds.rd H350_ 6 rfl, Holds.rd H350_ 7 rfl, Holds.rd H350_ 8 rfl, Holds.rd H350_ 9 rfl, Holds.rd H350_ 10 rfl, (Holds.ro_at H350_ 4 rfl)⟩, ?_⟩
          exact hJ274 _ _ ⟨b348_, _, congrArg (fun e => mkA 148 e []) (ch (ch (ch (ch (ch (ch (ch rfl rfl) rfl) rfl) rfl) rfl) rfl) rfl), H350_, S352_⟩
         intro hJ271
         refine A_cut #[true, true, true, true, true, true, false, false, false, false, false, true, false, false] 7 (fun a__ w1__ => ∃ b263_ : Nat, ∃ h : Env, a__ = mkA 148 (upd (upd (upd (upd (upd (upd (upd h 0 (vP (some ⟨r.tb, 0, none⟩))) 4 (vP (some ⟨b11_, 0, none⟩))) 5 (vB false)) 9 (vP (some ⟨b263_, 0, none⟩))) 130 (vP (some ⟨a129_, 0, none⟩))) 131 (vA #[(vI .i64 e.key), (vI .i64 e.val)])) 132 (vP (some ⟨r.tb, 0, none⟩))) [] ∧ Holds w1__ (cl b263_ 24 [(vI .i64 0), (vI .i64 0)] :: btp r.c (nodeB ⟨a129_, v150_, v186_, [m_]⟩ [k168_, k269_]) :: sl 59 1 (.slice none 0 0) 0 [] :: sl 24 2 (.slice none 0 0) 0 [] :: ro R :: cl r.c 58 [(vP (some ⟨r.fl, 0, none⟩)), (Value.func (.func 16) #[] #[])] :: cl r.fl 74 [(vS r.fa 0 r.fc)] :: cl b78_ 24 [(vI .i64 m_.key), (vI .i64 m_.val)] :: cl b11_ 24 [(vI .i64 0), (vI .i64 0)] :: cl b6_ 24 [(vI .i64 e.key), (vI .i64 e.val)] :: cl r.tb 62 [(vI .i64 (r.d : Int)), (vI .i64 (List.length t.el : Int)), (vP (some ⟨a129_, 0, none⟩)), (vP (some ⟨r.c, 0, none⟩))] :: F) ∧ Same w w1__) ?_ ?_
         ·rintro _ w353_ ⟨b263_, h, rfl, H354_, S355_⟩
          refine A_ready (i := 6) (rs := []) (by kernel_rfl) ?_
          refine AllR.cons ?_ AllR.nil
          refine A_op (ls' := #[true, true, true, true, true, true, true, false, false, false, false, true, false, false]) rfl (by kernel_rfl) (T_callW (al := [(vP (some ⟨r.tb, 0, none⟩))]) rfl rfl cb36 (Calls.into (n := 9) func36 rfl ntmps36 rfl rfl ?_))
          refine cR fun _ hK356_ => ?_
          refine sv (v := (vI .i64 0)) (x_assign rfl) ?_
          refine wn (hK356_ _ _ ?_)
          refine cR fun _ hK357_ => ?_
          refine sm (vP (some ⟨r.tb, 0, none⟩)) ?_
          refine sv (v := (vP (some ⟨r.tb, 0, none⟩))) (by kernel_rfl) ?_
          refine sv (v := (vP (some ⟨r.tb, 0, none⟩))) (by kernel_rfl) ?_
          refine sv (v := (vI .i64 (r.d : Int))) (x_load1 rfl underlying3 rfl ((Holds.rd H354_ 10 rfl) 0 (vI .i64 (r.d : Int)) rfl)) ?_
          refine sv (v := (vI .i64 ((r.d : Int) * 2))) (x_bin rfl rfl (ib_mul (IntWalk.i64_in _ (by omega)))) ?_
          refine sv (v := (vI .i64 (((r.d : Int) * 2) - 1))) (x_bin rfl rfl (ib_sub (IntWalk.i64_in _ (by omega)))) ?_
          refine sv (v := (vI .i64 (((r.d : Int) * 2) - 1))) (x_assign rfl) ?_
          refine wn (hK357_ _ _ ?_)
          refine C_ret ?_
          refine R_any (v := (vI .i64 (((r.d : Int) * 2) - 1))) (run_results1 rfl rfl) ⟨_, rfl, ?_⟩
          refine ⟨⟨Holds.slrd H354_ 2 rfl, Holds.slrd H354_ 2 rfl, Holds.rd H354_ 5 rfl, Holds.rd H354_ 6 rfl, Holds.rd H354_ 7 rfl, Holds.rd H354_ 8 rfl, Holds.rd H354_ 9 rfl, Holds.rd H354_ 10 rfl, (Holds.ro_at H354_ 4 rfl)⟩, ?_⟩
          exact hJ274 _ _ ⟨b263_, _, congrArg (fun e => mkA 148 e []) (ch (ch (ch (ch (ch (ch (ch rfl rfl) rfl) rfl) rfl) rfl) rfl) rfl), H354_, S355_⟩
         intro hJ275
         have hq358_ := And.intro (Holds.slrd H220_ 1 rfl) (And.intro (Holds.slrd H220_ 1 rfl) (And.intro (Holds.rd H220_ 4 rfl) (And.intro (Holds.rd H220_ 5 rfl) (And.intro (Holds.rd H220_ 6 rfl) (And.intro (Holds.rd H220_ 7 rfl) (And.intro (Holds.rd H220_ 8 rfl) (And.intro (Holds.rd H220_ 9 rfl) ((Holds.ro_at H220_ 3 rfl)))))))))
         refine A_tk 0 (v := (vP (some ⟨r.tb, 0, none⟩))) rfl (by kernel_rfl) (fun w hS => x_move rfl) hq358_ ?_
         refine A_tk 1 (v := (vP (some ⟨r.tb, 0, none⟩))) rfl (by kernel_rfl) (fun w hS => by kernel_rfl) hq358_ ?_
         refine A_tk 2 (v := (vP (some ⟨r.tb, 2, none⟩))) rfl (by kernel_rfl) (fun w hS => by kernel_rfl) hq358_ ?_
         refine A_tk 3 (v := (vP (some ⟨a129_, 0, none⟩))) rfl (by kernel_rfl) (fun w hS => x_load1 rfl underlying59 rfl (hS.2.2.2.2.2.2.2.1 2 (vP (some ⟨a129_, 0, none⟩)) rfl)) hq358_ ?_
         refine A_tk 4 (v := (vA #[(vI .i64 e.key), (vI .i64 e.val)])) rfl (by kernel_rfl) (fun w hS => x_loadN (vs := [(vI .i64 e.key), (vI .i64 e.val)]) rfl underlying24 rfl z24 rfl (Rd.cells hS.2.2.2.2.2.2.1 0 rfl)) hq358_ ?_
         refine A_tk 5 (v := (vP (some ⟨r.tb, 0, none⟩))) rfl (by kernel_rfl) (fun w hS => x_move rfl) hq358_ ?_
         refine A_ready (i := 6) (rs := [11]) (by kernel_rfl) ?_
         refine AllR.cons ?_ ?_
         ·skip
          refine A_op (ls' := #[true, true, true, true, true, true, true, false, false, false, false, false, false, false]) rfl (by kernel_rfl) (T_callW (al := [(vP (some ⟨r.tb, 0, none⟩))]) rfl rfl cb36 (Calls.into (n := 9) func36 rfl ntmps36 rfl rfl ?_))
          refine cR fun _ hK359_ => ?_
          refine sv (v := (vI .i64 0)) (x_assign rfl) ?_
          refine wn (hK359_ _ _ ?_)
          refine cR fun _ hK360_ => ?_
          refine sm (vP (some ⟨r.tb, 0, none⟩)) ?_
          refine sv (v := (vP (some ⟨r.tb, 0, none⟩))) (by kernel_rfl) ?_
          refine sv (v := (vP (some ⟨r.tb, 0, none⟩))) (by kernel_rfl) ?_
          refine sv (v := (vI .i64 (r.d : Int))) (x_load1 rfl underlying3 rfl ((Holds.rd H220_ 9 rfl) 0 (vI .i64 (r.d : Int)) rfl)) ?_
          refine sv (v := (vI .i64 ((r.d : Int) * 2))) (x_bin rfl rfl (ib_mul (IntWalk.i64_in _ (by omega)))) ?_
          refine sv (v := (vI .i64 (((r.d : Int) * 2) - 1))) (x_bin rfl rfl (ib_sub (IntWalk.i64_in _ (by omega)))) ?_
          refine sv (v := (vI .i64 (((r.d : Int) * 2) - 1))) (x_assign rfl) ?_
          refine wn (hK360_ _ _ ?_)
          refine C_ret ?_
          refine R_any (v := (vI .i64 (((r.d : Int) * 2) - 1))) (run_results1 rfl rfl) ⟨_, rfl, ?_⟩
          refine ⟨⟨Holds.slrd H220_ 1 rfl, Holds.slrd H220_ 1 rfl, Holds.rd H220_ 4 rfl, Holds.rd H220_ 5 rfl, Holds.rd H220_ 6 rfl, Holds.rd H220_ 7 rfl, Holds.rd H220_ 8 rfl, Holds.rd H220_ 9 rfl, (Holds.ro_at H220_ 3 rfl)⟩, ?_⟩
          exact hJ271 _ _ ⟨_, congrArg (fun e => mkA 148 e []) (ch (ch (ch (ch (ch (ch rfl rfl) rfl) rfl) rfl) rfl) rfl), H220_, (Same.trans S212_ (Same.drew _))⟩
         refine AllR.cons ?_ AllR.nil
         refine A_op (ls' := #[true, true, true, true, true, true, false, false, false, false, false, true, false, false]) rfl (by kernel_rfl) (T_alloc z24 H220_ ?_)
         intro b361_ w362_ S364_ H363_
         have S365_ := Same.trans (Same.trans S212_ (Same.drew _)) S364_
         refine ⟨⟨Holds.slrd H363_ 2 rfl, Holds.slrd H363_ 2 rfl, Holds.rd H363_ 5 rfl, Holds.rd H363_ 6 rfl, Holds.rd H363_ 7 rfl, Holds.rd H363_ 8 rfl, Holds.rd H363_ 9 rfl, Holds.rd H363_ 10 rfl, (Holds.ro_at H363_ 4 rfl)⟩, ?_⟩
         exact hJ275 _ _ ⟨b361_, _, congrArg (fun e => mkA 148 e []) (ch (ch (ch (ch (ch (ch (ch rfl rfl) rfl) rfl) rfl) rfl) rfl) rfl), H363_, S365_⟩
       intro hJ204
       refine A_cut #[true, true, true, true, true, true, true, true, true, true, true, true, true, true, false, false, false, false] 4 (fun a__ w1__ => ∃ b179_ : Nat, ∃ h : Env, a__ = mkA 148 (upd (upd (upd (upd (upd (upd (upd h 0 (vP (some ⟨r.tb, 0, none⟩))) 3 (vP (some ⟨b6_, 0, none⟩))) 4 (vP (some ⟨b11_, 0, none⟩))) 5 (vB false)) 112 (vP (some ⟨a129_, 0, none⟩))) 119 (vS none 0 0)) 122 (vS (some ⟨b179_, 0, none⟩) 2 2)) [] ∧ Holds w1__ (cl b179_ 59 [(vP (some ⟨t.a, 0, none⟩)), (vP (some ⟨k269_.a, 0, none⟩))] :: sl 24 2 v150_ 1 ([] ++ [(vI .i64 m_.key), (vI .i64 m_.val)]) :: sl 24 2 (.slice none 0 0) 0 [] :: ro R :: cl a129_ 79 [v150_, (vS none 0 0), (vP (some ⟨r.c, 0, none⟩))] :: cl r.c 58 [(vP (some ⟨r.fl, 0, none⟩)), (Value.func (.func 16) #[] #[])] :: cl r.fl 74 [(vS r.fa 0 r.fc)] :: cl b78_ 24 [(vI .i64 m_.key), (vI .i64 m_.val)] :: btp r.c k168_ :: btp r.c k269_ :: cl b11_ 24 [(vI .i64 0), (vI .i64 0)] :: cl b6_ 24 [(vI .i64 e.key), (vI .i64 e.val)] :: cl r.tb 62 [(vI .i64 (r.d : Int)), (vI .i64 (List.length t.el : Int)), (vP (some ⟨a129_, 0, none⟩)), (vP (some ⟨r.c, 0, none⟩))] :: F) ∧ Same w w1__) ?_ ?_
       ·rintro _ w366_ ⟨b179_, h, rfl, H367_, S368_⟩
        refine A_ready (i := 14) (rs := []) (by kernel_rfl) ?_
        refine AllR.cons ?_ AllR.nil
        have H369_ : Holds w366_ (sl 59 1 (.slice none 0 0) 0 [] :: cl b179_ 59 [(vP (some ⟨t.a, 0, none⟩)), (vP (some ⟨k269_.a, 0, none⟩))] :: sl 24 2 v150_ 1 ([] ++ [(vI .i64 m_.key), (vI .i64 m_.val)]) :: sl 24 2 (.slice none 0 0) 0 [] :: ro R :: cl a129_ 79 [v150_, (vS none 0 0), (vP (some ⟨r.c, 0, none⟩))] :: cl r.c 58 [(vP (some ⟨r.fl, 0, none⟩)), (Value.func (.func 16) #[] #[])] :: cl r.fl 74 [(vS r.fa 0 r.fc)] :: cl b78_ 24 [(vI .i64 m_.key), (vI .i64 m_.val)] :: btp r.c k168_ :: btp r.c k269_ :: cl b11_ 24 [(vI .i64 0), (vI .i64 0)] :: cl b6_ 24 [(vI .i64 e.key), (vI .i64 e.val)] :: cl r.tb 62 [(vI .i64 (r.d : Int)), (vI .i64 (List.length t.el : Int)), (vP (some ⟨a129_, 0, none⟩)), (vP (some ⟨r.c, 0, none⟩))] :: F) := Holds.add_nil H367_ 59 1
        have H370_ : Holds w366_ (sl 59 1 (.slice none 0 0) 0 [] :: sl 59 1 (.slice none 0 0) 0 [] :: cl b179_ 59 [(vP (some ⟨t.a, 0, none⟩)), (vP (some ⟨k269_.a, 0, none⟩))] :: sl 24 2 v150_ 1 ([] ++ [(vI .i64 m_.key), (vI .i64 m_.val)]) :: sl 24 2 (.slice none 0 0) 0 [] :: ro R :: cl a129_ 79 [v150_, (vS none 0 0), (vP (some ⟨r.c, 0, none⟩))] :: cl r.c 58 [(vP (some ⟨r.fl, 0, none⟩)), (Value.func (.func 16) #[] #[])] :: cl r.fl 74 [(vS r.fa 0 r.fc)] :: cl b78_ 24 [(vI .i64 m_.key), (vI .i64 m_.val)] :: btp r.c k168_ :: btp r.c k269_ :: cl b11_ 24 [(vI .i64 0), (vI .i64 0)] :: cl b6_ 24 [(vI .i64 e.key), (vI .i64 e.val)] :: cl r.tb 62 [(vI .i64 (r.d : Int)), (vI .i64 (List.length t.el : Int)), (vP (some ⟨a129_, 0, none⟩)), (vP (some ⟨r.c, 0, none⟩))] :: F) := Holds.add_nil H369_ 59 1
        refine A_op (ls' := #[true, true, true, true, true, true, true, true, true, true, true, true, true, true, true, false, false, false]) rfl (by kernel_rfl) (T_append rfl rfl underlying77 z59 rfl (by decide) H370_ 0 rfl (Holds.cl_src H369_ 1 rfl underlying77 (by simp [Value.oneCell']) rfl) (by first | omega | (simp only [List.length_append, List.length_cons, List.length_nil]; omega)) ?_)
        intro v371_ w372_ S374_ H373_
        have S375_ := Same.trans S368_ S374_
        refine ⟨⟨Holds.slrd H373_ 3 rfl, Holds.slrd H373_ 1 rfl, Holds.rd H373_ 7 rfl, Holds.rd H373_ 8 rfl, Holds.rd H373_ 9 rfl, Holds.rd H373_ 12 rfl, Holds.rd H373_ 13 rfl, Holds.rd H373_ 14 rfl, (Holds.ro_at H373_ 5 rfl)⟩, ?_⟩
        have hq376_ := And.intro (Holds.slrd H373_ 3 rfl) (And.intro (Holds.slrd H373_ 1 rfl) (And.intro (Holds.rd H373_ 7 rfl) (And.intro (Holds.rd H373_ 8 rfl) (And.intro (Holds.rd H373_ 9 rfl) (And.intro (Holds.rd H373_ 12 rfl) (And.intro (Holds.rd H373_ 13 rfl) (And.intro (Holds.rd H373_ 14 rfl) ((Holds.ro_at H373_ 5 rfl)))))))))
        refine A_tk 15 (v := (vP (some ⟨a129_, 0, none⟩))) rfl (by kernel_rfl) (fun w hS => by kernel_rfl) hq376_ ?_
        refine A_tk 16 (v := (vP (some ⟨a129_, 1, none⟩))) rfl (by kernel_rfl) (fun w hS => by kernel_rfl) hq376_ ?_
        have H377_ := Holds.pkF H373_ [0, 0, 1, 1, 1, 1, 1, 1, 1, 1, 1, 1, 1, 1] 1
        exact hJ204 _ _ ⟨v371_, _, congrArg (fun e => mkA 148 e []) (ch (ch (ch (ch (ch (ch rfl rfl) rfl) rfl) rfl) rfl) rfl), H377_, S375_⟩
       intro hJ203
       refine A_cut #[true, true, true, true, true, true, true, true, true, true, true, true, true, false, false, false, false, false] 5 (fun a__ w1__ => ∃ h : Env, a__ = mkA 148 (upd (upd (upd (upd (upd (upd (upd (upd h 0 (vP (some ⟨r.tb, 0, none⟩))) 3 (vP (some ⟨b6_, 0, none⟩))) 4 (vP (some ⟨b11_, 0, none⟩))) 5 (vB false)) 112 (vP (some ⟨a129_, 0, none⟩))) 119 (vS none 0 0)) 120 (vP (some ⟨t.a, 0, none⟩))) 121 (vP (some ⟨k269_.a, 0, none⟩))) [] ∧ Holds w1__ (sl 24 2 v150_ 1 ([] ++ [(vI .i64 m_.key), (vI .i64 m_.val)]) :: sl 24 2 (.slice none 0 0) 0 [] :: ro R :: cl a129_ 79 [v150_, (vS none 0 0), (vP (some ⟨r.c, 0, none⟩))] :: cl r.c 58 [(vP (some ⟨r.fl, 0, none⟩)), (Value.func (.func 16) #[] #[])] :: cl r.fl 74 [(vS r.fa 0 r.fc)] :: cl b78_ 24 [(vI .i64 m_.key), (vI .i64 m_.val)] :: btp r.c k168_ :: btp r.c k269_ :: cl b11_ 24 [(vI .i64 0), (vI .i64 0)] :: cl b6_ 24 [(vI .i64 e.key), (vI .i64 e.val)] :: cl r.tb 62 [(vI .i64 (r.d : Int)), (vI .i64 (List.length t.el : Int)), (vP (some ⟨a129_, 0, none⟩)), (vP (some ⟨r.c, 0, none⟩))] :: F) ∧ Same w w1__) ?_ ?_
       ·rintro _ w378_ ⟨h, rfl, H379_, S380_⟩
        refine A_ready (i := 13) (rs := []) (by kernel_rfl) ?_
        refine AllR.cons ?_ AllR.nil
        refine A_op (ls' := #[true, true, true, true, true, true, true, true, true, true, true, true, true, true, false, false, false, false]) rfl (by kernel_rfl) (T_new (obj := .cells #[(vP (some ⟨t.a, 0, none⟩)), (vP (some ⟨k269_.a, 0, none⟩))] 59) (f := fun b__ => .slice (some ⟨b__, 0, none⟩) 2 2) (A := fun b__ => cl b__ 59 [(vP (some ⟨t.a, 0, none⟩)), (vP (some ⟨k269_.a, 0, none⟩))]) (by kernel_rfl) (fun l h => h.alloc _ _) H379_ ?_)
        intro b381_ w382_ S384_ H383_
        have S385_ := Same.trans S380_ S384_
        refine ⟨⟨Holds.slrd H383_ 1 rfl, Holds.slrd H383_ 2 rfl, Holds.rd H383_ 5 rfl, Holds.rd H383_ 6 rfl, Holds.rd H383_ 7 rfl, Holds.rd H383_ 10 rfl, Holds.rd H383_ 11 rfl, Holds.rd H383_ 12 rfl, (Holds.ro_at H383_ 3 rfl)⟩, ?_⟩
        exact hJ203 _ _ ⟨b381_, _, congrArg (fun e => mkA 148 e []) (ch (ch (ch (ch (ch (ch (ch rfl rfl) rfl) rfl) rfl) rfl) rfl) rfl), H383_, S385_⟩
       intro hJ202
       refine A_cut #[true, true, true, true, true, true, true, true, true, true, false, true, true, true, false, false, false, false] 5 (fun a__ w1__ => ∃ b196_ : Nat, ∃ h : Env, a__ = mkA 148 (upd (upd (upd (upd (upd (upd (upd h 0 (vP (some ⟨r.tb, 0, none⟩))) 3 (vP (some ⟨b6_, 0, none⟩))) 4 (vP (some ⟨b11_, 0, none⟩))) 5 (vB false)) 112 (vP (some ⟨a129_, 0, none⟩))) 118 (vP (some ⟨a129_, 1, none⟩))) 122 (vS (some ⟨b196_, 0, none⟩) 2 2)) [] ∧ Holds w1__ (cl b196_ 59 [(vP (some ⟨t.a, 0, none⟩)), (vP (some ⟨k269_.a, 0, none⟩))] :: sl 24 2 v150_ 1 ([] ++ [(vI .i64 m_.key), (vI .i64 m_.val)]) :: sl 24 2 (.slice none 0 0) 0 [] :: ro R :: cl a129_ 79 [v150_, (vS none 0 0), (vP (some ⟨r.c, 0, none⟩))] :: cl r.c 58 [(vP (some ⟨r.fl, 0, none⟩)), (Value.func (.func 16) #[] #[])] :: cl r.fl 74 [(vS r.fa 0 r.fc)] :: cl b78_ 24 [(vI .i64 m_.key), (vI .i64 m_.val)] :: btp r.c k168_ :: btp r.c k269_ :: cl b11_ 24 [(vI .i64 0), (vI .i64 0)] :: cl b6_ 24 [(vI .i64 e.key), (vI .i64 e.val)] :: cl r.tb 62 [(vI .i64 (r.d : Int)), (vI .i64 (List.length t.el : Int)), (vP (some ⟨a129_, 0, none⟩)), (vP (some ⟨r.c, 0, none⟩))] :: F) ∧ Same w w1__) ?_ ?_
       ·rintro _ w386_ ⟨b196_, h, rfl, H387_, S388_⟩
        refine A_ready (i := 10) (rs := []) (by kernel_rfl) ?_
        refine AllR.cons ?_ AllR.nil
        refine A_op (ls' := #[true, true, true, true, true, true, true, true, true, true, true, true, true, true, false, false, false, false]) rfl (by kernel_rfl) (T_val (v := (vS none 0 0)) (x_load1 rfl underlying77 rfl ((Holds.rd H387_ 4 rfl) 1 (vS none 0 0) rfl)) ?_)
        refine ⟨⟨Holds.slrd H387_ 1 rfl, Holds.slrd H387_ 2 rfl, Holds.rd H387_ 5 rfl, Holds.rd H387_ 6 rfl, Holds.rd H387_ 7 rfl, Holds.rd H387_ 10 rfl, Holds.rd H387_ 11 rfl, Holds.rd H387_ 12 rfl, (Holds.ro_at H387_ 3 rfl)⟩, ?_⟩
        exact hJ203 _ _ ⟨b196_, _, congrArg (fun e => mkA 148 e []) (ch (ch (ch (ch (ch (ch (ch rfl rfl) rfl) rfl) rfl) rfl) rfl) rfl), H387_, S388_⟩
       intro hJ205
       have hq389_ := And.intro (Holds.slrd H177_ 0 rfl) (And.intro (Holds.slrd H177_ 1 rfl) (And.intro (Holds.rd H177_ 4 rfl) (And.intro (Holds.rd H177_ 5 rfl) (And.intro (Holds.rd H177_ 6 rfl) (And.intro (Holds.rd H177_ 9 rfl) (And.intro (Holds.rd H177_ 10 rfl) (And.intro (Holds.rd H177_ 11 rfl) ((Holds.ro_at H177_ 2 rfl)))))))))
       refine A_tk 0 (v := (vP (some ⟨r.tb, 0, none⟩))) rfl (by kernel_rfl) (fun w hS => x_move rfl) hq389_ ?_
       refine A_tk 1 (v := (vP (some ⟨r.tb, 0, none⟩))) rfl (by kernel_rfl) (fun w hS => by kernel_rfl) hq389_ ?_
       refine A_tk 2 (v := (vP (some ⟨r.tb, 2, none⟩))) rfl (by kernel_rfl) (fun w hS => by kernel_rfl) hq389_ ?_
       refine A_tk 3 (v := (vP (some ⟨a129_, 0, none⟩))) rfl (by kernel_rfl) (fun w hS => x_load1 rfl underlying59 rfl (hS.2.2.2.2.2.2.2.1 2 (vP (some ⟨a129_, 0, none⟩)) rfl)) hq389_ ?_
       refine A_tk 4 (v := (vP (some ⟨r.tb, 0, none⟩))) rfl (by kernel_rfl) (fun w hS => x_move rfl) hq389_ ?_
       refine A_tk 5 (v := (vP (some ⟨r.tb, 0, none⟩))) rfl (by kernel_rfl) (fun w hS => by kernel_rfl) hq389_ ?_
       refine A_tk 6 (v := (vP (some ⟨r.tb, 2, none⟩))) rfl (by kernel_rfl) (fun w hS => by kernel_rfl) hq389_ ?_
       refine A_tk 7 (v := (vP (some ⟨a129_, 0, none⟩))) rfl (by kernel_rfl) (fun w hS => x_load1 rfl underlying59 rfl (hS.2.2.2.2.2.2.2.1 2 (vP (some ⟨a129_, 0, none⟩)) rfl)) hq389_ ?_
       refine A_tk 8 (v := (vP (some ⟨a129_, 0, none⟩))) rfl (by kernel_rfl) (fun w hS => by kernel_rfl) hq389_ ?_
       refine A_tk 9 (v := (vP (some ⟨a129_, 1, none⟩))) rfl (by kernel_rfl) (fun w hS => by kernel_rfl) hq389_ ?_
       refine A_tk 11 (v := (vP (some ⟨t.a, 0, none⟩))) rfl (by kernel_rfl) (fun w hS => x_move rfl) hq389_ ?_
       refine A_tk 12 (v := (vP (some ⟨k269_.a, 0, none⟩))) rfl (by kernel_rfl) (fun w hS => x_move rfl) hq389_ ?_
       refine A_ready (i := 10) (rs := [13]) (by kernel_rfl) ?_
       refine AllR.cons ?_ ?_
       ·skip
        refine A_op (ls' := #[true, true, true, true, true, true, true, true, true, true, true, true, true, false, false, false, false, false]) rfl (by kernel_rfl) (T_val (v := (vS none 0 0)) (x_load1 rfl underlying77 rfl ((Holds.rd H177_ 3 rfl) 1 (vS none 0 0) rfl)) ?_)
        refine ⟨⟨Holds.slrd H177_ 0 rfl, Holds.slrd H177_ 1 rfl, Holds.rd H177_ 4 rfl, Holds.rd H177_ 5 rfl, Holds.rd H177_ 6 rfl, Holds.rd H177_ 9 rfl, Holds.rd H177_ 10 rfl, Holds.rd H177_ 11 rfl, (Holds.ro_at H177_ 2 rfl)⟩, ?_⟩
        exact hJ202 _ _ ⟨_, congrArg (fun e => mkA 148 e []) (ch (ch (ch (ch (ch (ch (ch (ch rfl rfl) rfl) rfl) rfl) rfl) rfl) rfl) rfl), H177_, (Same.trans S176_ (Same.drew _))⟩
       refine AllR.cons ?_ AllR.nil
       refine A_op (ls' := #[true, true, true, true, true, true, true, true, true, true, false, true, true, true, false, false, false, false]) rfl (by kernel_rfl) (T_new (obj := .cells #[(vP (some ⟨t.a, 0, none⟩)), (vP (some ⟨k269_.a, 0, none⟩))] 59) (f := fun b__ => .slice (some ⟨b__, 0, none⟩) 2 2) (A := fun b__ => cl b__ 59 [(vP (some ⟨t.a, 0, none⟩)), (vP (some ⟨k269_.a, 0, none⟩))]) (by kernel_rfl) (fun l h => h.alloc _ _) H177_ ?_)
       intro b390_ w391_ S393_ H392_
       have S394_ := Same.trans (Same.trans S176_ (Same.drew _)) S393_
       refine ⟨⟨Holds.slrd H392_ 1 rfl, Holds.slrd H392_ 2 rfl, Holds.rd H392_ 5 rfl, Holds.rd H392_ 6 rfl, Holds.rd H392_ 7 rfl, Holds.rd H392_ 10 rfl, Holds.rd H392_ 11 rfl, Holds.rd H392_ 12 rfl, (Holds.ro_at H392_ 3 rfl)⟩, ?_⟩
       exact hJ205 _ _ ⟨b390_, _, congrArg (fun e => mkA 148 e []) (ch (ch (ch (ch (ch (ch (ch rfl rfl) rfl) rfl) rfl) rfl) rfl) rfl), H392_, S394_⟩
      intro hJ168
      refine A_cut #[true, true, true, true, true, true, true, true, true, true, true, true, true, false, false, false, false] 4 (fun a__ w1__ => ∃ b143_ : Nat, ∃ h : Env, a__ = mkA 148 (upd (upd (upd (upd (upd (upd (upd (upd (upd h 0 (vP (some ⟨r.tb, 0, none⟩))) 3 (vP (some ⟨b6_, 0, none⟩))) 4 (vP (some ⟨b11_, 0, none⟩))) 5 (vB false)) 7 (vP (some ⟨k269_.a, 0, none⟩))) 8 (vP (some ⟨t.a, 0, none⟩))) 96 (vP (some ⟨a129_, 0, none⟩))) 103 (vS none 0 0)) 105 (vS (some ⟨b143_, 0, none⟩) 1 1)) [] ∧ Holds w1__ (cl b143_ 24 [(vI .i64 m_.key), (vI .i64 m_.val)] :: ro R :: cl a129_ 79 [(vS none 0 0), (vS none 0 0), (vP (some ⟨r.c, 0, none⟩))] :: cl r.c 58 [(vP (some ⟨r.fl, 0, none⟩)), (Value.func (.func 16) #[] #[])] :: cl r.fl 74 [(vS r.fa 0 r.fc)] :: cl b78_ 24 [(vI .i64 m_.key), (vI .i64 m_.val)] :: btp r.c k168_ :: btp r.c k269_ :: cl b11_ 24 [(vI .i64 0), (vI .i64 0)] :: cl b6_ 24 [(vI .i64 e.key), (vI .i64 e.val)] :: cl r.tb 62 [(vI .i64 (r.d : Int)), (vI .i64 (List.length t.el : Int)), (vP (some ⟨a129_, 0, none⟩)), (vP (some ⟨r.c, 0, none⟩))] :: F) ∧ Same w w1__) ?_ ?_
      ·rintro _ w395_ ⟨b143_, h, rfl, H396_, S397_⟩
       refine A_ready (i := 13) (rs := []) (by kernel_rfl) ?_
       refine AllR.cons ?_ AllR.nil
       have H398_ : Holds w395_ (sl 24 2 (.slice none 0 0) 0 [] :: cl b143_ 24 [(vI .i64 m_.key), (vI .i64 m_.val)] :: ro R :: cl a129_ 79 [(vS none 0 0), (vS none 0 0), (vP (some ⟨r.c, 0, none⟩))] :: cl r.c 58 [(vP (some ⟨r.fl, 0, none⟩)), (Value.func (.func 16) #[] #[])] :: cl r.fl 74 [(vS r.fa 0 r.fc)] :: cl b78_ 24 [(vI .i64 m_.key), (vI .i64 m_.val)] :: btp r.c k168_ :: btp r.c k269_ :: cl b11_ 24 [(vI .i64 0), (vI .i64 0)] :: cl b6_ 24 [(vI .i64 e.key), (vI .i64 e.val)] :: cl r.tb 62 [(vI .i64 (r.d : Int)), (vI .i64 (List.length t.el : Int)), (vP (some ⟨a129_, 0, none⟩)), (vP (some ⟨r.c, 0, none⟩))] :: F) := Holds.add_nil H396_ 24 2
       have H399_ : Holds w395_ (sl 24 2 (.slice none 0 0) 0 [] :: sl 24 2 (.slice none 0 0) 0 [] :: cl b143_ 24 [(vI .i64 m_.key), (vI .i64 m_.val)] :: ro R :: cl a129_ 79 [(vS none 0 0), (vS none 0 0), (vP (some ⟨r.c, 0, none⟩))] :: cl r.c 58 [(vP (some ⟨r.fl, 0, none⟩)), (Value.func (.func 16) #[] #[])] :: cl r.fl 74 [(vS r.fa 0 r.fc)] :: cl b78_ 24 [(vI .i64 m_.key), (vI .i64 m_.val)] :: btp r.c k168_ :: btp r.c k269_ :: cl b11_ 24 [(vI .i64 0), (vI .i64 0)] :: cl b6_ 24 [(vI .i64 e.key), (vI .i64 e.val)] :: cl r.tb 62 [(vI .i64 (r.d : Int)), (vI .i64 (List.length t.el : Int)), (vP (some ⟨a129_, 0, none⟩)), (vP (some ⟨r.c, 0, none⟩))] :: F) := Holds.add_nil H398_ 24 2
       refine A_op (ls' := #[true, true, true, true, true, true, true, true, true, true, true, true, true, true, false, false, false]) rfl (by kernel_rfl) (T_append rfl rfl underlying76 z24 rfl (by decide) H399_ 0 rfl (Holds.cl_src H398_ 1 rfl underlying76 (by simp [Value.oneCell']) rfl) (by first | omega | (simp only [List.length_append, List.length_cons, List.length_nil]; omega)) ?_)
       intro v400_ w401_ S403_ H402_
       have S404_ := Same.trans S397_ S403_
       refine ⟨⟨Holds.rd H402_ 5 rfl, Holds.rd H402_ 6 rfl, Holds.rd H402_ 7 rfl, Holds.rd H402_ 10 rfl, Holds.rd H402_ 11 rfl, Holds.rd H402_ 12 rfl, (Holds.ro_at H402_ 3 rfl)⟩, ?_⟩
       have hq405_ := And.intro (Holds.rd H402_ 5 rfl) (And.intro (Holds.rd H402_ 6 rfl) (And.intro (Holds.rd H402_ 7 rfl) (And.intro (Holds.rd H402_ 10 rfl) (And.intro (Holds.rd H402_ 11 rfl) (And.intro (Holds.rd H402_ 12 rfl) ((Holds.ro_at H402_ 3 rfl)))))))
       refine A_tk 14 (v := (vP (some ⟨a129_, 0, none⟩))) rfl (by kernel_rfl) (fun w hS => by kernel_rfl) hq405_ ?_
       refine A_tk 15 (v := (vP (some ⟨a129_, 0, none⟩))) rfl (by kernel_rfl) (fun w hS => by kernel_rfl) hq405_ ?_
       have H406_ := Holds.pkF H402_ [0, 0, 1, 1, 1, 1, 1, 1, 1, 1, 1, 1] 1
       exact hJ168 _ _ ⟨v400_, _, congrArg (fun e => mkA 148 e []) (ch (ch (ch (ch (ch (ch (ch (ch rfl rfl) rfl) rfl) rfl) rfl) rfl) rfl) rfl), H406_, S404_⟩
      intro hJ167
      refine A_cut #[true, true, true, true, true, true, true, true, true, true, true, true, false, false, false, false, false] 5 (fun a__ w1__ => ∃ h : Env, a__ = mkA 148 (upd (upd (upd (upd (upd (upd (upd (upd (upd h 0 (vP (some ⟨r.tb, 0, none⟩))) 3 (vP (some ⟨b6_, 0, none⟩))) 4 (vP (some ⟨b11_, 0, none⟩))) 5 (vB false)) 7 (vP (some ⟨k269_.a, 0, none⟩))) 8 (vP (some ⟨t.a, 0, none⟩))) 96 (vP (some ⟨a129_, 0, none⟩))) 103 (vS none 0 0)) 104 (vA #[(vI .i64 m_.key), (vI .i64 m_.val)])) [] ∧ Holds w1__ (ro R :: cl a129_ 79 [(vS none 0 0), (vS none 0 0), (vP (some ⟨r.c, 0, none⟩))] :: cl r.c 58 [(vP (some ⟨r.fl, 0, none⟩)), (Value.func (.func 16) #[] #[])] :: cl r.fl 74 [(vS r.fa 0 r.fc)] :: cl b78_ 24 [(vI .i64 m_.key), (vI .i64 m_.val)] :: btp r.c k168_ :: btp r.c k269_ :: cl b11_ 24 [(vI .i64 0), (vI .i64 0)] :: cl b6_ 24 [(vI .i64 e.key), (vI .i64 e.val)] :: cl r.tb 62 [(vI .i64 (r.d : Int)), (vI .i64 (List.length t.el : Int)), (vP (some ⟨a129_, 0, none⟩)), (vP (some ⟨r.c, 0, none⟩))] :: F) ∧ Same w w1__) ?_ ?_
      ·rintro _ w407_ ⟨h, rfl, H408_, S409_⟩
       refine A_ready (i := 12) (rs := []) (by kernel_rfl) ?_
       refine AllR.cons ?_ AllR.nil
       refine A_op (ls' := #[true, true, true, true, true, true, true, true, true, true, true, true, true, false, false, false, false]) rfl (by kernel_rfl) (T_new (obj := .cells #[(vI .i64 m_.key), (vI .i64 m_.val)] 24) (f := fun b__ => .slice (some ⟨b__, 0, none⟩) 1 1) (A := fun b__ => cl b__ 24 [(vI .i64 m_.key), (vI .i64 m_.val)]) (by kernel_rfl) (fun l h => h.alloc _ _) H408_ ?_)
       intro b410_ w411_ S413_ H412_
       have S414_ := Same.trans S409_ S413_
       refine ⟨⟨Holds.rd H412_ 3 rfl, Holds.rd H412_ 4 rfl, Holds.rd H412_ 5 rfl, Holds.rd H412_ 8 rfl, Holds.rd H412_ 9 rfl, Holds.rd H412_ 10 rfl, (Holds.ro_at H412_ 1 rfl)⟩, ?_⟩
       exact hJ167 _ _ ⟨b410_, _, congrArg (fun e => mkA 148 e []) (ch (ch (ch (ch (ch (ch (ch (ch (ch rfl rfl) rfl) rfl) rfl) rfl) rfl) rfl) rfl) rfl), H412_, S414_⟩
      intro hJ166
      refine A_cut #[true, true, true, true, true, true, true, true, true, true, false, true, true, false, false, false, false] 5 (fun a__ w1__ => ∃ b160_ : Nat, ∃ h : Env, a__ = mkA 148 (upd (upd (upd (upd (upd (upd (upd (upd (upd h 0 (vP (some ⟨r.tb, 0, none⟩))) 3 (vP (some ⟨b6_, 0, none⟩))) 4 (vP (some ⟨b11_, 0, none⟩))) 5 (vB false)) 7 (vP (some ⟨k269_.a, 0, none⟩))) 8 (vP (some ⟨t.a, 0, none⟩))) 96 (vP (some ⟨a129_, 0, none⟩))) 102 (vP (some ⟨a129_, 0, none⟩))) 105 (vS (some ⟨b160_, 0, none⟩) 1 1)) [] ∧ Holds w1__ (cl b160_ 24 [(vI .i64 m_.key), (vI .i64 m_.val)] :: ro R :: cl a129_ 79 [(vS none 0 0), (vS none 0 0), (vP (some ⟨r.c, 0, none⟩))] :: cl r.c 58 [(vP (some ⟨r.fl, 0, none⟩)), (Value.func (.func 16) #[] #[])] :: cl r.fl 74 [(vS r.fa 0 r.fc)] :: cl b78_ 24 [(vI .i64 m_.key), (vI .i64 m_.val)] :: btp r.c k168_ :: btp r.c k269_ :: cl b11_ 24 [(vI .i64 0), (vI .i64 0)] :: cl b6_ 24 [(vI .i64 e.key), (vI .i64 e.val)] :: cl r.tb 62 [(vI .i64 (r.d : Int)), (vI .i64 (List.length t.el : Int)), (vP (some ⟨a129_, 0, none⟩)), (vP (some ⟨r.c, 0, none⟩))] :: F) ∧ Same w w1__) ?_ ?_
      ·rintro _ w415_ ⟨b160_, h, rfl, H416_, S417_⟩
       refine A_ready (i := 10) (rs := []) (by kernel_rfl) ?_
       refine AllR.cons ?_ AllR.nil
       refine A_op (ls' := #[true, true, true, true, true, true, true, true, true, true, true, true, true, false, false, false, false]) rfl (by kernel_rfl) (T_val (v := (vS none 0 0)) (x_load1 rfl underlying76 rfl ((Holds.rd H416_ 2 rfl) 0 (vS none 0 0) rfl)) ?_)
       refine ⟨⟨Holds.rd H416_ 3 rfl, Holds.rd H416_ 4 rfl, Holds.rd H416_ 5 rfl, Holds.rd H416_ 8 rfl, Holds.rd H416_ 9 rfl, Holds.rd H416_ 10 rfl, (Holds.ro_at H416_ 1 rfl)⟩, ?_⟩
       exact hJ167 _ _ ⟨b160_, _, congrArg (fun e => mkA 148 e []) (ch (ch (ch (ch (ch (ch (ch (ch (ch rfl rfl) rfl) rfl) rfl) rfl) rfl) rfl) rfl) rfl), H416_, S417_⟩
      intro hJ169
      have hq418_ := And.intro (Holds.rd H141_ 2 rfl) (And.intro (Holds.rd H141_ 3 rfl) (And.intro (Holds.rd H141_ 4 rfl) (And.intro (Holds.rd H141_ 7 rfl) (And.intro (Holds.rd H141_ 8 rfl) (And.intro (Holds.rd H141_ 9 rfl) ((Holds.ro_at H141_ 0 rfl)))))))
      refine A_tk 0 (v := (vP (some ⟨r.tb, 0, none⟩))) rfl (by kernel_rfl) (fun w hS => x_move rfl) hq418_ ?_
      refine A_tk 1 (v := (vP (some ⟨r.tb, 0, none⟩))) rfl (by kernel_rfl) (fun w hS => by kernel_rfl) hq418_ ?_
      refine A_tk 2 (v := (vP (some ⟨r.tb, 2, none⟩))) rfl (by kernel_rfl) (fun w hS => by kernel_rfl) hq418_ ?_
      refine A_tk 3 (v := (vP (some ⟨a129_, 0, none⟩))) rfl (by kernel_rfl) (fun w hS => x_load1 rfl underlying59 rfl (hS.2.2.2.2.2.1 2 (vP (some ⟨a129_, 0, none⟩)) rfl)) hq418_ ?_
      refine A_tk 4 (v := (vP (some ⟨r.tb, 0, none⟩))) rfl (by kernel_rfl) (fun w hS => x_move rfl) hq418_ ?_
      refine A_tk 5 (v := (vP (some ⟨r.tb, 0, none⟩))) rfl (by kernel_rfl) (fun w hS => by kernel_rfl) hq418_ ?_
      refine A_tk 6 (v := (vP (some ⟨r.tb, 2, none⟩))) rfl (by kernel_rfl) (fun w hS => by kernel_rfl) hq418_ ?_
      refine A_tk 7 (v := (vP (some ⟨a129_, 0, none⟩))) rfl (by kernel_rfl) (fun w hS => x_load1 rfl underlying59 rfl (hS.2.2.2.2.2.1 2 (vP (some ⟨a129_, 0, none⟩)) rfl)) hq418_ ?_
      refine A_tk 8 (v := (vP (some ⟨a129_, 0, none⟩))) rfl (by kernel_rfl) (fun w hS => by kernel_rfl) hq418_ ?_
      refine A_tk 9 (v := (vP (some ⟨a129_, 0, none⟩))) rfl (by kernel_rfl) (fun w hS => by kernel_rfl) hq418_ ?_
      refine A_tk 11 (v := (vA #[(vI .i64 m_.key), (vI .i64 m_.val)])) rfl (by kernel_rfl) (fun w hS => x_loadN (vs := [(vI .i64 m_.key), (vI .i64 m_.val)]) rfl underlying24 rfl z24 rfl (Rd.cells hS.2.2.1 0 rfl)) hq418_ ?_
      refine A_ready (i := 10) (rs := [12]) (by kernel_rfl) ?_
      refine AllR.cons ?_ ?_
      ·skip
       refine A_op (ls' := #[true, true, true, true, true, true, true, true, true, true, true, true, false, false, false, false, false]) rfl (by kernel_rfl) (T_val (v := (vS none 0 0)) (x_load1 rfl underlying76 rfl ((Holds.rd H141_ 1 rfl) 0 (vS none 0 0) rfl)) ?_)
       refine ⟨⟨Holds.rd H141_ 2 rfl, Holds.rd H141_ 3 rfl, Holds.rd H141_ 4 rfl, Holds.rd H141_ 7 rfl, Holds.rd H141_ 8 rfl, Holds.rd H141_ 9 rfl, (Holds.ro_at H141_ 0 rfl)⟩, ?_⟩
       exact hJ166 _ _ ⟨_, congrArg (fun e => mkA 148 e []) (ch (ch (ch (ch (ch (ch (ch (ch (ch rfl rfl) rfl) rfl) rfl) rfl) rfl) rfl) rfl) rfl), H141_, (Same.trans S139_ (Same.drew _))⟩
      refine AllR.cons ?_ AllR.nil
      refine A_op (ls' := #[true, true, true, true, true, true, true, true, true, true, false, true, true, false, false, false, false]) rfl (by kernel_rfl) (T_new (obj := .cells #[(vI .i64 m_.key), (vI .i64 m_.val)] 24) (f := fun b__ => .slice (some ⟨b__, 0, none⟩) 1 1) (A := fun b__ => cl b__ 24 [(vI .i64 m_.key), (vI .i64 m_.val)]) (by kernel_rfl) (fun l h => h.alloc _ _) H141_ ?_)
      intro b419_ w420_ S422_ H421_
      have S423_ := Same.trans (Same.trans S139_ (Same.drew _)) S422_
      refine ⟨⟨Holds.rd H421_ 3 rfl, Holds.rd H421_ 4 rfl, Holds.rd H421_ 5 rfl, Holds.rd H421_ 8 rfl, Holds.rd H421_ 9 rfl, Holds.rd H421_ 10 rfl, (Holds.ro_at H421_ 1 rfl)⟩, ?_⟩
      exact hJ169 _ _ ⟨b419_, _, congrArg (fun e => mkA 148 e []) (ch (ch (ch (ch (ch (ch (ch (ch (ch rfl rfl) rfl) rfl) rfl) rfl) rfl) rfl) rfl) rfl), H421_, S423_⟩
     intro hJ115
     refine A_cut #[true, true, true, true, true, true, true, true, true, true, true, false, false, false] 3 (fun a__ w1__ => ∃ k168_ : BT z, ∃ k269_ : BT z, ∃ h : Env, a__ = mkA 148 (upd (upd (upd (upd (upd (upd h 0 (vP (some ⟨r.tb, 0, none⟩))) 3 (vP (some ⟨b6_, 0, none⟩))) 4 (vP (some ⟨b11_, 0, none⟩))) 5 (vB false)) 79 (vA #[(vI .i64 m_.key), (vI .i64 m_.val)])) 80 (vP (some ⟨k269_.a, 0, none⟩))) [] ∧ Holds w1__ (ro R :: btp r.c k168_ :: btp r.c k269_ :: cl r.c 58 [(vP (some ⟨r.fl, 0, none⟩)), (Value.func (.func 16) #[] #[])] :: cl r.fl 74 [(vS r.fa 0 r.fc)] :: cl b11_ 24 [(vI .i64 0), (vI .i64 0)] :: cl b6_ 24 [(vI .i64 e.key), (vI .i64 e.val)] :: cl r.tb 62 [(vI .i64 (r.d : Int)), (vI .i64 (List.length t.el : Int)), (vP (some ⟨t.a, 0, none⟩)), (vP (some ⟨r.c, 0, none⟩))] :: F) ∧ Same w w1__ ∧ (Spl t k168_ k269_ m_)) ?_ ?_
     ·rintro _ w424_ ⟨k168_, k269_, h, rfl, H425_, S426_, he70_⟩
      refine A_ready (i := 11) (rs := []) (by kernel_rfl) ?_
      refine AllR.cons ?_ AllR.nil
      refine A_op (ls' := #[true, true, true, true, true, true, true, true, true, true, true, true, false, false]) rfl (by kernel_rfl) (T_alloc z24 H425_ ?_)
      intro b427_ w428_ S430_ H429_
      have S431_ := Same.trans S426_ S430_
      refine ⟨⟨Holds.rd H429_ 6 rfl, Holds.rd H429_ 7 rfl, Holds.rd H429_ 8 rfl, Holds.rd H429_ 4 rfl, Holds.rd H429_ 5 rfl, (Holds.ro_at H429_ 1 rfl)⟩, ?_⟩
      exact hJ115 _ _ ⟨k168_, k269_, b427_, _, congrArg (fun e => mkA 148 e []) (ch (ch (ch (ch (ch (ch (ch rfl rfl) rfl) rfl) rfl) rfl) rfl) rfl), H429_, S431_, he70_⟩
     intro hJ114
     refine A_cut #[true, true, true, true, true, true, true, false, false, false, false, true, false, false] 6 (fun a__ w1__ => ∃ b88_ : Nat, ∃ h : Env, a__ = mkA 148 (upd (upd (upd (upd (upd (upd (upd h 0 (vP (some ⟨r.tb, 0, none⟩))) 3 (vP (some ⟨b6_, 0, none⟩))) 4 (vP (some ⟨b11_, 0, none⟩))) 5 (vB false)) 6 (vP (some ⟨b88_, 0, none⟩))) 74 (vP (some ⟨t.a, 0, none⟩))) 77 (vI .i64 ((r.d - 1 : Nat) : Int))) [] ∧ Holds w1__ (cl b88_ 24 [(vI .i64 0), (vI .i64 0)] :: btp r.c t :: ro R :: cl b11_ 24 [(vI .i64 0), (vI .i64 0)] :: cl b6_ 24 [(vI .i64 e.key), (vI .i64 e.val)] :: cl r.tb 62 [(vI .i64 (r.d : Int)), (vI .i64 (List.length t.el : Int)), (vP (some ⟨t.a, 0, none⟩)), (vP (some ⟨r.c, 0, none⟩))] :: cl r.c 58 [(vP (some ⟨r.fl, 0, none⟩)), (Value.func (.func 16) #[] #[])] :: cl r.fl 74 [(vS r.fa 0 r.fc)] :: F) ∧ Same w w1__) ?_ ?_
     ·rintro _ w432_ ⟨b88_, h, rfl, H433_, S434_⟩
      refine A_ready (i := 7) (rs := []) (by kernel_rfl) ?_
      refine AllR.cons ?_ AllR.nil
      have H439_ := ((Holds.bring (Holds.bring (Holds.bring (Holds.bring H433_ 7 rfl) 7 rfl) 3 rfl) 4 rfl) :)
      refine A_op (ls' := #[true, true, true, true, true, true, true, true, false, false, false, true, false, false]) rfl (by kernel_rfl) (T_call (al := [(vP (some ⟨t.a, 0, none⟩)), (vI .i64 ((r.d - 1 : Nat) : Int))]) (pre := [btp r.c t, cl r.c 58 [(vP (some ⟨r.fl, 0, none⟩)), (Value.func (.func 16) #[] #[])], cl r.fl 74 [(vS r.fa 0 r.fc)]]) rfl rfl cb37 (btSplit R r.c r.fl r.fc r.fa z t (r.d - 1) m_ (hw) (hm_) (hnx)) H439_ ?_)
      rintro v435_ p443_ w440_ ⟨k1436_, k2437_, rfl, rfl, he438_⟩ S442_ H441_
      have S444_ := Same.trans S434_ S442_
      refine ⟨⟨Holds.rd H441_ 6 rfl, Holds.rd H441_ 7 rfl, Holds.rd H441_ 8 rfl, Holds.rd H441_ 3 rfl, Holds.rd H441_ 4 rfl, (Holds.ro_at H441_ 0 rfl)⟩, ?_⟩
      have hq445_ := And.intro (Holds.rd H441_ 6 rfl) (And.intro (Holds.rd H441_ 7 rfl) (And.intro (Holds.rd H441_ 8 rfl) (And.intro (Holds.rd H441_ 3 rfl) (And.intro (Holds.rd H441_ 4 rfl) ((Holds.ro_at H441_ 0 rfl))))))
      refine A_tk 8 (v := (vT #[(vA #[(vI .i64 m_.key), (vI .i64 m_.val)]), (vP (some ⟨k2437_.a, 0, none⟩))])) rfl (by kernel_rfl) (fun w hS => x_move rfl) hq445_ ?_
      refine A_tk 9 (v := (vA #[(vI .i64 m_.key), (vI .i64 m_.val)])) rfl (by kernel_rfl) (fun w hS => by kernel_rfl) hq445_ ?_
      refine A_tk 10 (v := (vP (some ⟨k2437_.a, 0, none⟩))) rfl (by kernel_rfl) (fun w hS => by kernel_rfl) hq445_ ?_
      have H446_ := Holds.pkF H441_ [5, 0, 0, 0, 0, 0, 0, 0, 0] 0
      exact hJ115 _ _ ⟨k1436_, k2437_, b88_, _, congrArg (fun e => mkA 148 e []) (ch (ch (ch (ch (ch (ch (ch rfl rfl) rfl) rfl) rfl) rfl) rfl) rfl), H446_, S444_, he438_⟩
     intro hJ116
     refine A_cut #[true, true, true, true, true, true, true, false, false, false, false, false, false, false] 7 (fun a__ w1__ => ∃ h : Env, a__ = mkA 148 (upd (upd (upd (upd (upd (upd h 0 (vP (some ⟨r.tb, 0, none⟩))) 3 (vP (some ⟨b6_, 0, none⟩))) 4 (vP (some ⟨b11_, 0, none⟩))) 5 (vB false)) 74 (vP (some ⟨t.a, 0, none⟩))) 77 (vI .i64 ((r.d - 1 : Nat) : Int))) [] ∧ Holds w1__ (btp r.c t :: ro R :: cl b11_ 24 [(vI .i64 0), (vI .i64 0)] :: cl b6_ 24 [(vI .i64 e.key), (vI .i64 e.val)] :: cl r.tb 62 [(vI .i64 (r.d : Int)), (vI .i64 (List.length t.el : Int)), (vP (some ⟨t.a, 0, none⟩)), (vP (some ⟨r.c, 0, none⟩))] :: cl r.c 58 [(vP (some ⟨r.fl, 0, none⟩)), (Value.func (.func 16) #[] #[])] :: cl r.fl 74 [(vS r.fa 0 r.fc)] :: F) ∧ Same w w1__) ?_ ?_
     ·rintro _ w447_ ⟨h, rfl, H448_, S449_⟩
      refine A_ready (i := 7) (rs := [11]) (by kernel_rfl) ?_
      refine AllR.cons ?_ ?_
      ·skip
       have H454_ := ((Holds.bring (Holds.bring (Holds.bring (Holds.bring H448_ 6 rfl) 6 rfl) 2 rfl) 3 rfl) :)
       refine A_op (ls' := #[true, true, true, true, true, true, true, true, false, false, false, false, false, false]) rfl (by kernel_rfl) (T_call (al := [(vP (some ⟨t.a, 0, none⟩)), (vI .i64 ((r.d - 1 : Nat) : Int))]) (pre := [btp r.c t, cl r.c 58 [(vP (some ⟨r.fl, 0, none⟩)), (Value.func (.func 16) #[] #[])], cl r.fl 74 [(vS r.fa 0 r.fc)]]) rfl rfl cb37 (btSplit R r.c r.fl r.fc r.fa z t (r.d - 1) m_ (hw) (hm_) (hnx)) H454_ ?_)
       rintro v450_ p458_ w455_ ⟨k1451_, k2452_, rfl, rfl, he453_⟩ S457_ H456_
       have S459_ := Same.trans S449_ S457_
       refine ⟨⟨Holds.rd H456_ 5 rfl, Holds.rd H456_ 6 rfl, Holds.rd H456_ 7 rfl, Holds.rd H456_ 3 rfl, Holds.rd H456_ 4 rfl, (Holds.ro_at H456_ 0 rfl)⟩, ?_⟩
       have hq460_ := And.intro (Holds.rd H456_ 5 rfl) (And.intro (Holds.rd H456_ 6 rfl) (And.intro (Holds.rd H456_ 7 rfl) (And.intro (Holds.rd H456_ 3 rfl) (And.intro (Holds.rd H456_ 4 rfl) ((Holds.ro_at H456_ 0 rfl))))))
       refine A_tk 8 (v := (vT #[(vA #[(vI .i64 m_.key), (vI .i64 m_.val)]), (vP (some ⟨k2452_.a, 0, none⟩))])) rfl (by kernel_rfl) (fun w hS => x_move rfl) hq460_ ?_
       refine A_tk 9 (v := (vA #[(vI .i64 m_.key), (vI .i64 m_.val)])) rfl (by kernel_rfl) (fun w hS => by kernel_rfl) hq460_ ?_
       refine A_tk 10 (v := (vP (some ⟨k2452_.a, 0, none⟩))) rfl (by kernel_rfl) (fun w hS => by kernel_rfl) hq460_ ?_
       exact hJ114 _ _ ⟨k1451_, k2452_, _, congrArg (fun e => mkA 148 e []) (ch (ch (ch (ch (ch (ch rfl rfl) rfl) rfl) rfl) rfl) rfl), H456_, S459_, he453_⟩
      refine AllR.cons ?_ AllR.nil
      refine A_op (ls' := #[true, true, true, true, true, true, true, false, false, false, false, true, false, false]) rfl (by kernel_rfl) (T_alloc z24 H448_ ?_)
      intro b461_ w462_ S464_ H463_
      have S465_ := Same.trans S449_ S464_
      refine ⟨⟨Holds.rd H463_ 3 rfl, Holds.rd H463_ 4 rfl, Holds.rd H463_ 5 rfl, Holds.rd H463_ 6 rfl, Holds.rd H463_ 7 rfl, (Holds.ro_at H463_ 2 rfl)⟩, ?_⟩
      exact hJ116 _ _ ⟨b461_, _, congrArg (fun e => mkA 148 e []) (ch (ch (ch (ch (ch (ch (ch rfl rfl) rfl) rfl) rfl) rfl) rfl) rfl), H463_, S465_⟩
     intro hJ113
     refine A_cut #[true, true, true, true, true, false, false, false, false, false, false, true, false, false] 8 (fun a__ w1__ => ∃ b104_ : Nat, ∃ h : Env, a__ = mkA 148 (upd (upd (upd (upd (upd (upd (upd h 0 (vP (some ⟨r.tb, 0, none⟩))) 3 (vP (some ⟨b6_, 0, none⟩))) 4 (vP (some ⟨b11_, 0, none⟩))) 5 (vB false)) 6 (vP (some ⟨b104_, 0, none⟩))) 74 (vP (some ⟨t.a, 0, none⟩))) 75 (vP (some ⟨r.tb, 0, none⟩))) [] ∧ Holds w1__ (cl b104_ 24 [(vI .i64 0), (vI .i64 0)] :: btp r.c t :: ro R :: cl b11_ 24 [(vI .i64 0), (vI .i64 0)] :: cl b6_ 24 [(vI .i64 e.key), (vI .i64 e.val)] :: cl r.tb 62 [(vI .i64 (r.d : Int)), (vI .i64 (List.length t.el : Int)), (vP (some ⟨t.a, 0, none⟩)), (vP (some ⟨r.c, 0, none⟩))] :: cl r.c 58 [(vP (some ⟨r.fl, 0, none⟩)), (Value.func (.func 16) #[] #[])] :: cl r.fl 74 [(vS r.fa 0 r.fc)] :: F) ∧ Same w w1__) ?_ ?_
     ·rintro _ w466_ ⟨b104_, h, rfl, H467_, S468_⟩
      refine A_ready (i := 5) (rs := []) (by kernel_rfl) ?_
      refine AllR.cons ?_ AllR.nil
      refine A_op (ls' := #[true, true, true, true, true, true, false, false, false, false, false, true, false, false]) rfl (by kernel_rfl) (T_callW (al := [(vP (some ⟨r.tb, 0, none⟩))]) rfl rfl cb36 (Calls.into (n := 9) func36 rfl ntmps36 rfl rfl ?_))
      refine cR fun _ hK469_ => ?_
      refine sv (v := (vI .i64 0)) (x_assign rfl) ?_
      refine wn (hK469_ _ _ ?_)
      refine cR fun _ hK470_ => ?_
      refine sm (vP (some ⟨r.tb, 0, none⟩)) ?_
      refine sv (v := (vP (some ⟨r.tb, 0, none⟩))) (by kernel_rfl) ?_
      refine sv (v := (vP (some ⟨r.tb, 0, none⟩))) (by kernel_rfl) ?_
      refine sv (v := (vI .i64 (r.d : Int))) (x_load1 rfl underlying3 rfl ((Holds.rd H467_ 5 rfl) 0 (vI .i64 (r.d : Int)) rfl)) ?_
      refine sv (v := (vI .i64 ((r.d : Int) * 2))) (x_bin rfl rfl (ib_mul (IntWalk.i64_in _ (by omega)))) ?_
      refine sv (v := (vI .i64 (((r.d : Int) * 2) - 1))) (x_bin rfl rfl (ib_sub (IntWalk.i64_in _ (by omega)))) ?_
      refine sv (v := (vI .i64 (((r.d : Int) * 2) - 1))) (x_assign rfl) ?_
      refine wn (hK470_ _ _ ?_)
      refine C_ret ?_
      refine R_any (v := (vI .i64 (((r.d : Int) * 2) - 1))) (run_results1 rfl rfl) ⟨_, rfl, ?_⟩
      refine ⟨⟨Holds.rd H467_ 3 rfl, Holds.rd H467_ 4 rfl, Holds.rd H467_ 5 rfl, Holds.rd H467_ 6 rfl, Holds.rd H467_ 7 rfl, (Holds.ro_at H467_ 2 rfl)⟩, ?_⟩
      have hq471_ := And.intro (Holds.rd H467_ 3 rfl) (And.intro (Holds.rd H467_ 4 rfl) (And.intro (Holds.rd H467_ 5 rfl) (And.intro (Holds.rd H467_ 6 rfl) (And.intro (Holds.rd H467_ 7 rfl) ((Holds.ro_at H467_ 2 rfl))))))
      refine A_tk 6 (v := (vI .i64 ((r.d - 1 : Nat) : Int))) rfl (by kernel_rfl) (fun w hS => x_bin rfl rfl (ib_quoN (x := r.d * 2 - 1) (y := 2) (by omega) rfl (by decide) (by omega) (by omega))) hq471_ ?_
      exact hJ116 _ _ ⟨b104_, _, congrArg (fun e => mkA 148 e []) (ch (ch (ch (ch (ch (ch (ch rfl rfl) rfl) rfl) rfl) rfl) rfl) rfl), H467_, S468_⟩
     intro hJ117
     have hq472_ := And.intro (Holds.rd H63_ 2 rfl) (And.intro (Holds.rd H63_ 3 rfl) (And.intro (Holds.rd H63_ 4 rfl) (And.intro (Holds.rd H63_ 5 rfl) (And.intro (Holds.rd H63_ 6 rfl) ((Holds.ro_at H63_ 1 rfl))))))
     refine A_tk 0 (v := (vP (some ⟨r.tb, 0, none⟩))) rfl (by kernel_rfl) (fun w hS => x_move rfl) hq472_ ?_
     refine A_tk 1 (v := (vP (some ⟨r.tb, 0, none⟩))) rfl (by kernel_rfl) (fun w hS => by kernel_rfl) hq472_ ?_
     refine A_tk 2 (v := (vP (some ⟨r.tb, 2, none⟩))) rfl (by kernel_rfl) (fun w hS => by kernel_rfl) hq472_ ?_
     refine A_tk 3 (v := (vP (some ⟨t.a, 0, none⟩))) rfl (by kernel_rfl) (fun w hS => x_load1 rfl underlying59 rfl (hS.2.2.1 2 (vP (some ⟨t.a, 0, none⟩)) rfl)) hq472_ ?_
     refine A_tk 4 (v := (vP (some ⟨r.tb, 0, none⟩))) rfl (by kernel_rfl) (fun w hS => x_move rfl) hq472_ ?_
     refine A_ready (i := 5) (rs := [11]) (by kernel_rfl) ?_
     refine AllR.cons ?_ ?_
     ·skip
      refine A_op (ls' := #[true, true, true, true, true, true, false, false, false, false, false, false, false, false]) rfl (by kernel_rfl) (T_callW (al := [(vP (some ⟨r.tb, 0, none⟩))]) rfl rfl cb36 (Calls.into (n := 9) func36 rfl ntmps36 rfl rfl ?_))
      refine cR fun _ hK473_ => ?_
      refine sv (v := (vI .i64 0)) (x_assign rfl) ?_
      refine wn (hK473_ _ _ ?_)
      refine cR fun _ hK474_ => ?_
      refine sm (vP (some ⟨r.tb, 0, none⟩)) ?_
      refine sv (v := (vP (some ⟨r.tb, 0, none⟩))) (by kernel_rfl) ?_
      refine sv (v := (vP (some ⟨r.tb, 0, none⟩))) (by kernel_rfl) ?_
      refine sv (v := (vI .i64 (r.d : Int))) (x_load1 rfl underlying3 rfl ((Holds.rd H63_ 4 rfl) 0 (vI .i64 (r.d : Int)) rfl)) ?_
      refine sv (v := (vI .i64 ((r.d : Int) * 2))) (x_bin rfl rfl (ib_mul (IntWalk.i64_in _ (by omega)))) ?_
      refine sv (v := (vI .i64 (((r.d : Int) * 2) - 1))) (x_bin rfl rfl (ib_sub (IntWalk.i64_in _ (by omega)))) ?_
      refine sv (v := (vI .i64 (((r.d : Int) * 2) - 1))) (x_assign rfl) ?_
      refine wn (hK474_ _ _ ?_)
      refine C_ret ?_
      refine R_any (v := (vI .i64 (((r.d : Int) * 2) - 1))) (run_results1 rfl rfl) ⟨_, rfl, ?_⟩
      refine ⟨⟨Holds.rd H63_ 2 rfl, Holds.rd H63_ 3 rfl, Holds.rd H63_ 4 rfl, Holds.rd H63_ 5 rfl, Holds.rd H63_ 6 rfl, (Holds.ro_at H63_ 1 rfl)⟩, ?_⟩
      refine A_tk 6 (v := (vI .i64 ((r.d - 1 : Nat) : Int))) rfl (by kernel_rfl) (fun w hS => x_bin rfl rfl (ib_quoN (x := r.d * 2 - 1) (y := 2) (by omega) rfl (by decide) (by omega) (by omega))) hq472_ ?_
      exact hJ113 _ _ ⟨_, congrArg (fun e => mkA 148 e []) (ch (ch (ch (ch (ch (ch rfl rfl) rfl) rfl) rfl) rfl) rfl), H63_, (Same.trans S55_ (Same.drew _))⟩
     refine AllR.cons ?_ AllR.nil
     refine A_op (ls' := #[true, true, true, true, true, false, false, false, false, false, false, true, false, false]) rfl (by kernel_rfl) (T_alloc z24 H63_ ?_)
     intro b475_ w476_ S478_ H477_
     have S479_ := Same.trans (Same.trans S55_ (Same.drew _)) S478_
     refine ⟨⟨Holds.rd H477_ 3 rfl, Holds.rd H477_ 4 rfl, Holds.rd H477_ 5 rfl, Holds.rd H477_ 6 rfl, Holds.rd H477_ 7 rfl, (Holds.ro_at H477_ 2 rfl)⟩, ?_⟩
     exact hJ117 _ _ ⟨b475_, _, congrArg (fun e => mkA 148 e []) (ch (ch (ch (ch (ch (ch (ch rfl rfl) rfl) rfl) rfl) rfl) rfl) rfl), H477_, S479_⟩
   ·have c59_fp : ¬ (((r.d : Int) * 2) - 1 ≤ ((List.length t.n.xs) : Int)) := of_decide_eq_false c59_f
    refine C_skip (X_then (hK42_ _ _ ?_))
    refine C_seq (fun _ hK480_ => ?_)
    ·skip
     have H481_ := ((Holds.bring (Holds.bring (Holds.bring H54_ 5 rfl) 5 rfl) 3 rfl) :)
     have H482_ := Holds.bt_in (k := t) H481_
     refine A_start (S := fun w => Rd b11_ [(vI .i64 0), (vI .i64 0)] w ∧ Rd b6_ [(vI .i64 e.key), (vI .i64 e.val)] w ∧ Rd r.tb [(vI .i64 (r.d : Int)), (vI .i64 (List.length t.el : Int)), (vP (some ⟨t.a, 0, none⟩)), (vP (some ⟨r.c, 0, none⟩))] w ∧ Rd r.c [(vP (some ⟨r.fl, 0, none⟩)), (Value.func (.func 16) #[] #[])] w ∧ Rd r.fl [(vS r.fa 0 r.fc)] w ∧ Sub R (hp w)) (N := 14) foll rfl rfl ?_
     have H483_ := Holds.drew_ H482_
     refine A_cut #[true, true, true, true, true, true, true, true, true, true, true, true, false, false] 2 (fun a__ w1__ => ∃ t488_ : BT z, ∃ o489_ : EL, ∃ b490_ : Bool, ∃ b499_ : Nat, ∃ h : Env, a__ = mkA 148 (upd (upd (upd (upd (upd (upd h 0 (vP (some ⟨r.tb, 0, none⟩))) 4 (vP (some ⟨b11_, 0, none⟩))) 5 (vB false)) 9 (vP (some ⟨b499_, 0, none⟩))) 135 (vA #[(vI .i64 o489_.key), (vI .i64 o489_.val)])) 136 (vB b490_)) [] ∧ Holds w1__ (cl b499_ 24 [(vI .i64 0), (vI .i64 0)] :: ro R :: btp r.c t488_ :: cl r.c 58 [(vP (some ⟨r.fl, 0, none⟩)), (Value.func (.func 16) #[] #[])] :: cl r.fl 74 [(vS r.fa 0 r.fc)] :: cl b11_ 24 [(vI .i64 0), (vI .i64 0)] :: cl b6_ 24 [(vI .i64 e.key), (vI .i64 e.val)] :: cl r.tb 62 [(vI .i64 (r.d : Int)), (vI .i64 (List.length t.el : Int)), (vP (some ⟨t.a, 0, none⟩)), (vP (some ⟨r.c, 0, none⟩))] :: F) ∧ Same w w1__ ∧ (Ins e t t488_ o489_ b490_)) ?_ ?_
     ·rintro _ w539_ ⟨t488_, o489_, b490_, b499_, h, rfl, H540_, S541_, he491_⟩
      refine A_ready (i := 12) (rs := []) (by kernel_rfl) ?_
      refine AllR.cons ?_ AllR.nil
      refine A_op0 (ls' := #[true, true, true, true, true, true, true, true, true, true, true, true, true, false]) rfl (by kernel_rfl) (T_storeN (vs := [(vI .i64 o489_.key), (vI .i64 o489_.val)]) rfl rfl z24 rfl (by simp [Value.oneCell']) H540_ 0 rfl (Nat.le_of_ble_eq_true (by rfl)) ?_)
      intro w542_ S544_ H543_
      have S545_ := Same.trans S541_ S544_
      refine ⟨⟨Holds.rd H543_ 5 rfl, Holds.rd H543_ 6 rfl, Holds.rd H543_ 7 rfl, Holds.rd H543_ 3 rfl, Holds.rd H543_ 4 rfl, (Holds.ro_at H543_ 1 rfl)⟩, ?_⟩
      have hq546_ := And.intro (Holds.rd H543_ 5 rfl) (And.intro (Holds.rd H543_ 6 rfl) (And.intro (Holds.rd H543_ 7 rfl) (And.intro (Holds.rd H543_ 3 rfl) (And.intro (Holds.rd H543_ 4 rfl) ((Holds.ro_at H543_ 1 rfl))))))
      refine A_tk 13 (v := (vB b490_)) rfl (by kernel_rfl) (fun w hS => x_assign rfl) hq546_ ?_
      refine A_done (by kernel_rfl) ?_
      refine (X_then (hK480_ _ _ ?_))
      refine C_seq (fun _ hK547_ => ?_)
      refine cR fun _ hK548_ => ?_
      refine sm (vB b490_) ?_
      refine sv (v := (vB (!b490_))) (x_not rfl) ?_
      refine wn (hK548_ _ _ ?_)
      refine C_cond (b := !b490_) rfl (fun c549_t => ?_) (fun c549_f => ?_)
      ·skip
       refine C_reg ?_
       refine sm (vP (some ⟨r.tb, 0, none⟩)) ?_
       refine sv (v := (vP (some ⟨r.tb, 0, none⟩))) (by kernel_rfl) ?_
       refine sv (v := (vP (some ⟨r.tb, 1, none⟩))) (by kernel_rfl) ?_
       refine sv (v := (vI .i64 (List.length t.el : Int))) (x_load1 rfl underlying3 rfl ((Holds.rd H543_ 7 rfl) 1 (vI .i64 (List.length t.el : Int)) rfl)) ?_
       refine sv (v := (vI .i64 ((List.length t.el : Int) + 1))) (x_bin rfl rfl (ib_add (IntWalk.i64_in _ (by omega)))) ?_
       refine sv (v := (vP (some ⟨r.tb, 0, none⟩))) (by kernel_rfl) ?_
       refine sv (v := (vP (some ⟨r.tb, 1, none⟩))) (by kernel_rfl) ?_
       refine S_list0 (T_store1 (v := (vI .i64 ((List.length t.el : Int) + 1))) rfl rfl z3 rfl H543_ 7 rfl (Nat.le_of_ble_eq_true (by rfl)) ?_)
       intro w550_ S552_ H551_
       have S553_ := Same.trans S545_ S552_
       refine wn (hK547_ _ _ ?_)
       refine cR fun _ hK554_ => ?_
       refine sv (v := (vA #[(vI .i64 o489_.key), (vI .i64 o489_.val)])) (x_loadN (vs := [(vI .i64 o489_.key), (vI .i64 o489_.val)]) rfl underlying24 rfl z24 rfl (Rd.cells (Holds.rd H551_ 0 rfl) 0 rfl)) ?_
       refine sm (vB b490_) ?_
       refine S_list0 (T_storeN (vs := [(vI .i64 o489_.key), (vI .i64 o489_.val)]) rfl rfl z24 rfl (by simp [Value.oneCell']) H551_ 5 rfl (Nat.le_of_ble_eq_true (by rfl)) ?_)
       intro w555_ S557_ H556_
       have S558_ := Same.trans S553_ S557_
       refine sv (v := (vB b490_)) (x_assign rfl) ?_
       refine wn (hK554_ _ _ ?_)
       refine C_ret ?_
       refine R_any (v := (vT #[(vA #[(vI .i64 o489_.key), (vI .i64 o489_.val)]), (vB b490_)])) (run_results2 rfl ⟨_, rfl, load_resN underlying24 rfl z24 rfl (vs := [(vI .i64 o489_.key), (vI .i64 o489_.val)]) (Holds.cl_cells H556_ 5 rfl 0 rfl)⟩ rfl) ?_
       have hel_ : BT.el t488_ = insE e t.el := he491_.el
       have htd_ : Told e t.el o489_ b490_ := he491_.t
       have hlq_ := told_len hs htd_
       rw [show b490_ = false by simpa using c549_t] at hlq_
       rw [← hel_] at hlq_
       have hap_ : t.a = BT.a t488_ := he491_.a.symm
       have H559_ := Holds.recl H556_ 7 rfl ((lcons rfl (lcons (congrArg (vI .i64) (by simp at hlq_; omega)) (lcons (congrArg (fun x__ => vP (some ⟨x__, 0, none⟩)) hap_) rfl))) : [(vI .i64 (r.d : Int)), (vI .i64 ((List.length t.el : Int) + 1)), (vP (some ⟨t.a, 0, none⟩)), (vP (some ⟨r.c, 0, none⟩))] = [(vI .i64 (r.d : Int)), (vI .i64 (List.length (BT.el t488_) : Int)), (vP (some ⟨(BT.a t488_), 0, none⟩)), (vP (some ⟨r.c, 0, none⟩))])
       have H560_ := ((Holds.bring (Holds.bring (Holds.bring (Holds.bring H559_ 2 rfl) 4 rfl) 4 rfl) 7 rfl) :)
       have H561_ := Holds.t1_in (t := t488_) H560_
       have H562_ := Holds.pkF H561_ [2, 0] 3
       exact ⟨_, _, rfl, ⟨(some ⟨z, t488_⟩), o489_, b490_, rfl, rfl, (⟨he491_.w, by rw [hel_]; exact insE_srt hs⟩), (hel_), (htd_)⟩, S558_, H562_⟩
      ·skip
       refine C_skip (X_then (hK547_ _ _ ?_))
       refine cR fun _ hK563_ => ?_
       refine sv (v := (vA #[(vI .i64 o489_.key), (vI .i64 o489_.val)])) (x_loadN (vs := [(vI .i64 o489_.key), (vI .i64 o489_.val)]) rfl underlying24 rfl z24 rfl (Rd.cells (Holds.rd H543_ 0 rfl) 0 rfl)) ?_
       refine sm (vB b490_) ?_
       refine S_list0 (T_storeN (vs := [(vI .i64 o489_.key), (vI .i64 o489_.val)]) rfl rfl z24 rfl (by simp [Value.oneCell']) H543_ 5 rfl (Nat.le_of_ble_eq_true (by rfl)) ?_)
       intro w564_ S566_ H565_
       have S567_ := Same.trans S545_ S566_
       refine sv (v := (vB b490_)) (x_assign rfl) ?_
       refine wn (hK563_ _ _ ?_)
       refine C_ret ?_
       refine R_any (v := (vT #[(vA #[(vI .i64 o489_.key), (vI .i64 o489_.val)]), (vB b490_)])) (run_results2 rfl ⟨_, rfl, load_resN underlying24 rfl z24 rfl (vs := [(vI .i64 o489_.key), (vI .i64 o489_.val)]) (Holds.cl_cells H565_ 5 rfl 0 rfl)⟩ rfl) ?_
       have hel_ : BT.el t488_ = insE e t.el := he491_.el
       have htd_ : Told e t.el o489_ b490_ := he491_.t
       have hlq_ := told_len hs htd_
       rw [show b490_ = true by simpa using c549_f] at hlq_
       rw [← hel_] at hlq_
       have hap_ : t.a = BT.a t488_ := he491_.a.symm
       have H568_ := Holds.recl H565_ 7 rfl ((lcons rfl (lcons (congrArg (vI .i64) (by simp at hlq_; omega)) (lcons (congrArg (fun x__ => vP (some ⟨x__, 0, none⟩)) hap_) rfl))) : [(vI .i64 (r.d : Int)), (vI .i64 (List.length t.el : Int)), (vP (some ⟨t.a, 0, none⟩)), (vP (some ⟨r.c, 0, none⟩))] = [(vI .i64 (r.d : Int)), (vI .i64 (List.length (BT.el t488_) : Int)), (vP (some ⟨(BT.a t488_), 0, none⟩)), (vP (some ⟨r.c, 0, none⟩))])
       have H569_ := ((Holds.bring (Holds.bring (Holds.bring (Holds.bring H568_ 2 rfl) 4 rfl) 4 rfl) 7 rfl) :)
       have H570_ := Holds.t1_in (t := t488_) H569_
       have H571_ := Holds.pkF H570_ [2, 0] 3
       exact ⟨_, _, rfl, ⟨(some ⟨z, t488_⟩), o489_, b490_, rfl, rfl, (⟨he491_.w, by rw [hel_]; exact insE_srt hs⟩), (hel_), (htd_)⟩, S567_, H571_⟩
     intro hJ536
     refine A_cut #[true, true, true, true, true, true, true, true, true, true, true, false, false, false] 3 (fun a__ w1__ => ∃ t488_ : BT z, ∃ o489_ : EL, ∃ b490_ : Bool, ∃ h : Env, a__ = mkA 148 (upd (upd (upd (upd (upd h 0 (vP (some ⟨r.tb, 0, none⟩))) 4 (vP (some ⟨b11_, 0, none⟩))) 5 (vB false)) 135 (vA #[(vI .i64 o489_.key), (vI .i64 o489_.val)])) 136 (vB b490_)) [] ∧ Holds w1__ (ro R :: btp r.c t488_ :: cl r.c 58 [(vP (some ⟨r.fl, 0, none⟩)), (Value.func (.func 16) #[] #[])] :: cl r.fl 74 [(vS r.fa 0 r.fc)] :: cl b11_ 24 [(vI .i64 0), (vI .i64 0)] :: cl b6_ 24 [(vI .i64 e.key), (vI .i64 e.val)] :: cl r.tb 62 [(vI .i64 (r.d : Int)), (vI .i64 (List.length t.el : Int)), (vP (some ⟨t.a, 0, none⟩)), (vP (some ⟨r.c, 0, none⟩))] :: F) ∧ Same w w1__ ∧ (Ins e t t488_ o489_ b490_)) ?_ ?_
     ·rintro _ w572_ ⟨t488_, o489_, b490_, h, rfl, H573_, S574_, he491_⟩
      refine A_ready (i := 11) (rs := []) (by kernel_rfl) ?_
      refine AllR.cons ?_ AllR.nil
      refine A_op (ls' := #[true, true, true, true, true, true, true, true, true, true, true, true, false, false]) rfl (by kernel_rfl) (T_alloc z24 H573_ ?_)
      intro b575_ w576_ S578_ H577_
      have S579_ := Same.trans S574_ S578_
      refine ⟨⟨Holds.rd H577_ 5 rfl, Holds.rd H577_ 6 rfl, Holds.rd H577_ 7 rfl, Holds.rd H577_ 3 rfl, Holds.rd H577_ 4 rfl, (Holds.ro_at H577_ 1 rfl)⟩, ?_⟩
      exact hJ536 _ _ ⟨t488_, o489_, b490_, b575_, _, congrArg (fun e => mkA 148 e []) (ch (ch (ch (ch (ch (ch rfl rfl) rfl) rfl) rfl) rfl) rfl), H577_, S579_, he491_⟩
     intro hJ535
     refine A_cut #[true, true, true, true, true, true, true, false, false, false, false, true, false, false] 6 (fun a__ w1__ => ∃ b509_ : Nat, ∃ h : Env, a__ = mkA 148 (upd (upd (upd (upd (upd (upd (upd h 0 (vP (some ⟨r.tb, 0, none⟩))) 4 (vP (some ⟨b11_, 0, none⟩))) 5 (vB false)) 9 (vP (some ⟨b509_, 0, none⟩))) 130 (vP (some ⟨t.a, 0, none⟩))) 131 (vA #[(vI .i64 e.key), (vI .i64 e.val)])) 133 (vI .i64 (((r.d : Int) * 2) - 1))) [] ∧ Holds w1__ (cl b509_ 24 [(vI .i64 0), (vI .i64 0)] :: btp r.c t :: ro R :: cl b11_ 24 [(vI .i64 0), (vI .i64 0)] :: cl b6_ 24 [(vI .i64 e.key), (vI .i64 e.val)] :: cl r.tb 62 [(vI .i64 (r.d : Int)), (vI .i64 (List.length t.el : Int)), (vP (some ⟨t.a, 0, none⟩)), (vP (some ⟨r.c, 0, none⟩))] :: cl r.c 58 [(vP (some ⟨r.fl, 0, none⟩)), (Value.func (.func 16) #[] #[])] :: cl r.fl 74 [(vS r.fa 0 r.fc)] :: F) ∧ Same w w1__) ?_ ?_
     ·rintro _ w580_ ⟨b509_, h, rfl, H581_, S582_⟩
      refine A_ready (i := 7) (rs := []) (by kernel_rfl) ?_
      refine AllR.cons ?_ AllR.nil
      have H588_ := ((Holds.bring (Holds.bring (Holds.bring (Holds.bring H581_ 7 rfl) 7 rfl) 3 rfl) 4 rfl) :)
      refine A_op (ls' := #[true, true, true, true, true, true, true, true, false, false, false, true, false, false]) rfl (by kernel_rfl) (T_call (al := [(vP (some ⟨t.a, 0, none⟩)), (vA #[(vI .i64 e.key), (vI .i64 e.val)]), (vI .i64 ((r.d * 2 - 1 : Nat) : Int))]) (pre := [btp r.c t, cl r.c 58 [(vP (some ⟨r.fl, 0, none⟩)), (Value.func (.func 16) #[] #[])], cl r.fl 74 [(vS r.fa 0 r.fc)]]) rfl (lcons rfl (lcons rfl (lcons (congrArg (vI .i64) ((by first | rfl | omega | (simp; done) | (simp; omega)) : ((r.d : Int) * 2) - 1 = ((r.d * 2 - 1 : Nat) : Int))) rfl))) cb38 (btIns R r.c r.fl r.fc r.fa z t e (r.d * 2 - 1) (hw) (hs) (Nat.le_trans hn (by decide)) (by omega)) H588_ ?_)
      rintro v583_ p592_ w589_ ⟨t584_, o585_, b586_, rfl, rfl, he587_⟩ S591_ H590_
      have S593_ := Same.trans S582_ S591_
      refine ⟨⟨Holds.rd H590_ 5 rfl, Holds.rd H590_ 6 rfl, Holds.rd H590_ 7 rfl, Holds.rd H590_ 2 rfl, Holds.rd H590_ 3 rfl, (Holds.ro_at H590_ 0 rfl)⟩, ?_⟩
      have hq594_ := And.intro (Holds.rd H590_ 5 rfl) (And.intro (Holds.rd H590_ 6 rfl) (And.intro (Holds.rd H590_ 7 rfl) (And.intro (Holds.rd H590_ 2 rfl) (And.intro (Holds.rd H590_ 3 rfl) ((Holds.ro_at H590_ 0 rfl))))))
      refine A_tk 8 (v := (vT #[(vA #[(vI .i64 o585_.key), (vI .i64 o585_.val)]), (vB b586_)])) rfl (by kernel_rfl) (fun w hS => x_move rfl) hq594_ ?_
      refine A_tk 9 (v := (vA #[(vI .i64 o585_.key), (vI .i64 o585_.val)])) rfl (by kernel_rfl) (fun w hS => by kernel_rfl) hq594_ ?_
      refine A_tk 10 (v := (vB b586_)) rfl (by kernel_rfl) (fun w hS => by kernel_rfl) hq594_ ?_
      have H595_ := Holds.pkF H590_ [4, 0, 0, 0, 0, 0, 0, 0] 0
      exact hJ536 _ _ ⟨t584_, o585_, b586_, b509_, _, congrArg (fun e => mkA 148 e []) (ch (ch (ch (ch (ch (ch rfl rfl) rfl) rfl) rfl) rfl) rfl), H595_, S593_, he587_⟩
     intro hJ537
     refine A_cut #[true, true, true, true, true, true, true, false, false, false, false, false, false, false] 7 (fun a__ w1__ => ∃ h : Env, a__ = mkA 148 (upd (upd (upd (upd (upd (upd h 0 (vP (some ⟨r.tb, 0, none⟩))) 4 (vP (some ⟨b11_, 0, none⟩))) 5 (vB false)) 130 (vP (some ⟨t.a, 0, none⟩))) 131 (vA #[(vI .i64 e.key), (vI .i64 e.val)])) 133 (vI .i64 (((r.d : Int) * 2) - 1))) [] ∧ Holds w1__ (btp r.c t :: ro R :: cl b11_ 24 [(vI .i64 0), (vI .i64 0)] :: cl b6_ 24 [(vI .i64 e.key), (vI .i64 e.val)] :: cl r.tb 62 [(vI .i64 (r.d : Int)), (vI .i64 (List.length t.el : Int)), (vP (some ⟨t.a, 0, none⟩)), (vP (some ⟨r.c, 0, none⟩))] :: cl r.c 58 [(vP (some ⟨r.fl, 0, none⟩)), (Value.func (.func 16) #[] #[])] :: cl r.fl 74 [(vS r.fa 0 r.fc)] :: F) ∧ Same w w1__) ?_ ?_
     ·rintro _ w596_ ⟨h, rfl, H597_, S598_⟩
      refine A_ready (i := 7) (rs := [11]) (by kernel_rfl) ?_
      refine AllR.cons ?_ ?_
      ·skip
       have H604_ := ((Holds.bring (Holds.bring (Holds.bring (Holds.bring H597_ 6 rfl) 6 rfl) 2 rfl) 3 rfl) :)
       refine A_op (ls' := #[true, true, true, true, true, true, true, true, false, false, false, false, false, false]) rfl (by kernel_rfl) (T_call (al := [(vP (some ⟨t.a, 0, none⟩)), (vA #[(vI .i64 e.key), (vI .i64 e.val)]), (vI .i64 ((r.d * 2 - 1 : Nat) : Int))]) (pre := [btp r.c t, cl r.c 58 [(vP (some ⟨r.fl, 0, none⟩)), (Value.func (.func 16) #[] #[])], cl r.fl 74 [(vS r.fa 0 r.fc)]]) rfl (lcons rfl (lcons rfl (lcons (congrArg (vI .i64) ((by first | rfl | omega | (simp; done) | (simp; omega)) : ((r.d : Int) * 2) - 1 = ((r.d * 2 - 1 : Nat) : Int))) rfl))) cb38 (btIns R r.c r.fl r.fc r.fa z t e (r.d * 2 - 1) (hw) (hs) (Nat.le_trans hn (by decide)) (by omega)) H604_ ?_)
       rintro v599_ p608_ w605_ ⟨t600_, o601_, b602_, rfl, rfl, he603_⟩ S607_ H606_
       have S609_ := Same.trans S598_ S607_
       refine ⟨⟨Holds.rd H606_ 4 rfl, Holds.rd H606_ 5 rfl, Holds.rd H606_ 6 rfl, Holds.rd H606_ 2 rfl, Holds.rd H606_ 3 rfl, (Holds.ro_at H606_ 0 rfl)⟩, ?_⟩
       have hq610_ := And.intro (Holds.rd H606_ 4 rfl) (And.intro (Holds.rd H606_ 5 rfl) (And.intro (Holds.rd H606_ 6 rfl) (And.intro (Holds.rd H606_ 2 rfl) (And.intro (Holds.rd H606_ 3 rfl) ((Holds.ro_at H606_ 0 rfl))))))
       refine A_tk 8 (v := (vT #[(vA #[(vI .i64 o601_.key), (vI .i64 o601_.val)]), (vB b602_)])) rfl (by kernel_rfl) (fun w hS => x_move rfl) hq610_ ?_
       refine A_tk 9 (v := (vA #[(vI .i64 o601_.key), (vI .i64 o601_.val)])) rfl (by kernel_rfl) (fun w hS => by kernel_rfl) hq610_ ?_
       refine A_tk 10 (v := (vB b602_)) rfl (by kernel_rfl) (fun w hS => by kernel_rfl) hq610_ ?_
       exact hJ535 _ _ ⟨t600_, o601_, b602_, _, congrArg (fun e => mkA 148 e []) (ch (ch (ch (ch (ch rfl rfl) rfl) rfl) rfl) rfl), H606_, S609_, he603_⟩
      refine AllR.cons ?_ AllR.nil
      refine A_op (ls' := #[true, true, true, true, true, true, true, false, false, false, false, true, false, false]) rfl (by kernel_rfl) (T_alloc z24 H597_ ?_)
      intro b611_ w612_ S614_ H613_
      have S615_ := Same.trans S598_ S614_
      refine ⟨⟨Holds.rd H613_ 3 rfl, Holds.rd H613_ 4 rfl, Holds.rd H613_ 5 rfl, Holds.rd H613_ 6 rfl, Holds.rd H613_ 7 rfl, (Holds.ro_at H613_ 2 rfl)⟩, ?_⟩
      exact hJ537 _ _ ⟨b611_, _, congrArg (fun e => mkA 148 e []) (ch (ch (ch (ch (ch (ch (ch rfl rfl) rfl) rfl) rfl) rfl) rfl) rfl), H613_, S615_⟩
     intro hJ534
     refine A_cut #[true, true, true, true, true, true, false, false, false, false, false, true, false, false] 7 (fun a__ w1__ => ∃ b526_ : Nat, ∃ h : Env, a__ = mkA 148 (upd (upd (upd (upd (upd (upd (upd h 0 (vP (some ⟨r.tb, 0, none⟩))) 4 (vP (some ⟨b11_, 0, none⟩))) 5 (vB false)) 9 (vP (some ⟨b526_, 0, none⟩))) 130 (vP (some ⟨t.a, 0, none⟩))) 131 (vA #[(vI .i64 e.key), (vI .i64 e.val)])) 132 (vP (some ⟨r.tb, 0, none⟩))) [] ∧ Holds w1__ (cl b526_ 24 [(vI .i64 0), (vI .i64 0)] :: btp r.c t :: ro R :: cl b11_ 24 [(vI .i64 0), (vI .i64 0)] :: cl b6_ 24 [(vI .i64 e.key), (vI .i64 e.val)] :: cl r.tb 62 [(vI .i64 (r.d : Int)), (vI .i64 (List.length t.el : Int)), (vP (some ⟨t.a, 0, none⟩)), (vP (some ⟨r.c, 0, none⟩))] :: cl r.c 58 [(vP (some ⟨r.fl, 0, none⟩)), (Value.func (.func 16) #[] #[])] :: cl r.fl 74 [(vS r.fa 0 r.fc)] :: F) ∧ Same w w1__) ?_ ?_
     ·rintro _ w616_ ⟨b526_, h, rfl, H617_, S618_⟩
      refine A_ready (i := 6) (rs := []) (by kernel_rfl) ?_
      refine AllR.cons ?_ AllR.nil
      refine A_op (ls' := #[true, true, true, true, true, true, true, false, false, false, false, true, false, false]) rfl (by kernel_rfl) (T_callW (al := [(vP (some ⟨r.tb, 0, none⟩))]) rfl rfl cb36 (Calls.into (n := 9) func36 rfl ntmps36 rfl rfl ?_))
      refine cR fun _ hK619_ => ?_
      refine sv (v := (vI .i64 0)) (x_assign rfl) ?_
      refine wn (hK619_ _ _ ?_)
      refine cR fun _ hK620_ => ?_
      refine sm (vP (some ⟨r.tb, 0, none⟩)) ?_
      refine sv (v := (vP (some ⟨r.tb, 0, none⟩))) (by kernel_rfl) ?_
      refine sv (v := (vP (some ⟨r.tb, 0, none⟩))) (by kernel_rfl) ?_
      refine sv (v := (vI .i64 (r.d : Int))) (x_load1 rfl underlying3 rfl ((Holds.rd H617_ 5 rfl) 0 (vI .i64 (r.d : Int)) rfl)) ?_
      refine sv (v := (vI .i64 ((r.d : Int) * 2))) (x_bin rfl rfl (ib_mul (IntWalk.i64_in _ (by omega)))) ?_
      refine sv (v := (vI .i64 (((r.d : Int) * 2) - 1))) (x_bin rfl rfl (ib_sub (IntWalk.i64_in _ (by omega)))) ?_
      refine sv (v := (vI .i64 (((r.d : Int) * 2) - 1))) (x_assign rfl) ?_
      refine wn (hK620_ _ _ ?_)
      refine C_ret ?_
      refine R_any (v := (vI .i64 (((r.d : Int) * 2) - 1))) (run_results1 rfl rfl) ⟨_, rfl, ?_⟩
      refine ⟨⟨Holds.rd H617_ 3 rfl, Holds.rd H617_ 4 rfl, Holds.rd H617_ 5 rfl, Holds.rd H617_ 6 rfl, Holds.rd H617_ 7 rfl, (Holds.ro_at H617_ 2 rfl)⟩, ?_⟩
      exact hJ537 _ _ ⟨b526_, _, congrArg (fun e => mkA 148 e []) (ch (ch (ch (ch (ch (ch (ch rfl rfl) rfl) rfl) rfl) rfl) rfl) rfl), H617_, S618_⟩
     intro hJ538
     have hq621_ := And.intro (Holds.rd H483_ 2 rfl) (And.intro (Holds.rd H483_ 3 rfl) (And.intro (Holds.rd H483_ 4 rfl) (And.intro (Holds.rd H483_ 5 rfl) (And.intro (Holds.rd H483_ 6 rfl) ((Holds.ro_at H483_ 1 rfl))))))
     refine A_tk 0 (v := (vP (some ⟨r.tb, 0, none⟩))) rfl (by kernel_rfl) (fun w hS => x_move rfl) hq621_ ?_
     refine A_tk 1 (v := (vP (some ⟨r.tb, 0, none⟩))) rfl (by kernel_rfl) (fun w hS => by kernel_rfl) hq621_ ?_
     refine A_tk 2 (v := (vP (some ⟨r.tb, 2, none⟩))) rfl (by kernel_rfl) (fun w hS => by kernel_rfl) hq621_ ?_
     refine A_tk 3 (v := (vP (some ⟨t.a, 0, none⟩))) rfl (by kernel_rfl) (fun w hS => x_load1 rfl underlying59 rfl (hS.2.2.1 2 (vP (some ⟨t.a, 0, none⟩)) rfl)) hq621_ ?_
     refine A_tk 4 (v := (vA #[(vI .i64 e.key), (vI .i64 e.val)])) rfl (by kernel_rfl) (fun w hS => x_loadN (vs := [(vI .i64 e.key), (vI .i64 e.val)]) rfl underlying24 rfl z24 rfl (Rd.cells hS.2.1 0 rfl)) hq621_ ?_
     refine A_tk 5 (v := (vP (some ⟨r.tb, 0, none⟩))) rfl (by kernel_rfl) (fun w hS => x_move rfl) hq621_ ?_
     refine A_ready (i := 6) (rs := [11]) (by kernel_rfl) ?_
     refine AllR.cons ?_ ?_
     ·skip
      refine A_op (ls' := #[true, true, true, true, true, true, true, false, false, false, false, false, false, false]) rfl (by kernel_rfl) (T_callW (al := [(vP (some ⟨r.tb, 0, none⟩))]) rfl rfl cb36 (Calls.into (n := 9) func36 rfl ntmps36 rfl rfl ?_))
      refine cR fun _ hK622_ => ?_
      refine sv (v := (vI .i64 0)) (x_assign rfl) ?_
      refine wn (hK622_ _ _ ?_)
      refine cR fun _ hK623_ => ?_
      refine sm (vP (some ⟨r.tb, 0, none⟩)) ?_
      refine sv (v := (vP (some ⟨r.tb, 0, none⟩))) (by kernel_rfl) ?_
      refine sv (v := (vP (some ⟨r.tb, 0, none⟩))) (by kernel_rfl) ?_
      refine sv (v := (vI .i64 (r.d : Int))) (x_load1 rfl underlying3 rfl ((Holds.rd H483_ 4 rfl) 0 (vI .i64 (r.d : Int)) rfl)) ?_
      refine sv (v := (vI .i64 ((r.d : Int) * 2))) (x_bin rfl rfl (ib_mul (IntWalk.i64_in _ (by omega)))) ?_
      refine sv (v := (vI .i64 (((r.d : Int) * 2) - 1))) (x_bin rfl rfl (ib_sub (IntWalk.i64_in _ (by omega)))) ?_
      refine sv (v := (vI .i64 (((r.d : Int) * 2) - 1))) (x_assign rfl) ?_
      refine wn (hK623_ _ _ ?_)
      refine C_ret ?_
      refine R_any (v := (vI .i64 (((r.d : Int) * 2) - 1))) (run_results1 rfl rfl) ⟨_, rfl, ?_⟩
      refine ⟨⟨Holds.rd H483_ 2 rfl, Holds.rd H483_ 3 rfl, Holds.rd H483_ 4 rfl, Holds.rd H483_ 5 rfl, Holds.rd H483_ 6 rfl, (Holds.ro_at H483_ 1 rfl)⟩, ?_⟩
      exact hJ534 _ _ ⟨_, congrArg (fun e => mkA 148 e []) (ch (ch (ch (ch (ch (ch rfl rfl) rfl) rfl) rfl) rfl) rfl), H483_, (Same.trans S55_ (Same.drew _))⟩
     refine AllR.cons ?_ AllR.nil
     refine A_op (ls' := #[true, true, true, true, true, true, false, false, false, false, false, true, false, false]) rfl (by kernel_rfl) (T_alloc z24 H483_ ?_)
     intro b624_ w625_ S627_ H626_
     have S628_ := Same.trans (Same.trans S55_ (Same.drew _)) S627_
     refine ⟨⟨Holds.rd H626_ 3 rfl, Holds.rd H626_ 4 rfl, Holds.rd H626_ 5 rfl, Holds.rd H626_ 6 rfl, Holds.rd H626_ 7 rfl, (Holds.ro_at H626_ 2 rfl)⟩, ?_⟩
     exact hJ538 _ _ ⟨b624_, _, congrArg (fun e => mkA 148 e []) (ch (ch (ch (ch (ch (ch (ch rfl rfl) rfl) rfl) rfl) rfl) rfl) rfl), H626_, S628_⟩
  intro hJ51
  refine A_cut #[true, true, true, true, true, true, true, false, true, true, false] 2 (fun a__ w1__ => ∃ h : Env, a__ = mkA 148 (upd (upd (upd (upd (upd (upd h 0 (vP (some ⟨r.tb, 0, none⟩))) 3 (vP (some ⟨b6_, 0, none⟩))) 4 (vP (some ⟨b11_, 0, none⟩))) 5 (vB false)) 65 t.n.iv) 68 (vI .i64 (((r.d : Int) * 2) - 1))) [] ∧ Holds w1__ (ro R :: cl t.a 79 [t.n.iv, t.cv, (vP (some ⟨r.c, 0, none⟩))] :: cl b11_ 24 [(vI .i64 0), (vI .i64 0)] :: cl b6_ 24 [(vI .i64 e.key), (vI .i64 e.val)] :: sl 24 2 t.n.iv (List.length t.n.xs) (t.n.xs.flatMap EL.cells) :: rest r.c t :: cl r.tb 62 [(vI .i64 (r.d : Int)), (vI .i64 (List.length t.el : Int)), (vP (some ⟨t.a, 0, none⟩)), (vP (some ⟨r.c, 0, none⟩))] :: cl r.c 58 [(vP (some ⟨r.fl, 0, none⟩)), (Value.func (.func 16) #[] #[])] :: cl r.fl 74 [(vS r.fa 0 r.fc)] :: F) ∧ Same w w1__) ?_ ?_
  ·rintro _ w629_ ⟨h, rfl, H630_, S631_⟩
   refine A_ready (i := 7) (rs := []) (by kernel_rfl) ?_
   refine AllR.cons ?_ AllR.nil
   refine A_op (ls' := #[true, true, true, true, true, true, true, true, true, true, false]) rfl (by kernel_rfl) (T_val (v := (vI .i64 ((List.length t.n.xs) : Int))) (x_lenSl rfl H630_ 4 rfl underlying76) ?_)
   refine ⟨⟨Holds.rd H630_ 1 rfl, Holds.rd H630_ 2 rfl, Holds.rd H630_ 3 rfl, Holds.slrd H630_ 4 rfl, Holds.rd H630_ 6 rfl, Holds.rd H630_ 7 rfl, Holds.rd H630_ 8 rfl, (Holds.ro_at H630_ 0 rfl)⟩, ?_⟩
   have hq632_ := And.intro (Holds.rd H630_ 1 rfl) (And.intro (Holds.rd H630_ 2 rfl) (And.intro (Holds.rd H630_ 3 rfl) (And.intro (Holds.slrd H630_ 4 rfl) (And.intro (Holds.rd H630_ 6 rfl) (And.intro (Holds.rd H630_ 7 rfl) (And.intro (Holds.rd H630_ 8 rfl) ((Holds.ro_at H630_ 0 rfl))))))))
   refine A_tk 10 (v := (vB (decide (((r.d : Int) * 2) - 1 ≤ ((List.length t.n.xs) : Int))))) rfl (by kernel_rfl) (fun w hS => x_bin rfl rfl rfl) hq632_ ?_
   refine A_done (by kernel_rfl) ?_
   refine (X_then (hK43_ _ _ ?_))
   refine C_cond (b := decide (((r.d : Int) * 2) - 1 ≤ ((List.length t.n.xs) : Int))) rfl (fun c633_t => ?_) (fun c633_f => ?_)
   ·have c633_tp : ((r.d : Int) * 2) - 1 ≤ ((List.length t.n.xs) : Int) := of_decide_eq_true c633_t
    refine C_seq (fun _ hK634_ => ?_)
    ·skip
     have H635_ := ((Holds.bring (Holds.bring (Holds.bring H630_ 5 rfl) 5 rfl) 3 rfl) :)
     have H636_ := Holds.bt_in (k := t) H635_
     obtain ⟨m_, hm_, _⟩ := elem_at t.n.xs (r.d - 1) (by omega)
     refine A_start (S := fun w => Rd b11_ [(vI .i64 0), (vI .i64 0)] w ∧ Rd b6_ [(vI .i64 e.key), (vI .i64 e.val)] w ∧ Rd r.tb [(vI .i64 (r.d : Int)), (vI .i64 (List.length t.el : Int)), (vP (some ⟨t.a, 0, none⟩)), (vP (some ⟨r.c, 0, none⟩))] w ∧ Rd r.c [(vP (some ⟨r.fl, 0, none⟩)), (Value.func (.func 16) #[] #[])] w ∧ Rd r.fl [(vS r.fa 0 r.fc)] w ∧ Sub R (hp w)) (N := 14) foll rfl rfl ?_
     have H637_ := Holds.drew_ H636_
     refine A_cut #[true, true, true, true, true, true, true, true, true, true, true, true, false, false] 2 (fun a__ w1__ => ∃ k1642_ : BT z, ∃ k2643_ : BT z, ∃ b652_ : Nat, ∃ h : Env, a__ = mkA 148 (upd (upd (upd (upd (upd (upd (upd h 0 (vP (some ⟨r.tb, 0, none⟩))) 3 (vP (some ⟨b6_, 0, none⟩))) 4 (vP (some ⟨b11_, 0, none⟩))) 5 (vB false)) 6 (vP (some ⟨b652_, 0, none⟩))) 79 (vA #[(vI .i64 m_.key), (vI .i64 m_.val)])) 80 (vP (some ⟨k2643_.a, 0, none⟩))) [] ∧ Holds w1__ (cl b652_ 24 [(vI .i64 0), (vI .i64 0)] :: ro R :: btp r.c k1642_ :: btp r.c k2643_ :: cl r.c 58 [(vP (some ⟨r.fl, 0, none⟩)), (Value.func (.func 16) #[] #[])] :: cl r.fl 74 [(vS r.fa 0 r.fc)] :: cl b11_ 24 [(vI .i64 0), (vI .i64 0)] :: cl b6_ 24 [(vI .i64 e.key), (vI .i64 e.val)] :: cl r.tb 62 [(vI .i64 (r.d : Int)), (vI .i64 (List.length t.el : Int)), (vP (some ⟨t.a, 0, none⟩)), (vP (some ⟨r.c, 0, none⟩))] :: F) ∧ Same w w1__ ∧ (Spl t k1642_ k2643_ m_)) ?_ ?_
     ·rintro _ w692_ ⟨k1642_, k2643_, b652_, h, rfl, H693_, S694_, he644_⟩
      refine A_ready (i := 12) (rs := []) (by kernel_rfl) ?_
      refine AllR.cons ?_ AllR.nil
      refine A_op0 (ls' := #[true, true, true, true, true, true, true, true, true, true, true, true, true, false]) rfl (by kernel_rfl) (T_storeN (vs := [(vI .i64 m_.key), (vI .i64 m_.val)]) rfl rfl z24 rfl (by simp [Value.oneCell']) H693_ 0 rfl (Nat.le_of_ble_eq_true (by rfl)) ?_)
      intro w695_ S697_ H696_
      have S698_ := Same.trans S694_ S697_
      refine ⟨⟨Holds.rd H696_ 6 rfl, Holds.rd H696_ 7 rfl, Holds.rd H696_ 8 rfl, Holds.rd H696_ 4 rfl, Holds.rd H696_ 5 rfl, (Holds.ro_at H696_ 1 rfl)⟩, ?_⟩
      have hq699_ := And.intro (Holds.rd H696_ 6 rfl) (And.intro (Holds.rd H696_ 7 rfl) (And.intro (Holds.rd H696_ 8 rfl) (And.intro (Holds.rd H696_ 4 rfl) (And.intro (Holds.rd H696_ 5 rfl) ((Holds.ro_at H696_ 1 rfl))))))
      refine A_tk 13 (v := (vP (some ⟨k2643_.a, 0, none⟩))) rfl (by kernel_rfl) (fun w hS => x_assign rfl) hq699_ ?_
      refine A_done (by kernel_rfl) ?_
      refine (X_then (hK634_ _ _ ?_))
      refine cR fun _ hK700_ => ?_
      refine sm (vP (some ⟨r.tb, 0, none⟩)) ?_
      refine sv (v := (vP (some ⟨r.tb, 0, none⟩))) (by kernel_rfl) ?_
      refine sv (v := (vP (some ⟨r.tb, 2, none⟩))) (by kernel_rfl) ?_
      refine sv (v := (vP (some ⟨t.a, 0, none⟩))) (x_load1 rfl underlying59 rfl ((Holds.rd H696_ 8 rfl) 2 (vP (some ⟨t.a, 0, none⟩)) rfl)) ?_
      refine sv (v := (vP (some ⟨t.a, 0, none⟩))) (x_assign rfl) ?_
      refine wn (hK700_ _ _ ?_)
      refine cR fun _ hK701_ => ?_
      refine sm (vP (some ⟨r.tb, 0, none⟩)) ?_
      refine sm (vP (some ⟨r.tb, 0, none⟩)) ?_
      refine sv (v := (vP (some ⟨r.tb, 0, none⟩))) (by kernel_rfl) ?_
      refine sv (v := (vP (some ⟨r.tb, 3, none⟩))) (by kernel_rfl) ?_
      refine sv (v := (vP (some ⟨r.c, 0, none⟩))) (x_load1 rfl underlying60 rfl ((Holds.rd H696_ 8 rfl) 3 (vP (some ⟨r.c, 0, none⟩)) rfl)) ?_
      have H704_ := ((Holds.bring (Holds.bring (Holds.bring H696_ 5 rfl) 5 rfl) 3 rfl) :)
      refine S_list (T_call (al := [(vP (some ⟨r.c, 0, none⟩))]) (pre := [cl r.c 58 [(vP (some ⟨r.fl, 0, none⟩)), (Value.func (.func 16) #[] #[])], cl r.fl 74 [(vS r.fa 0 r.fc)]]) rfl rfl cb34 (btNew R r.c r.fl r.fc r.fa) H704_ ?_)
      rintro v702_ p708_ w705_ ⟨a703_, rfl, rfl⟩ S707_ H706_
      have S709_ := Same.trans S698_ S707_
      refine sv (v := (vP (some ⟨r.tb, 0, none⟩))) (by kernel_rfl) ?_
      refine sv (v := (vP (some ⟨r.tb, 2, none⟩))) (by kernel_rfl) ?_
      refine S_list0 (T_store1 (v := (vP (some ⟨a703_, 0, none⟩))) rfl rfl z59 rfl H706_ 9 rfl (Nat.le_of_ble_eq_true (by rfl)) ?_)
      intro w710_ S712_ H711_
      have S713_ := Same.trans S709_ S712_
      refine wn (hK701_ _ _ ?_)
      refine C_seq (fun _ hK714_ => ?_)
      refine A_start (S := fun w => Rd r.c [(vP (some ⟨r.fl, 0, none⟩)), (Value.func (.func 16) #[] #[])] w ∧ Rd r.fl [(vS r.fa 0 r.fc)] w ∧ Rd b652_ [(vI .i64 m_.key), (vI .i64 m_.val)] w ∧ Rd b11_ [(vI .i64 0), (vI .i64 0)] w ∧ Rd b6_ [(vI .i64 e.key), (vI .i64 e.val)] w ∧ Rd r.tb [(vI .i64 (r.d : Int)), (vI .i64 (List.length t.el : Int)), (vP (some ⟨a703_, 0, none⟩)), (vP (some ⟨r.c, 0, none⟩))] w ∧ Sub R (hp w)) (N := 17) foll rfl rfl ?_
      have H715_ := Holds.drew_ H711_
      refine A_cut #[true, true, true, true, true, true, true, true, true, true, true, true, true, true, true, true, false] 1 (fun a__ w1__ => ∃ v724_ : Value, ∃ h : Env, a__ = mkA 148 (upd (upd (upd (upd (upd (upd (upd (upd h 0 (vP (some ⟨r.tb, 0, none⟩))) 3 (vP (some ⟨b6_, 0, none⟩))) 4 (vP (some ⟨b11_, 0, none⟩))) 5 (vB false)) 7 (vP (some ⟨k2643_.a, 0, none⟩))) 8 (vP (some ⟨t.a, 0, none⟩))) 106 v724_) 108 (vP (some ⟨a703_, 0, none⟩))) [] ∧ Holds w1__ (sl 24 2 v724_ 1 ([] ++ [(vI .i64 m_.key), (vI .i64 m_.val)]) :: sl 24 2 (.slice none 0 0) 0 [] :: ro R :: cl a703_ 79 [(vS none 0 0), (vS none 0 0), (vP (some ⟨r.c, 0, none⟩))] :: cl r.c 58 [(vP (some ⟨r.fl, 0, none⟩)), (Value.func (.func 16) #[] #[])] :: cl r.fl 74 [(vS r.fa 0 r.fc)] :: cl b652_ 24 [(vI .i64 m_.key), (vI .i64 m_.val)] :: btp r.c k1642_ :: btp r.c k2643_ :: cl b11_ 24 [(vI .i64 0), (vI .i64 0)] :: cl b6_ 24 [(vI .i64 e.key), (vI .i64 e.val)] :: cl r.tb 62 [(vI .i64 (r.d : Int)), (vI .i64 (List.length t.el : Int)), (vP (some ⟨a703_, 0, none⟩)), (vP (some ⟨r.c, 0, none⟩))] :: F) ∧ Same w w1__) ?_ ?_
      ·rintro _ w744_ ⟨v724_, h, rfl, H745_, S746_⟩
       refine A_ready (i := 16) (rs := []) (by kernel_rfl) ?_
       refine AllR.cons ?_ AllR.nil
       refine A_op0 (ls' := #[true, true, true, true, true, true, true, true, true, true, true, true, true, true, true, true, true]) rfl (by kernel_rfl) (T_store1 (v := v724_) rfl rfl z76 (Holds.sl_one H745_ 0 rfl) H745_ 3 rfl (Nat.le_of_ble_eq_true (by rfl)) ?_)
       intro w747_ S749_ H748_
       have S750_ := Same.trans S746_ S749_
       refine ⟨⟨Holds.rd H748_ 4 rfl, Holds.rd H748_ 5 rfl, Holds.rd H748_ 6 rfl, Holds.rd H748_ 9 rfl, Holds.rd H748_ 10 rfl, Holds.rd H748_ 11 rfl, (Holds.ro_at H748_ 2 rfl)⟩, ?_⟩
       refine A_done (by kernel_rfl) ?_
       refine (X_then (hK714_ _ _ ?_))
       refine A_start (S := fun w => SlRd v724_ ([] ++ [(vI .i64 m_.key), (vI .i64 m_.val)]) w ∧ SlRd (.slice none 0 0) [] w ∧ Rd r.c [(vP (some ⟨r.fl, 0, none⟩)), (Value.func (.func 16) #[] #[])] w ∧ Rd r.fl [(vS r.fa 0 r.fc)] w ∧ Rd b652_ [(vI .i64 m_.key), (vI .i64 m_.val)] w ∧ Rd b11_ [(vI .i64 0), (vI .i64 0)] w ∧ Rd b6_ [(vI .i64 e.key), (vI .i64 e.val)] w ∧ Rd r.tb [(vI .i64 (r.d : Int)), (vI .i64 (List.length t.el : Int)), (vP (some ⟨a703_, 0, none⟩)), (vP (some ⟨r.c, 0, none⟩))] w ∧ Sub R (hp w)) (N := 18) foll rfl rfl ?_
       have H751_ := Holds.drew_ H748_
       refine A_cut #[true, true, true, true, true, true, true, true, true, true, true, true, true, true, true, true, true, false] 1 (fun a__ w1__ => ∃ v760_ : Value, ∃ h : Env, a__ = mkA 148 (upd (upd (upd (upd (upd (upd h 0 (vP (some ⟨r.tb, 0, none⟩))) 3 (vP (some ⟨b6_, 0, none⟩))) 4 (vP (some ⟨b11_, 0, none⟩))) 5 (vB false)) 123 v760_) 125 (vP (some ⟨a703_, 1, none⟩))) [] ∧ Holds w1__ (sl 59 1 v760_ 2 ([] ++ [(vP (some ⟨t.a, 0, none⟩)), (vP (some ⟨k2643_.a, 0, none⟩))]) :: sl 59 1 (.slice none 0 0) 0 [] :: sl 24 2 v724_ 1 ([] ++ [(vI .i64 m_.key), (vI .i64 m_.val)]) :: sl 24 2 (.slice none 0 0) 0 [] :: ro R :: cl a703_ 79 [v724_, (vS none 0 0), (vP (some ⟨r.c, 0, none⟩))] :: cl r.c 58 [(vP (some ⟨r.fl, 0, none⟩)), (Value.func (.func 16) #[] #[])] :: cl r.fl 74 [(vS r.fa 0 r.fc)] :: cl b652_ 24 [(vI .i64 m_.key), (vI .i64 m_.val)] :: btp r.c k1642_ :: btp r.c k2643_ :: cl b11_ 24 [(vI .i64 0), (vI .i64 0)] :: cl b6_ 24 [(vI .i64 e.key), (vI .i64 e.val)] :: cl r.tb 62 [(vI .i64 (r.d : Int)), (vI .i64 (List.length t.el : Int)), (vP (some ⟨a703_, 0, none⟩)), (vP (some ⟨r.c, 0, none⟩))] :: F) ∧ Same w w1__) ?_ ?_
       ·rintro _ w780_ ⟨v760_, h, rfl, H781_, S782_⟩
        refine A_ready (i := 17) (rs := []) (by kernel_rfl) ?_
        refine AllR.cons ?_ AllR.nil
        refine A_op0 (ls' := #[true, true, true, true, true, true, true, true, true, true, true, true, true, true, true, true, true, true]) rfl (by kernel_rfl) (T_store1 (v := v760_) rfl rfl z77 (Holds.sl_one H781_ 0 rfl) H781_ 5 rfl (Nat.le_of_ble_eq_true (by rfl)) ?_)
        intro w783_ S785_ H784_
        have S786_ := Same.trans S782_ S785_
        refine ⟨⟨Holds.slrd H784_ 2 rfl, Holds.slrd H784_ 1 rfl, Holds.rd H784_ 6 rfl, Holds.rd H784_ 7 rfl, Holds.rd H784_ 8 rfl, Holds.rd H784_ 11 rfl, Holds.rd H784_ 12 rfl, Holds.rd H784_ 13 rfl, (Holds.ro_at H784_ 4 rfl)⟩, ?_⟩
        refine A_done (by kernel_rfl) ?_
        refine (X_then (hK42_ _ _ ?_))
        refine C_seq (fun _ hK787_ => ?_)
        ·skip
         have H788_ := Holds.resl H784_ 2 rfl (rfl : [] ++ [(vI .i64 m_.key), (vI .i64 m_.val)] = [m_].flatMap EL.cells) (by first | (simp; done) | (simp; omega) : 1 = (List.length [m_]))
         have H789_ := Holds.resl H788_ 0 rfl (pair_a he644_ : [] ++ [(vP (some ⟨t.a, 0, none⟩)), (vP (some ⟨k2643_.a, 0, none⟩))] = pBs ([k1642_, k2643_].map BT.a)) (by first | (simp; done) | (simp; omega) : 2 = (List.length ([k1642_, k2643_].map BT.a)))
         have H790_ := ((Holds.bring (Holds.bring H789_ 10 rfl) 10 rfl) :)
         have H791_ := Holds.kids_pair H790_
         have H792_ := ((Holds.bring (Holds.bring (Holds.bring H791_ 1 rfl) 3 rfl) 6 rfl) :)
         have H793_ := Holds.nodeI H792_
         have hr_ := spl_root (a := a703_) (iv := v724_) (cv := v760_) he644_
         refine A_start (S := fun w => SlRd (.slice none 0 0) [] w ∧ SlRd (.slice none 0 0) [] w ∧ Rd r.c [(vP (some ⟨r.fl, 0, none⟩)), (Value.func (.func 16) #[] #[])] w ∧ Rd r.fl [(vS r.fa 0 r.fc)] w ∧ Rd b652_ [(vI .i64 m_.key), (vI .i64 m_.val)] w ∧ Rd b11_ [(vI .i64 0), (vI .i64 0)] w ∧ Rd b6_ [(vI .i64 e.key), (vI .i64 e.val)] w ∧ Rd r.tb [(vI .i64 (r.d : Int)), (vI .i64 (List.length t.el : Int)), (vP (some ⟨a703_, 0, none⟩)), (vP (some ⟨r.c, 0, none⟩))] w ∧ Sub R (hp w)) (N := 14) foll rfl rfl ?_
         have H794_ := Holds.drew_ H793_
         refine A_cut #[true, true, true, true, true, true, true, true, true, true, true, true, false, false] 2 (fun a__ w1__ => ∃ t799_ : BT (z + 1), ∃ o800_ : EL, ∃ b801_ : Bool, ∃ b810_ : Nat, ∃ h : Env, a__ = mkA 148 (upd (upd (upd (upd (upd (upd h 0 (vP (some ⟨r.tb, 0, none⟩))) 4 (vP (some ⟨b11_, 0, none⟩))) 5 (vB false)) 9 (vP (some ⟨b810_, 0, none⟩))) 135 (vA #[(vI .i64 o800_.key), (vI .i64 o800_.val)])) 136 (vB b801_)) [] ∧ Holds w1__ (cl b810_ 24 [(vI .i64 0), (vI .i64 0)] :: ro R :: btp r.c t799_ :: cl r.c 58 [(vP (some ⟨r.fl, 0, none⟩)), (Value.func (.func 16) #[] #[])] :: cl r.fl 74 [(vS r.fa 0 r.fc)] :: sl 59 1 (.slice none 0 0) 0 [] :: sl 24 2 (.slice none 0 0) 0 [] :: cl b652_ 24 [(vI .i64 m_.key), (vI .i64 m_.val)] :: cl b11_ 24 [(vI .i64 0), (vI .i64 0)] :: cl b6_ 24 [(vI .i64 e.key), (vI .i64 e.val)] :: cl r.tb 62 [(vI .i64 (r.d : Int)), (vI .i64 (List.length t.el : Int)), (vP (some ⟨a703_, 0, none⟩)), (vP (some ⟨r.c, 0, none⟩))] :: F) ∧ Same w w1__ ∧ (Ins e (nodeB ⟨a703_, v724_, v760_, [m_]⟩ [k1642_, k2643_]) t799_ o800_ b801_)) ?_ ?_
         ·rintro _ w850_ ⟨t799_, o800_, b801_, b810_, h, rfl, H851_, S852_, he802_⟩
          refine A_ready (i := 12) (rs := []) (by kernel_rfl) ?_
          refine AllR.cons ?_ AllR.nil
          refine A_op0 (ls' := #[true, true, true, true, true, true, true, true, true, true, true, true, true, false]) rfl (by kernel_rfl) (T_storeN (vs := [(vI .i64 o800_.key), (vI .i64 o800_.val)]) rfl rfl z24 rfl (by simp [Value.oneCell']) H851_ 0 rfl (Nat.le_of_ble_eq_true (by rfl)) ?_)
          intro w853_ S855_ H854_
          have S856_ := Same.trans S852_ S855_
          refine ⟨⟨Holds.slrd H854_ 5 rfl, Holds.slrd H854_ 5 rfl, Holds.rd H854_ 3 rfl, Holds.rd H854_ 4 rfl, Holds.rd H854_ 7 rfl, Holds.rd H854_ 8 rfl, Holds.rd H854_ 9 rfl, Holds.rd H854_ 10 rfl, (Holds.ro_at H854_ 1 rfl)⟩, ?_⟩
          have hq857_ := And.intro (Holds.slrd H854_ 5 rfl) (And.intro (Holds.slrd H854_ 5 rfl) (And.intro (Holds.rd H854_ 3 rfl) (And.intro (Holds.rd H854_ 4 rfl) (And.intro (Holds.rd H854_ 7 rfl) (And.intro (Holds.rd H854_ 8 rfl) (And.intro (Holds.rd H854_ 9 rfl) (And.intro (Holds.rd H854_ 10 rfl) ((Holds.ro_at H854_ 1 rfl)))))))))
          refine A_tk 13 (v := (vB b801_)) rfl (by kernel_rfl) (fun w hS => x_assign rfl) hq857_ ?_
          refine A_done (by kernel_rfl) ?_
          refine (X_then (hK787_ _ _ ?_))
          refine C_seq (fun _ hK858_ => ?_)
          refine cR fun _ hK859_ => ?_
          refine sm (vB b801_) ?_
          refine sv (v := (vB (!b801_))) (x_not rfl) ?_
          refine wn (hK859_ _ _ ?_)
          refine C_cond (b := !b801_) rfl (fun c860_t => ?_) (fun c860_f => ?_)
          ·skip
           refine C_reg ?_
           refine sm (vP (some ⟨r.tb, 0, none⟩)) ?_
           refine sv (v := (vP (some ⟨r.tb, 0, none⟩))) (by kernel_rfl) ?_
           refine sv (v := (vP (some ⟨r.tb, 1, none⟩))) (by kernel_rfl) ?_
           refine sv (v := (vI .i64 (List.length t.el : Int))) (x_load1 rfl underlying3 rfl ((Holds.rd H854_ 10 rfl) 1 (vI .i64 (List.length t.el : Int)) rfl)) ?_
           refine sv (v := (vI .i64 ((List.length t.el : Int) + 1))) (x_bin rfl rfl (ib_add (IntWalk.i64_in _ (by omega)))) ?_
           refine sv (v := (vP (some ⟨r.tb, 0, none⟩))) (by kernel_rfl) ?_
           refine sv (v := (vP (some ⟨r.tb, 1, none⟩))) (by kernel_rfl) ?_
           refine S_list0 (T_store1 (v := (vI .i64 ((List.length t.el : Int) + 1))) rfl rfl z3 rfl H854_ 10 rfl (Nat.le_of_ble_eq_true (by rfl)) ?_)
           intro w861_ S863_ H862_
           have S864_ := Same.trans S856_ S863_
           refine wn (hK858_ _ _ ?_)
           refine cR fun _ hK865_ => ?_
           refine sv (v := (vA #[(vI .i64 o800_.key), (vI .i64 o800_.val)])) (x_loadN (vs := [(vI .i64 o800_.key), (vI .i64 o800_.val)]) rfl underlying24 rfl z24 rfl (Rd.cells (Holds.rd H862_ 0 rfl) 0 rfl)) ?_
           refine sm (vB b801_) ?_
           refine S_list0 (T_storeN (vs := [(vI .i64 o800_.key), (vI .i64 o800_.val)]) rfl rfl z24 rfl (by simp [Value.oneCell']) H862_ 8 rfl (Nat.le_of_ble_eq_true (by rfl)) ?_)
           intro w866_ S868_ H867_
           have S869_ := Same.trans S864_ S868_
           refine sv (v := (vB b801_)) (x_assign rfl) ?_
           refine wn (hK865_ _ _ ?_)
           refine C_ret ?_
           refine R_any (v := (vT #[(vA #[(vI .i64 o800_.key), (vI .i64 o800_.val)]), (vB b801_)])) (run_results2 rfl ⟨_, rfl, load_resN underlying24 rfl z24 rfl (vs := [(vI .i64 o800_.key), (vI .i64 o800_.val)]) (Holds.cl_cells H867_ 8 rfl 0 rfl)⟩ rfl) ?_
           have hel_ : BT.el t799_ = insE e t.el := he802_.el.trans (congrArg (insE e) hr_.2)
           have htd_ : Told e t.el o800_ b801_ := (congrArg (fun l => Told e l o800_ b801_) hr_.2).mp he802_.t
           have hlq_ := told_len hs htd_
           rw [show b801_ = false by simpa using c860_t] at hlq_
           rw [← hel_] at hlq_
           have hap_ : a703_ = BT.a t799_ := he802_.a.symm
           have H870_ := Holds.recl H867_ 10 rfl ((lcons rfl (lcons (congrArg (vI .i64) (by simp at hlq_; omega)) (lcons (congrArg (fun x__ => vP (some ⟨x__, 0, none⟩)) hap_) rfl))) : [(vI .i64 (r.d : Int)), (vI .i64 ((List.length t.el : Int) + 1)), (vP (some ⟨a703_, 0, none⟩)), (vP (some ⟨r.c, 0, none⟩))] = [(vI .i64 (r.d : Int)), (vI .i64 (List.length (BT.el t799_) : Int)), (vP (some ⟨(BT.a t799_), 0, none⟩)), (vP (some ⟨r.c, 0, none⟩))])
           have H871_ := ((Holds.bring (Holds.bring (Holds.bring (Holds.bring H870_ 2 rfl) 4 rfl) 4 rfl) 10 rfl) :)
           have H872_ := Holds.t1_in (t := t799_) H871_
           have H873_ := Holds.pkF H872_ [2, 0] 6
           exact ⟨_, _, rfl, ⟨(some ⟨(z + 1), t799_⟩), o800_, b801_, rfl, rfl, (⟨he802_.w, by rw [hel_]; exact insE_srt hs⟩), (hel_), (htd_)⟩, S869_, H873_⟩
          ·skip
           refine C_skip (X_then (hK858_ _ _ ?_))
           refine cR fun _ hK874_ => ?_
           refine sv (v := (vA #[(vI .i64 o800_.key), (vI .i64 o800_.val)])) (x_loadN (vs := [(vI .i64 o800_.key), (vI .i64 o800_.val)]) rfl underlying24 rfl z24 rfl (Rd.cells (Holds.rd H854_ 0 rfl) 0 rfl)) ?_
           refine sm (vB b801_) ?_
           refine S_list0 (T_storeN (vs := [(vI .i64 o800_.key), (vI .i64 o800_.val)]) rfl rfl z24 rfl (by simp [Value.oneCell']) H854_ 8 rfl (Nat.le_of_ble_eq_true (by rfl)) ?_)
           intro w875_ S877_ H876_
           have S878_ := Same.trans S856_ S877_
           refine sv (v := (vB b801_)) (x_assign rfl) ?_
           refine wn (hK874_ _ _ ?_)
           refine C_ret ?_
           refine R_any (v := (vT #[(vA #[(vI .i64 o800_.key), (vI .i64 o800_.val)]), (vB b801_)])) (run_results2 rfl ⟨_, rfl, load_resN underlying24 rfl z24 rfl (vs := [(vI .i64 o800_.key), (vI .i64 o800_.val)]) (Holds.cl_cells H876_ 8 rfl 0 rfl)⟩ rfl) ?_
           have hel_ : BT.el t799_ = insE e t.el := he802_.el.trans (congrArg (insE e) hr_.2)
           have htd_ : Told e t.el o800_ b801_ := (congrArg (fun l => Told e l o800_ b801_) hr_.2).mp he802_.t
           have hlq_ := told_len hs htd_
           rw [show b801_ = true by simpa using c860_f] at hlq_
           rw [← hel_] at hlq_
           have hap_ : a703_ = BT.a t799_ := he802_.a.symm
           have H879_ := Holds.recl H876_ 10 rfl ((lcons rfl (lcons (congrArg (vI .i64) (by simp at hlq_; omega)) (lcons (congrArg (fun x__ => vP (some ⟨x__, 0, none⟩)) hap_) rfl))) : [(vI .i64 (r.d : Int)), (vI .i64 (List.length t.el : Int)), (vP (some ⟨a703_, 0, none⟩)), (vP (some ⟨r.c, 0, none⟩))] = [(vI .i64 (r.d : Int)), (vI .i64 (List.length (BT.el t799_) : Int)), (vP (some ⟨(BT.a t799_), 0, none⟩)), (vP (some ⟨r.c, 0, none⟩))])
           have H880_ := ((Holds.bring (Holds.bring (Holds.bring (Holds.bring H879_ 2 rfl) 4 rfl) 4 rfl) 10 rfl) :)
           have H881_ := Holds.t1_in (t := t799_) H880_
           have H882_ := Holds.pkF H881_ [2, 0] 6
           exact ⟨_, _, rfl, ⟨(some ⟨(z + 1), t799_⟩), o800_, b801_, rfl, rfl, (⟨he802_.w, by rw [hel_]; exact insE_srt hs⟩), (hel_), (htd_)⟩, S878_, H882_⟩
         intro hJ847
         refine A_cut #[true, true, true, true, true, true, true, true, true, true, true, false, false, false] 3 (fun a__ w1__ => ∃ t799_ : BT (z + 1), ∃ o800_ : EL, ∃ b801_ : Bool, ∃ h : Env, a__ = mkA 148 (upd (upd (upd (upd (upd h 0 (vP (some ⟨r.tb, 0, none⟩))) 4 (vP (some ⟨b11_, 0, none⟩))) 5 (vB false)) 135 (vA #[(vI .i64 o800_.key), (vI .i64 o800_.val)])) 136 (vB b801_)) [] ∧ Holds w1__ (ro R :: btp r.c t799_ :: cl r.c 58 [(vP (some ⟨r.fl, 0, none⟩)), (Value.func (.func 16) #[] #[])] :: cl r.fl 74 [(vS r.fa 0 r.fc)] :: sl 59 1 (.slice none 0 0) 0 [] :: sl 24 2 (.slice none 0 0) 0 [] :: cl b652_ 24 [(vI .i64 m_.key), (vI .i64 m_.val)] :: cl b11_ 24 [(vI .i64 0), (vI .i64 0)] :: cl b6_ 24 [(vI .i64 e.key), (vI .i64 e.val)] :: cl r.tb 62 [(vI .i64 (r.d : Int)), (vI .i64 (List.length t.el : Int)), (vP (some ⟨a703_, 0, none⟩)), (vP (some ⟨r.c, 0, none⟩))] :: F) ∧ Same w w1__ ∧ (Ins e (nodeB ⟨a703_, v724_, v760_, [m_]⟩ [k1642_, k2643_]) t799_ o800_ b801_)) ?_ ?_
         ·rintro _ w883_ ⟨t799_, o800_, b801_, h, rfl, H884_, S885_, he802_⟩
          refine A_ready (i := 11) (rs := []) (by kernel_rfl) ?_
          refine AllR.cons ?_ AllR.nil
          refine A_op (ls' := #[true, true, true, true, true, true, true, true, true, true, true, true, false, false]) rfl (by kernel_rfl) (T_alloc z24 H884_ ?_)
          intro b886_ w887_ S889_ H888_
          have S890_ := Same.trans S885_ S889_
          refine ⟨⟨Holds.slrd H888_ 5 rfl, Holds.slrd H888_ 5 rfl, Holds.rd H888_ 3 rfl, Holds.rd H888_ 4 rfl, Holds.rd H888_ 7 rfl, Holds.rd H888_ 8 rfl, Holds.rd H888_ 9 rfl, Holds.rd H888_ 10 rfl, (Holds.ro_at H888_ 1 rfl)⟩, ?_⟩
          exact hJ847 _ _ ⟨t799_, o800_, b801_, b886_, _, congrArg (fun e => mkA 148 e []) (ch (ch (ch (ch (ch (ch rfl rfl) rfl) rfl) rfl) rfl) rfl), H888_, S890_, he802_⟩
         intro hJ846
         refine A_cut #[true, true, true, true, true, true, true, false, false, false, false, true, false, false] 6 (fun a__ w1__ => ∃ b820_ : Nat, ∃ h : Env, a__ = mkA 148 (upd (upd (upd (upd (upd (upd (upd h 0 (vP (some ⟨r.tb, 0, none⟩))) 4 (vP (some ⟨b11_, 0, none⟩))) 5 (vB false)) 9 (vP (some ⟨b820_, 0, none⟩))) 130 (vP (some ⟨a703_, 0, none⟩))) 131 (vA #[(vI .i64 e.key), (vI .i64 e.val)])) 133 (vI .i64 (((r.d : Int) * 2) - 1))) [] ∧ Holds w1__ (cl b820_ 24 [(vI .i64 0), (vI .i64 0)] :: btp r.c (nodeB ⟨a703_, v724_, v760_, [m_]⟩ [k1642_, k2643_]) :: sl 59 1 (.slice none 0 0) 0 [] :: sl 24 2 (.slice none 0 0) 0 [] :: ro R :: cl r.c 58 [(vP (some ⟨r.fl, 0, none⟩)), (Value.func (.func 16) #[] #[])] :: cl r.fl 74 [(vS r.fa 0 r.fc)] :: cl b652_ 24 [(vI .i64 m_.key), (vI .i64 m_.val)] :: cl b11_ 24 [(vI .i64 0), (vI .i64 0)] :: cl b6_ 24 [(vI .i64 e.key), (vI .i64 e.val)] :: cl r.tb 62 [(vI .i64 (r.d : Int)), (vI .i64 (List.length t.el : Int)), (vP (some ⟨a703_, 0, none⟩)), (vP (some ⟨r.c, 0, none⟩))] :: F) ∧ Same w w1__) ?_ ?_
         ·rintro _ w891_ ⟨b820_, h, rfl, H892_, S893_⟩
          refine A_ready (i := 7) (rs := []) (by kernel_rfl) ?_
          refine AllR.cons ?_ AllR.nil
          have H899_ := ((Holds.bring (Holds.bring (Holds.bring (Holds.bring H892_ 6 rfl) 6 rfl) 3 rfl) 6 rfl) :)
          refine A_op (ls' := #[true, true, true, true, true, true, true, true, false, false, false, true, false, false]) rfl (by kernel_rfl) (T_call (al := [(vP (some ⟨(nodeB ⟨a703_, v724_, v760_, [m_]⟩ [k1642_, k2643_]).a, 0, none⟩)), (vA #[(vI .i64 e.key), (vI .i64 e.val)]), (vI .i64 ((r.d * 2 - 1 : Nat) : Int))]) (pre := [btp r.c (nodeB ⟨a703_, v724_, v760_, [m_]⟩ [k1642_, k2643_]), cl r.c 58 [(vP (some ⟨r.fl, 0, none⟩)), (Value.func (.func 16) #[] #[])], cl r.fl 74 [(vS r.fa 0 r.fc)]]) rfl (lcons ((by first | rfl | omega | (simp; done) | (simp; omega)) : (vP (some ⟨a703_, 0, none⟩)) = (vP (some ⟨(nodeB ⟨a703_, v724_, v760_, [m_]⟩ [k1642_, k2643_]).a, 0, none⟩))) (lcons rfl (lcons (congrArg (vI .i64) ((by first | rfl | omega | (simp; done) | (simp; omega)) : ((r.d : Int) * 2) - 1 = ((r.d * 2 - 1 : Nat) : Int))) rfl))) cb38 (btIns R r.c r.fl r.fc r.fa (z + 1) (nodeB ⟨a703_, v724_, v760_, [m_]⟩ [k1642_, k2643_]) e (r.d * 2 - 1) (hr_.1) ((congrArg SrtE hr_.2).mpr hs) ((congrArg (fun l : List EL => l.length ≤ 1000000) hr_.2).mpr (Nat.le_trans hn (by decide))) (by omega)) H899_ ?_)
          rintro v894_ p903_ w900_ ⟨t895_, o896_, b897_, rfl, rfl, he898_⟩ S902_ H901_
          have S904_ := Same.trans S893_ S902_
          refine ⟨⟨Holds.slrd H901_ 5 rfl, Holds.slrd H901_ 5 rfl, Holds.rd H901_ 2 rfl, Holds.rd H901_ 3 rfl, Holds.rd H901_ 7 rfl, Holds.rd H901_ 8 rfl, Holds.rd H901_ 9 rfl, Holds.rd H901_ 10 rfl, (Holds.ro_at H901_ 0 rfl)⟩, ?_⟩
          have hq905_ := And.intro (Holds.slrd H901_ 5 rfl) (And.intro (Holds.slrd H901_ 5 rfl) (And.intro (Holds.rd H901_ 2 rfl) (And.intro (Holds.rd H901_ 3 rfl) (And.intro (Holds.rd H901_ 7 rfl) (And.intro (Holds.rd H901_ 8 rfl) (And.intro (Holds.rd H901_ 9 rfl) (And.intro (Holds.rd H901_ 10 rfl) ((Holds.ro_at H901_ 0 rfl)))))))))
          refine A_tk 8 (v := (vT #[(vA #[(vI .i64 o896_.key), (vI .i64 o896_.val)]), (vB b897_)])) rfl (by kernel_rfl) (fun w hS => x_move rfl) hq905_ ?_
          refine A_tk 9 (v := (vA #[(vI .i64 o896_.key), (vI .i64 o896_.val)])) rfl (by kernel_rfl) (fun w hS => by kernel_rfl) hq905_ ?_
          refine A_tk 10 (v := (vB b897_)) rfl (by kernel_rfl) (fun w hS => by kernel_rfl) hq905_ ?_
          have H906_ := Holds.pkF H901_ [4, 0, 0, 0, 0, 0, 0, 0, 0, 0, 0] 0
          exact hJ847 _ _ ⟨t895_, o896_, b897_, b820_, _, congrArg (fun e => mkA 148 e []) (ch (ch (ch (ch (ch (ch rfl rfl) rfl) rfl) rfl) rfl) rfl), H906_, S904_, he898_⟩
         intro hJ848
         refine A_cut #[true, true, true, true, true, true, true, false, false, false, false, false, false, false] 7 (fun a__ w1__ => ∃ h : Env, a__ = mkA 148 (upd (upd (upd (upd (upd (upd h 0 (vP (some ⟨r.tb, 0, none⟩))) 4 (vP (some ⟨b11_, 0, none⟩))) 5 (vB false)) 130 (vP (some ⟨a703_, 0, none⟩))) 131 (vA #[(vI .i64 e.key), (vI .i64 e.val)])) 133 (vI .i64 (((r.d : Int) * 2) - 1))) [] ∧ Holds w1__ (btp r.c (nodeB ⟨a703_, v724_, v760_, [m_]⟩ [k1642_, k2643_]) :: sl 59 1 (.slice none 0 0) 0 [] :: sl 24 2 (.slice none 0 0) 0 [] :: ro R :: cl r.c 58 [(vP (some ⟨r.fl, 0, none⟩)), (Value.func (.func 16) #[] #[])] :: cl r.fl 74 [(vS r.fa 0 r.fc)] :: cl b652_ 24 [(vI .i64 m_.key), (vI .i64 m_.val)] :: cl b11_ 24 [(vI .i64 0), (vI .i64 0)] :: cl b6_ 24 [(vI .i64 e.key), (vI .i64 e.val)] :: cl r.tb 62 [(vI .i64 (r.d : Int)), (vI .i64 (List.length t.el : Int)), (vP (some ⟨a703_, 0, none⟩)), (vP (some ⟨r.c, 0, none⟩))] :: F) ∧ Same w w1__) ?_ ?_
         ·rintro _ w907_ ⟨h, rfl, H908_, S909_⟩
          refine A_ready (i := 7) (rs := [11]) (by kernel_rfl) ?_
          refine AllR.cons ?_ ?_
          ·skip
           have H915_ := ((Holds.bring (Holds.bring (Holds.bring (Holds.bring H908_ 5 rfl) 5 rfl) 2 rfl) 5 rfl) :)
           refine A_op (ls' := #[true, true, true, true, true, true, true, true, false, false, false, false, false, false]) rfl (by kernel_rfl) (T_call (al := [(vP (some ⟨(nodeB ⟨a703_, v724_, v760_, [m_]⟩ [k1642_, k2643_]).a, 0, none⟩)), (vA #[(vI .i64 e.key), (vI .i64 e.val)]), (vI .i64 ((r.d * 2 - 1 : Nat) : Int))]) (pre := [btp r.c (nodeB ⟨a703_, v724_, v760_, [m_]⟩ [k1642_, k2643_]), cl r.c 58 [(vP (some ⟨r.fl, 0, none⟩)), (Value.func (.func 16) #[] #[])], cl r.fl 74 [(vS r.fa 0 r.fc)]]) rfl (lcons ((by first | rfl | omega | (simp; done) | (simp; omega)) : (vP (some ⟨a703_, 0, none⟩)) = (vP (some ⟨(nodeB ⟨a703_, v724_, v760_, [m_]⟩ [k1642_, k2643_]).a, 0, none⟩))) (lcons rfl (lcons (congrArg (vI .i64) ((by first | rfl | omega | (simp; done) | (simp; omega)) : ((r.d : Int) * 2) - 1 = ((r.d * 2 - 1 : Nat) : Int))) rfl))) cb38 (btIns R r.c r.fl r.fc r.fa (z + 1) (nodeB ⟨a703_, v724_, v760_, [m_]⟩ [k1642_, k2643_]) e (r.d * 2 - 1) (hr_.1) ((congrArg SrtE hr_.2).mpr hs) ((congrArg (fun l : List EL => l.length ≤ 1000000) hr_.2).mpr (Nat.le_trans hn (by decide))) (by omega)) H915_ ?_)
           rintro v910_ p919_ w916_ ⟨t911_, o912_, b913_, rfl, rfl, he914_⟩ S918_ H917_
           have S920_ := Same.trans S909_ S918_
           refine ⟨⟨Holds.slrd H917_ 4 rfl, Holds.slrd H917_ 4 rfl, Holds.rd H917_ 2 rfl, Holds.rd H917_ 3 rfl, Holds.rd H917_ 6 rfl, Holds.rd H917_ 7 rfl, Holds.rd H917_ 8 rfl, Holds.rd H917_ 9 rfl, (Holds.ro_at H917_ 0 rfl)⟩, ?_⟩
           have hq921_ := And.intro (Holds.slrd H917_ 4 rfl) (And.intro (Holds.slrd H917_ 4 rfl) (And.intro (Holds.rd H917_ 2 rfl) (And.intro (Holds.rd H917_ 3 rfl) (And.intro (Holds.rd H917_ 6 rfl) (And.intro (Holds.rd H917_ 7 rfl) (And.intro (Holds.rd H917_ 8 rfl) (And.intro (Holds.rd H917_ 9 rfl) ((Holds.ro_at H917_ 0 rfl)))))))))
           refine A_tk 8 (v := (vT #[(vA #[(vI .i64 o912_.key), (vI .i64 o912_.val)]), (vB b913_)])) rfl (by kernel_rfl) (fun w hS => x_move rfl) hq921_ ?_
           refine A_tk 9 (v := (vA #[(vI .i64 o912_.key), (vI .i64 o912_.val)])) rfl (by kernel_rfl) (fun w hS => by kernel_rfl) hq921_ ?_
           refine A_tk 10 (v := (vB b913_)) rfl (by kernel_rfl) (fun w hS => by kernel_rfl) hq921_ ?_
           exact hJ846 _ _ ⟨t911_, o912_, b913_, _, congrArg (fun e => mkA 148 e []) (ch (ch (ch (ch (ch rfl rfl) rfl) rfl) rfl) rfl), H917_, S920_, he914_⟩
          refine AllR.cons ?_ AllR.nil
          refine A_op (ls' := #[true, true, true, true, true, true, true, false, false, false, false, true, false, false]) rfl (by kernel_rfl) (T_alloc z24 H908_ ?_)
          intro b922_ w923_ S925_ H924_
          have S926_ := Same.trans S909_ S925_
          refine ⟨⟨Holds.slrd H924_ 2 rfl, Holds.slrd H924_ 2 rfl, Holds.rd H924_ 5 rfl, Holds.rd H924_ 6 rfl, Holds.rd H924_ 7 rfl, Holds.rd H924_ 8 rfl, Holds.rd H924_ 9 rfl, Holds.rd H924_ 10 rfl, (Holds.ro_at H924_ 4 rfl)⟩, ?_⟩
          exact hJ848 _ _ ⟨b922_, _, congrArg (fun e => mkA 148 e []) (ch (ch (ch (ch (ch (ch (ch rfl rfl) rfl) rfl) rfl) rfl) rfl) rfl), H924_, S926_⟩
         intro hJ845
         refine A_cut #[true, true, true, true, true, true, false, false, false, false, false, true, false, false] 7 (fun a__ w1__ => ∃ b837_ : Nat, ∃ h : Env, a__ = mkA 148 (upd (upd (upd (upd (upd (upd (upd h 0 (vP (some ⟨r.tb, 0, none⟩))) 4 (vP (some ⟨b11_, 0, none⟩))) 5 (vB false)) 9 (vP (some ⟨b837_, 0, none⟩))) 130 (vP (some ⟨a703_, 0, none⟩))) 131 (vA #[(vI .i64 e.key), (vI .i64 e.val)])) 132 (vP (some ⟨r.tb, 0, none⟩))) [] ∧ Holds w1__ (cl b837_ 24 [(vI .i64 0), (vI .i64 0)] :: btp r.c (nodeB ⟨a703_, v724_, v760_, [m_]⟩ [k1642_, k2643_]) :: sl 59 1 (.slice none 0 0) 0 [] :: sl 24 2 (.slice none 0 0) 0 [] :: ro R :: cl r.c 58 [(vP (some ⟨r.fl, 0, none⟩)), (Value.func (.func 16) #[] #[])] :: cl r.fl 74 [(vS r.fa 0 r.fc)] :: cl b652_ 24 [(vI .i64 m_.key), (vI .i64 m_.val)] :: cl b11_ 24 [(vI .i64 0), (vI .i64 0)] :: cl b6_ 24 [(vI .i64 e.key), (vI .i64 e.val)] :: cl r.tb 62 [(vI .i64 (r.d : Int)), (vI .i64 (List.length t.el : Int)), (vP (some ⟨a703_, 0, none⟩)), (vP (some ⟨r.c, 0, none⟩))] :: F) ∧ Same w w1__) ?_ ?_
         ·rintro _ w927_ ⟨b837_, h, rfl, H928_, S929_⟩
          refine A_ready (i := 6) (rs := []) (by kernel_rfl) ?_
          refine AllR.cons ?_ AllR.nil
          refine A_op (ls' := #[true, true, true, true, true, true, true, false, false, false, false, true, false, false]) rfl (by kernel_rfl) (T_callW (al := [(vP (some ⟨r.tb, 0, none⟩))]) rfl rfl cb36 (Calls.into (n := 9) func36 rfl ntmps36 rfl rfl ?_))
          refine cR fun _ hK930_ => ?_
          refine sv (v := (vI .i64 0)) (x_assign rfl) ?_
          refine wn (hK930_ _ _ ?_)
          refine cR fun _ hK931_ => ?_
          refine sm (vP (some ⟨r.tb, 0, none⟩)) ?_
          refine sv (v := (vP (some ⟨r.tb, 0, none⟩))) (by kernel_rfl) ?_
          refine sv (v := (vP (some ⟨r.tb, 0, none⟩))) (by kernel_rfl) ?_
          refine sv (v := (vI .i64 (r.d : Int))) (x_load1 rfl underlying3 rfl ((Holds.rd H928_ 10 rfl) 0 (vI .i64 (r.d : Int)) rfl)) ?_
          refine sv (v := (vI .i64 ((r.d : Int) * 2))) (x_bin rfl rfl (ib_mul (IntWalk.i64_in _ (by omega)))) ?_
          refine sv (v := (vI .i64 (((r.d : Int) * 2) - 1))) (x_bin rfl rfl (ib_sub (IntWalk.i64_in _ (by omega)))) ?_
          refine sv (v := (vI .i64 (((r.d : Int) * 2) - 1))) (x_assign rfl) ?_
          refine wn (hK931_ _ _ ?_)
          refine C_ret ?_
          refine R_any (v := (vI .i64 (((r.d : Int) * 2) - 1))) (run_results1 rfl rfl) ⟨_, rfl, ?_⟩
          refine ⟨⟨Holds.slrd H928_ 2 rfl, Holds.slrd H928_ 2 rfl, Holds.rd H928_ 5 rfl, Holds.rd H928_ 6 rfl, Holds.rd H928_ 7 rfl, Holds.rd H928_ 8 rfl, Holds.rd H928_ 9 rfl, Holds.rd H928_ 10 rfl, (Holds.ro_at H928_ 4 rfl)⟩, ?_⟩
          exact hJ848 _ _ ⟨b837_, _, congrArg (fun e => mkA 148 e []) (ch (ch (ch (ch (ch (ch (ch rfl rfl) rfl) rfl) rfl) rfl) rfl) rfl), H928_, S929_⟩
         intro hJ849
         have hq932_ := And.intro (Holds.slrd H794_ 1 rfl) (And.intro (Holds.slrd H794_ 1 rfl) (And.intro (Holds.rd H794_ 4 rfl) (And.intro (Holds.rd H794_ 5 rfl) (And.intro (Holds.rd H794_ 6 rfl) (And.intro (Holds.rd H794_ 7 rfl) (And.intro (Holds.rd H794_ 8 rfl) (And.intro (Holds.rd H794_ 9 rfl) ((Holds.ro_at H794_ 3 rfl)))))))))
         refine A_tk 0 (v := (vP (some ⟨r.tb, 0, none⟩))) rfl (by kernel_rfl) (fun w hS => x_move rfl) hq932_ ?_
         refine A_tk 1 (v := (vP (some ⟨r.tb, 0, none⟩))) rfl (by kernel_rfl) (fun w hS => by kernel_rfl) hq932_ ?_
         refine A_tk 2 (v := (vP (some ⟨r.tb, 2, none⟩))) rfl (by kernel_rfl) (fun w hS => by kernel_rfl) hq932_ ?_
         refine A_tk 3 (v := (vP (some ⟨a703_, 0, none⟩))) rfl (by kernel_rfl) (fun w hS => x_load1 rfl underlying59 rfl (hS.2.2.2.2.2.2.2.1 2 (vP (some ⟨a703_, 0, none⟩)) rfl)) hq932_ ?_
         refine A_tk 4 (v := (vA #[(vI .i64 e.key), (vI .i64 e.val)])) rfl (by kernel_rfl) (fun w hS => x_loadN (vs := [(vI .i64 e.key), (vI .i64 e.val)]) rfl underlying24 rfl z24 rfl (Rd.cells hS.2.2.2.2.2.2.1 0 rfl)) hq932_ ?_
         refine A_tk 5 (v := (vP (some ⟨r.tb, 0, none⟩))) rfl (by kernel_rfl) (fun w hS => x_move rfl) hq932_ ?_
         refine A_ready (i := 6) (rs := [11]) (by kernel_rfl) ?_
         refine AllR.cons ?_ ?_
         ·skip
          refine A_op (ls' := #[true, true, true, true, true, true, true, false, false, false, false, false, false, false]) rfl (by kernel_rfl) (T_callW (al := [(vP (some ⟨r.tb, 0, none⟩))]) rfl rfl cb36 (Calls.into (n := 9) func36 rfl ntmps36 rfl rfl ?_))
          refine cR fun _ hK933_ => ?_
          refine sv (v := (vI .i64 0)) (x_assign rfl) ?_
          refine wn (hK933_ _ _ ?_)
          refine cR fun _ hK934_ => ?_
          refine sm (vP (some ⟨r.tb, 0, none⟩)) ?_
          refine sv (v := (vP (some ⟨r.tb, 0, none⟩))) (by kernel_rfl) ?_
          refine sv (v := (vP (some ⟨r.tb, 0, none⟩))) (by kernel_rfl) ?_
          refine sv (v := (vI .i64 (r.d : Int))) (x_load1 rfl underlying3 rfl ((Holds.rd H794_ 9 rfl) 0 (vI .i64 (r.d : Int)) rfl)) ?_
          refine sv (v := (vI .i64 ((r.d : Int) * 2))) (x_bin rfl rfl (ib_mul (IntWalk.i64_in _ (by omega)))) ?_
          refine sv (v := (vI .i64 (((r.d : Int) * 2) - 1))) (x_bin rfl rfl (ib_sub (IntWalk.i64_in _ (by omega)))) ?_
          refine sv (v := (vI .i64 (((r.d : Int) * 2) - 1))) (x_assign rfl) ?_
          refine wn (hK934_ _ _ ?_)
          refine C_ret ?_
          refine R_any (v := (vI .i64 (((r.d : Int) * 2) - 1))) (run_results1 rfl rfl) ⟨_, rfl, ?_⟩
          refine ⟨⟨Holds.slrd H794_ 1 rfl, Holds.slrd H794_ 1 rfl, Holds.rd H794_ 4 rfl, Holds.rd H794_ 5 rfl, Holds.rd H794_ 6 rfl, Holds.rd H794_ 7 rfl, Holds.rd H794_ 8 rfl, Holds.rd H794_ 9 rfl, (Holds.ro_at H794_ 3 rfl)⟩, ?_⟩
          exact hJ845 _ _ ⟨_, congrArg (fun e => mkA 148 e []) (ch (ch (ch (ch (ch (ch rfl rfl) rfl) rfl) rfl) rfl) rfl), H794_, (Same.trans S786_ (Same.drew _))⟩
         refine AllR.cons ?_ AllR.nil
         refine A_op (ls' := #[true, true, true, true, true, true, false, false, false, false, false, true, false, false]) rfl (by kernel_rfl) (T_alloc z24 H794_ ?_)
         intro b935_ w936_ S938_ H937_
         have S939_ := Same.trans (Same.trans S786_ (Same.drew _)) S938_
         refine ⟨⟨Holds.slrd H937_ 2 rfl, Holds.slrd H937_ 2 rfl, Holds.rd H937_ 5 rfl, Holds.rd H937_ 6 rfl, Holds.rd H937_ 7 rfl, Holds.rd H937_ 8 rfl, Holds.rd H937_ 9 rfl, Holds.rd H937_ 10 rfl, (Holds.ro_at H937_ 4 rfl)⟩, ?_⟩
         exact hJ849 _ _ ⟨b935_, _, congrArg (fun e => mkA 148 e []) (ch (ch (ch (ch (ch (ch (ch rfl rfl) rfl) rfl) rfl) rfl) rfl) rfl), H937_, S939_⟩
       intro hJ778
       refine A_cut #[true, true, true, true, true, true, true, true, true, true, true, true, true, true, false, false, false, false] 4 (fun a__ w1__ => ∃ b753_ : Nat, ∃ h : Env, a__ = mkA 148 (upd (upd (upd (upd (upd (upd (upd h 0 (vP (some ⟨r.tb, 0, none⟩))) 3 (vP (some ⟨b6_, 0, none⟩))) 4 (vP (some ⟨b11_, 0, none⟩))) 5 (vB false)) 112 (vP (some ⟨a703_, 0, none⟩))) 119 (vS none 0 0)) 122 (vS (some ⟨b753_, 0, none⟩) 2 2)) [] ∧ Holds w1__ (cl b753_ 59 [(vP (some ⟨t.a, 0, none⟩)), (vP (some ⟨k2643_.a, 0, none⟩))] :: sl 24 2 v724_ 1 ([] ++ [(vI .i64 m_.key), (vI .i64 m_.val)]) :: sl 24 2 (.slice none 0 0) 0 [] :: ro R :: cl a703_ 79 [v724_, (vS none 0 0), (vP (some ⟨r.c, 0, none⟩))] :: cl r.c 58 [(vP (some ⟨r.fl, 0, none⟩)), (Value.func (.func 16) #[] #[])] :: cl r.fl 74 [(vS r.fa 0 r.fc)] :: cl b652_ 24 [(vI .i64 m_.key), (vI .i64 m_.val)] :: btp r.c k1642_ :: btp r.c k2643_ :: cl b11_ 24 [(vI .i64 0), (vI .i64 0)] :: cl b6_ 24 [(vI .i64 e.key), (vI .i64 e.val)] :: cl r.tb 62 [(vI .i64 (r.d : Int)), (vI .i64 (List.length t.el : Int)), (vP (some ⟨a703_, 0, none⟩)), (vP (some ⟨r.c, 0, none⟩))] :: F) ∧ Same w w1__) ?_ ?_
       ·rintro _ w940_ ⟨b753_, h, rfl, H941_, S942_⟩
        refine A_ready (i := 14) (rs := []) (by kernel_rfl) ?_
        refine AllR.cons ?_ AllR.nil
        have H943_ : Holds w940_ (sl 59 1 (.slice none 0 0) 0 [] :: cl b753_ 59 [(vP (some ⟨t.a, 0, none⟩)), (vP (some ⟨k2643_.a, 0, none⟩))] :: sl 24 2 v724_ 1 ([] ++ [(vI .i64 m_.key), (vI .i64 m_.val)]) :: sl 24 2 (.slice none 0 0) 0 [] :: ro R :: cl a703_ 79 [v724_, (vS none 0 0), (vP (some ⟨r.c, 0, none⟩))] :: cl r.c 58 [(vP (some ⟨r.fl, 0, none⟩)), (Value.func (.func 16) #[] #[])] :: cl r.fl 74 [(vS r.fa 0 r.fc)] :: cl b652_ 24 [(vI .i64 m_.key), (vI .i64 m_.val)] :: btp r.c k1642_ :: btp r.c k2643_ :: cl b11_ 24 [(vI .i64 0), (vI .i64 0)] :: cl b6_ 24 [(vI .i64 e.key), (vI .i64 e.val)] :: cl r.tb 62 [(vI .i64 (r.d : Int)), (vI .i64 (List.length t.el : Int)), (vP (some ⟨a703_, 0, none⟩)), (vP (some ⟨r.c, 0, none⟩))] :: F) := Holds.add_nil H941_ 59 1
        have H944_ : Holds w940_ (sl 59 1 (.slice none 0 0) 0 [] :: sl 59 1 (.slice none 0 0) 0 [] :: cl b753_ 59 [(vP (some ⟨t.a, 0, none⟩)), (vP (some ⟨k2643_.a, 0, none⟩))] :: sl 24 2 v724_ 1 ([] ++ [(vI .i64 m_.key), (vI .i64 m_.val)]) :: sl 24 2 (.slice none 0 0) 0 [] :: ro R :: cl a703_ 79 [v724_, (vS none 0 0), (vP (some ⟨r.c, 0, none⟩))] :: cl r.c 58 [(vP (some ⟨r.fl, 0, none⟩)), (Value.func (.func 16) #[] #[])] :: cl r.fl 74 [(vS r.fa 0 r.fc)] :: cl b652_ 24 [(vI .i64 m_.key), (vI .i64 m_.val)] :: btp r.c k1642_ :: btp r.c k2643_ :: cl b11_ 24 [(vI .i64 0), (vI .i64 0)] :: cl b6_ 24 [(vI .i64 e.key), (vI .i64 e.val)] :: cl r.tb 62 [(vI .i64 (r.d : Int)), (vI .i64 (List.length t.el : Int)), (vP (some ⟨a703_, 0, none⟩)), (vP (some ⟨r.c, 0, none⟩))] :: F) := Holds.add_nil H943_ 59 1
        refine A_op (ls' := #[true, true, true, true, true, true, true, true, true, true, true, true, true, true, true, false, false, false]) rfl (by kernel_rfl) (T_append rfl rfl underlying77 z59 rfl (by decide) H944_ 0 rfl (Holds.cl_src H943_ 1 rfl underlying77 (by simp [Value.oneCell']) rfl) (by first | omega | (simp only [List.length_append, List.length_cons, List.length_nil]; omega)) ?_)
        intro v945_ w946_ S948_ H947_
        have S949_ := Same.trans S942_ S948_
        refine ⟨⟨Holds.slrd H947_ 3 rfl, Holds.slrd H947_ 1 rfl, Holds.rd H947_ 7 rfl, Holds.rd H947_ 8 rfl, Holds.rd H947_ 9 rfl, Holds.rd H947_ 12 rfl, Holds.rd H947_ 13 rfl, Holds.rd H947_ 14 rfl, (Holds.ro_at H947_ 5 rfl)⟩, ?_⟩
        have hq950_ := And.intro (Holds.slrd H947_ 3 rfl) (And.intro (Holds.slrd H947_ 1 rfl) (And.intro (Holds.rd H947_ 7 rfl) (And.intro (Holds.rd H947_ 8 rfl) (And.intro (Holds.rd H947_ 9 rfl) (And.intro (Holds.rd H947_ 12 rfl) (And.intro (Holds.rd H947_ 13 rfl) (And.intro (Holds.rd H947_ 14 rfl) ((Holds.ro_at H947_ 5 rfl)))))))))
        refine A_tk 15 (v := (vP (some ⟨a703_, 0, none⟩))) rfl (by kernel_rfl) (fun w hS => by kernel_rfl) hq950_ ?_
        refine A_tk 16 (v := (vP (some ⟨a703_, 1, none⟩))) rfl (by kernel_rfl) (fun w hS => by kernel_rfl) hq950_ ?_
        have H951_ := Holds.pkF H947_ [0, 0, 1, 1, 1, 1, 1, 1, 1, 1, 1, 1, 1, 1] 1
        exact hJ778 _ _ ⟨v945_, _, congrArg (fun e => mkA 148 e []) (ch (ch (ch (ch (ch (ch rfl rfl) rfl) rfl) rfl) rfl) rfl), H951_, S949_⟩
       intro hJ777
       refine A_cut #[true, true, true, true, true, true, true, true, true, true, true, true, true, false, false, false, false, false] 5 (fun a__ w1__ => ∃ h : Env, a__ = mkA 148 (upd (upd (upd (upd (upd (upd (upd (upd h 0 (vP (some ⟨r.tb, 0, none⟩))) 3 (vP (some ⟨b6_, 0, none⟩))) 4 (vP (some ⟨b11_, 0, none⟩))) 5 (vB false)) 112 (vP (some ⟨a703_, 0, none⟩))) 119 (vS none 0 0)) 120 (vP (some ⟨t.a, 0, none⟩))) 121 (vP (some ⟨k2643_.a, 0, none⟩))) [] ∧ Holds w1__ (sl 24 2 v724_ 1 ([] ++ [(vI .i64 m_.key), (vI .i64 m_.val)]) :: sl 24 2 (.slice none 0 0) 0 [] :: ro R :: cl a703_ 79 [v724_, (vS none 0 0), (vP (some ⟨r.c, 0, none⟩))] :: cl r.c 58 [(vP (some ⟨r.fl, 0, none⟩)), (Value.func (.func 16) #[] #[])] :: cl r.fl 74 [(vS r.fa 0 r.fc)] :: cl b652_ 24 [(vI .i64 m_.key), (vI .i64 m_.val)] :: btp r.c k1642_ :: btp r.c k2643_ :: cl b11_ 24 [(vI .i64 0), (vI .i64 0)] :: cl b6_ 24 [(vI .i64 e.key), (vI .i64 e.val)] :: cl r.tb 62 [(vI .i64 (r.d : Int)), (vI .i64 (List.length t.el : Int)), (vP (some ⟨a703_, 0, none⟩)), (vP (some ⟨r.c, 0, none⟩))] :: F) ∧ Same w w1__) ?_ ?_
       ·rintro _ w952_ ⟨h, rfl, H953_, S954_⟩
        refine A_ready (i := 13) (rs := []) (by kernel_rfl) ?_
        refine AllR.cons ?_ AllR.nil
        refine A_op (ls' := #[true, true, true, true, true, true, true, true, true, true, true, true, true, true, false, false, false, false]) rfl (by kernel_rfl) (T_new (obj := .cells #[(vP (some ⟨t.a, 0, none⟩)), (vP (some ⟨k2643_.a, 0, none⟩))] 59) (f := fun b__ => .slice (some ⟨b__, 0, none⟩) 2 2) (A := fun b__ => cl b__ 59 [(vP (some ⟨t.a, 0, none⟩)), (vP (some ⟨k2643_.a, 0, none⟩))]) (by kernel_rfl) (fun l h => h.alloc _ _) H953_ ?_)
        intro b955_ w956_ S958_ H957_
        have S959_ := Same.trans S954_ S958_
        refine ⟨⟨Holds.slrd H957_ 1 rfl, Holds.slrd H957_ 2 rfl, Holds.rd H957_ 5 rfl, Holds.rd H957_ 6 rfl, Holds.rd H957_ 7 rfl, Holds.rd H957_ 10 rfl, Holds.rd H957_ 11 rfl, Holds.rd H957_ 12 rfl, (Holds.ro_at H957_ 3 rfl)⟩, ?_⟩
        exact hJ777 _ _ ⟨b955_, _, congrArg (fun e => mkA 148 e []) (ch (ch (ch (ch (ch (ch (ch rfl rfl) rfl) rfl) rfl) rfl) rfl) rfl), H957_, S959_⟩
       intro hJ776
       refine A_cut #[true, true, true, true, true, true, true, true, true, true, false, true, true, true, false, false, false, false] 5 (fun a__ w1__ => ∃ b770_ : Nat, ∃ h : Env, a__ = mkA 148 (upd (upd (upd (upd (upd (upd (upd h 0 (vP (some ⟨r.tb, 0, none⟩))) 3 (vP (some ⟨b6_, 0, none⟩))) 4 (vP (some ⟨b11_, 0, none⟩))) 5 (vB false)) 112 (vP (some ⟨a703_, 0, none⟩))) 118 (vP (some ⟨a703_, 1, none⟩))) 122 (vS (some ⟨b770_, 0, none⟩) 2 2)) [] ∧ Holds w1__ (cl b770_ 59 [(vP (some ⟨t.a, 0, none⟩)), (vP (some ⟨k2643_.a, 0, none⟩))] :: sl 24 2 v724_ 1 ([] ++ [(vI .i64 m_.key), (vI .i64 m_.val)]) :: sl 24 2 (.slice none 0 0) 0 [] :: ro R :: cl a703_ 79 [v724_, (vS none 0 0), (vP (some ⟨r.c, 0, none⟩))] :: cl r.c 58 [(vP (some ⟨r.fl, 0, none⟩)), (Value.func (.func 16) #[] #[])] :: cl r.fl 74 [(vS r.fa 0 r.fc)] :: cl b652_ 24 [(vI .i64 m_.key), (vI .i64 m_.val)] :: btp r.c k1642_ :: btp r.c k2643_ :: cl b11_ 24 [(vI .i64 0), (vI .i64 0)] :: cl b6_ 24 [(vI .i64 e.key), (vI .i64 e.val)] :: cl r.tb 62 [(vI .i64 (r.d : Int)), (vI .i64 (List.length t.el : Int)), (vP (some ⟨a703_, 0, none⟩)), (vP (some ⟨r.c, 0, none⟩))] :: F) ∧ Same w w1__) ?_ ?_
       ·rintro _ w960_ ⟨b770_, h, rfl, H961_, S962_⟩
        refine A_ready (i := 10) (rs := []) (by kernel_rfl) ?_
        refine AllR.cons ?_ AllR.nil
        refine A_op (ls' := #[true, true, true, true, true, true, true, true, true, true, true, true, true, true, false, false, false, false]) rfl (by kernel_rfl) (T_val (v := (vS none 0 0)) (x_load1 rfl underlying77 rfl ((Holds.rd H961_ 4 rfl) 1 (vS none 0 0) rfl)) ?_)
        refine ⟨⟨Holds.slrd H961_ 1 rfl, Holds.slrd H961_ 2 rfl, Holds.rd H961_ 5 rfl, Holds.rd H961_ 6 rfl, Holds.rd H961_ 7 rfl, Holds.rd H961_ 10 rfl, Holds.rd H961_ 11 rfl, Holds.rd H961_ 12 rfl, (Holds.ro_at H961_ 3 rfl)⟩, ?_⟩
        exact hJ777 _ _ ⟨b770_, _, congrArg (fun e => mkA 148 e []) (ch (ch (ch (ch (ch (ch (ch rfl rfl) rfl) rfl) rfl) rfl) rfl) rfl), H961_, S962_⟩
       intro hJ779
       have hq963_ := And.intro (Holds.slrd H751_ 0 rfl) (And.intro (Holds.slrd H751_ 1 rfl) (And.intro (Holds.rd H751_ 4 rfl) (And.intro (Holds.rd H751_ 5 rfl) (And.intro (Holds.rd H751_ 6 rfl) (And.intro (Holds.rd H751_ 9 rfl) (And.intro (Holds.rd H751_ 10 rfl) (And.intro (Holds.rd H751_ 11 rfl) ((Holds.ro_at H751_ 2 rfl)))))))))
       refine A_tk 0 (v := (vP (some ⟨r.tb, 0, none⟩))) rfl (by kernel_rfl) (fun w hS => x_move rfl) hq963_ ?_
       refine A_tk 1 (v := (vP (some ⟨r.tb, 0, none⟩))) rfl (by kernel_rfl) (fun w hS => by kernel_rfl) hq963_ ?_
       refine A_tk 2 (v := (vP (some ⟨r.tb, 2, none⟩))) rfl (by kernel_rfl) (fun w hS => by kernel_rfl) hq963_ ?_
       refine A_tk 3 (v := (vP (some ⟨a703_, 0, none⟩))) rfl (by kernel_rfl) (fun w hS => x_load1 rfl underlying59 rfl (hS.2.2.2.2.2.2.2.1 2 (vP (some ⟨a703_, 0, none⟩)) rfl)) hq963_ ?_
       refine A_tk 4 (v := (vP (some ⟨r.tb, 0, none⟩))) rfl (by kernel_rfl) (fun w hS => x_move rfl) hq963_ ?_
       refine A_tk 5 (v := (vP (some ⟨r.tb, 0, none⟩))) rfl (by kernel_rfl) (fun w hS => by kernel_rfl) hq963_ ?_
       refine A_tk 6 (v := (vP (some ⟨r.tb, 2, none⟩))) rfl (by kernel_rfl) (fun w hS => by kernel_rfl) hq963_ ?_
       refine A_tk 7 (v := (vP (some ⟨a703_, 0, none⟩))) rfl (by kernel_rfl) (fun w hS => x_load1 rfl underlying59 rfl (hS.2.2.2.2.2.2.2.1 2 (vP (some ⟨a703_, 0, none⟩)) rfl)) hq963_ ?_
       refine A_tk 8 (v := (vP (some ⟨a703_, 0, none⟩))) rfl (by kernel_rfl) (fun w hS => by kernel_rfl) hq963_ ?_
       refine A_tk 9 (v := (vP (some ⟨a703_, 1, none⟩))) rfl (by kernel_rfl) (fun w hS => by kernel_rfl) hq963_ ?_
       refine A_tk 11 (v := (vP (some ⟨t.a, 0, none⟩))) rfl (by kernel_rfl) (fun w hS => x_move rfl) hq963_ ?_
       refine A_tk 12 (v := (vP (some ⟨k2643_.a, 0, none⟩))) rfl (by kernel_rfl) (fun w hS => x_move rfl) hq963_ ?_
       refine A_ready (i := 10) (rs := [13]) (by kernel_rfl) ?_
       refine AllR.cons ?_ ?_
       ·skip
        refine A_op (ls' := #[true, true, true, true, true, true, true, true, true, true, true, true, true, false, false, false, false, false]) rfl (by kernel_rfl) (T_val (v := (vS none 0 0)) (x_load1 rfl underlying77 rfl ((Holds.rd H751_ 3 rfl) 1 (vS none 0 0) rfl)) ?_)
        refine ⟨⟨Holds.slrd H751_ 0 rfl, Holds.slrd H751_ 1 rfl, Holds.rd H751_ 4 rfl, Holds.rd H751_ 5 rfl, Holds.rd H751_ 6 rfl, Holds.rd H751_ 9 rfl, Holds.rd H751_ 10 rfl, Holds.rd H751_ 11 rfl, (Holds.ro_at H751_ 2 rfl)⟩, ?_⟩
        exact hJ776 _ _ ⟨_, congrArg (fun e => mkA 148 e []) (ch (ch (ch (ch (ch (ch (ch (ch rfl rfl) rfl) rfl) rfl) rfl) rfl) rfl) rfl), H751_, (Same.trans S750_ (Same.drew _))⟩
       refine AllR.cons ?_ AllR.nil
       refine A_op (ls' := #[true, true, true, true, true, true, true, true, true, true, false, true, true, true, false, false, false, false]) rfl (by kernel_rfl) (T_new (obj := .cells #[(vP (some ⟨t.a, 0, none⟩)), (vP (some ⟨k2643_.a, 0, none⟩))] 59) (f := fun b__ => .slice (some ⟨b__, 0, none⟩) 2 2) (A := fun b__ => cl b__ 59 [(vP (some ⟨t.a, 0, none⟩)), (vP (some ⟨k2643_.a, 0, none⟩))]) (by kernel_rfl) (fun l h => h.alloc _ _) H751_ ?_)
       intro b964_ w965_ S967_ H966_
       have S968_ := Same.trans (Same.trans S750_ (Same.drew _)) S967_
       refine ⟨⟨Holds.slrd H966_ 1 rfl, Holds.slrd H966_ 2 rfl, Holds.rd H966_ 5 rfl, Holds.rd H966_ 6 rfl, Holds.rd H966_ 7 rfl, Holds.rd H966_ 10 rfl, Holds.rd H966_ 11 rfl, Holds.rd H966_ 12 rfl, (Holds.ro_at H966_ 3 rfl)⟩, ?_⟩
       exact hJ779 _ _ ⟨b964_, _, congrArg (fun e => mkA 148 e []) (ch (ch (ch (ch (ch (ch (ch rfl rfl) rfl) rfl) rfl) rfl) rfl) rfl), H966_, S968_⟩
      intro hJ742
      refine A_cut #[true, true, true, true, true, true, true, true, true, true, true, true, true, false, false, false, false] 4 (fun a__ w1__ => ∃ b717_ : Nat, ∃ h : Env, a__ = mkA 148 (upd (upd (upd (upd (upd (upd (upd (upd (upd h 0 (vP (some ⟨r.tb, 0, none⟩))) 3 (vP (some ⟨b6_, 0, none⟩))) 4 (vP (some ⟨b11_, 0, none⟩))) 5 (vB false)) 7 (vP (some ⟨k2643_.a, 0, none⟩))) 8 (vP (some ⟨t.a, 0, none⟩))) 96 (vP (some ⟨a703_, 0, none⟩))) 103 (vS none 0 0)) 105 (vS (some ⟨b717_, 0, none⟩) 1 1)) [] ∧ Holds w1__ (cl b717_ 24 [(vI .i64 m_.key), (vI .i64 m_.val)] :: ro R :: cl a703_ 79 [(vS none 0 0), (vS none 0 0), (vP (some ⟨r.c, 0, none⟩))] :: cl r.c 58 [(vP (some ⟨r.fl, 0, none⟩)), (Value.func (.func 16) #[] #[])] :: cl r.fl 74 [(vS r.fa 0 r.fc)] :: cl b652_ 24 [(vI .i64 m_.key), (vI .i64 m_.val)] :: btp r.c k1642_ :: btp r.c k2643_ :: cl b11_ 24 [(vI .i64 0), (vI .i64 0)] :: cl b6_ 24 [(vI .i64 e.key), (vI .i64 e.val)] :: cl r.tb 62 [(vI .i64 (r.d : Int)), (vI .i64 (List.length t.el : Int)), (vP (some ⟨a703_, 0, none⟩)), (vP (some ⟨r.c, 0, none⟩))] :: F) ∧ Same w w1__) ?_ ?_
      ·rintro _ w969_ ⟨b717_, h, rfl, H970_, S971_⟩
       refine A_ready (i := 13) (rs := []) (by kernel_rfl) ?_
       refine AllR.cons ?_ AllR.nil
       have H972_ : Holds w969_ (sl 24 2 (.slice none 0 0) 0 [] :: cl b717_ 24 [(vI .i64 m_.key), (vI .i64 m_.val)] :: ro R :: cl a703_ 79 [(vS none 0 0), (vS none 0 0), (vP (some ⟨r.c, 0, none⟩))] :: cl r.c 58 [(vP (some ⟨r.fl, 0, none⟩)), (Value.func (.func 16) #[] #[])] :: cl r.fl 74 [(vS r.fa 0 r.fc)] :: cl b652_ 24 [(vI .i64 m_.key), (vI .i64 m_.val)] :: btp r.c k1642_ :: btp r.c k2643_ :: cl b11_ 24 [(vI .i64 0), (vI .i64 0)] :: cl b6_ 24 [(vI .i64 e.key), (vI .i64 e.val)] :: cl r.tb 62 [(vI .i64 (r.d : Int)), (vI .i64 (List.length t.el : Int)), (vP (some ⟨a703_, 0, none⟩)), (vP (some ⟨r.c, 0, none⟩))] :: F) := Holds.add_nil H970_ 24 2
       have H973_ : Holds w969_ (sl 24 2 (.slice none 0 0) 0 [] :: sl 24 2 (.slice none 0 0) 0 [] :: cl b717_ 24 [(vI .i64 m_.key), (vI .i64 m_.val)] :: ro R :: cl a703_ 79 [(vS none 0 0), (vS none 0 0), (vP (some ⟨r.c, 0, none⟩))] :: cl r.c 58 [(vP (some ⟨r.fl, 0, none⟩)), (Value.func (.func 16) #[] #[])] :: cl r.fl 74 [(vS r.fa 0 r.fc)] :: cl b652_ 24 [(vI .i64 m_.key), (vI .i64 m_.val)] :: btp r.c k1642_ :: btp r.c k2643_ :: cl b11_ 24 [(vI .i64 0), (vI .i64 0)] :: cl b6_ 24 [(vI .i64 e.key), (vI .i64 e.val)] :: cl r.tb 62 [(vI .i64 (r.d : Int)), (vI .i64 (List.length t.el : Int)), (vP (some ⟨a703_, 0, none⟩)), (vP (some ⟨r.c, 0, none⟩))] :: F) := Holds.add_nil H972_ 24 2
       refine A_op (ls' := #[true, true, true, true, true, true, true, true, true, true, true, true, true, true, false, false, false]) rfl (by kernel_rfl) (T_append rfl rfl underlying76 z24 rfl (by decide) H973_ 0 rfl (Holds.cl_src H972_ 1 rfl underlying76 (by simp [Value.oneCell']) rfl) (by first | omega | (simp only [List.length_append, List.length_cons, List.length_nil]; omega)) ?_)
       intro v974_ w975_ S977_ H976_
       have S978_ := Same.trans S971_ S977_
       refine ⟨⟨Holds.rd H976_ 5 rfl, Holds.rd H976_ 6 rfl, Holds.rd H976_ 7 rfl, Holds.rd H976_ 10 rfl, Holds.rd H976_ 11 rfl, Holds.rd H976_ 12 rfl, (Holds.ro_at H976_ 3 rfl)⟩, ?_⟩
       have hq979_ := And.intro (Holds.rd H976_ 5 rfl) (And.intro (Holds.rd H976_ 6 rfl) (And.intro (Holds.rd H976_ 7 rfl) (And.intro (Holds.rd H976_ 10 rfl) (And.intro (Holds.rd H976_ 11 rfl) (And.intro (Holds.rd H976_ 12 rfl) ((Holds.ro_at H976_ 3 rfl)))))))
       refine A_tk 14 (v := (vP (some ⟨a703_, 0, none⟩))) rfl (by kernel_rfl) (fun w hS => by kernel_rfl) hq979_ ?_
       refine A_tk 15 (v := (vP (some ⟨a703_, 0, none⟩))) rfl (by kernel_rfl) (fun w hS => by kernel_rfl) hq979_ ?_
       have H980_ := Holds.pkF H976_ [0, 0, 1, 1, 1, 1, 1, 1, 1, 1, 1, 1] 1
       exact hJ742 _ _ ⟨v974_, _, congrArg (fun e => mkA 148 e []) (ch (ch (ch (ch (ch (ch (ch (ch rfl rfl) rfl) rfl) rfl) rfl) rfl) rfl) rfl), H980_, S978_⟩
      intro hJ741
      refine A_cut #[true, true, true, true, true, true, true, true, true, true, true, true, false, false, false, false, false] 5 (fun a__ w1__ => ∃ h : Env, a__ = mkA 148 (upd (upd (upd (upd (upd (upd (upd (upd (upd h 0 (vP (some ⟨r.tb, 0, none⟩))) 3 (vP (some ⟨b6_, 0, none⟩))) 4 (vP (some ⟨b11_, 0, none⟩))) 5 (vB false)) 7 (vP (some ⟨k2643_.a, 0, none⟩))) 8 (vP (some ⟨t.a, 0, none⟩))) 96 (vP (some ⟨a703_, 0, none⟩))) 103 (vS none 0 0)) 104 (vA #[(vI .i64 m_.key), (vI .i64 m_.val)])) [] ∧ Holds w1__ (ro R :: cl a703_ 79 [(vS none 0 0), (vS none 0 0), (vP (some ⟨r.c, 0, none⟩))] :: cl r.c 58 [(vP (some ⟨r.fl, 0, none⟩)), (Value.func (.func 16) #[] #[])] :: cl r.fl 74 [(vS r.fa 0 r.fc)] :: cl b652_ 24 [(vI .i64 m_.key), (vI .i64 m_.val)] :: btp r.c k1642_ :: btp r.c k2643_ :: cl b11_ 24 [(vI .i64 0), (vI .i64 0)] :: cl b6_ 24 [(vI .i64 e.key), (vI .i64 e.val)] :: cl r.tb 62 [(vI .i64 (r.d : Int)), (vI .i64 (List.length t.el : Int)), (vP (some ⟨a703_, 0, none⟩)), (vP (some ⟨r.c, 0, none⟩))] :: F) ∧ Same w w1__) ?_ ?_
      ·rintro _ w981_ ⟨h, rfl, H982_, S983_⟩
       refine A_ready (i := 12) (rs := []) (by kernel_rfl) ?_
       refine AllR.cons ?_ AllR.nil
       refine A_op (ls' := #[true, true, true, true, true, true, true, true, true, true, true, true, true, false, false, false, false]) rfl (by kernel_rfl) (T_new (obj := .cells #[(vI .i64 m_.key), (vI .i64 m_.val)] 24) (f := fun b__ => .slice (some ⟨b__, 0, none⟩) 1 1) (A := fun b__ => cl b__ 24 [(vI .i64 m_.key), (vI .i64 m_.val)]) (by kernel_rfl) (fun l h => h.alloc _ _) H982_ ?_)
       intro b984_ w985_ S987_ H986_
       have S988_ := Same.trans S983_ S987_
       refine ⟨⟨Holds.rd H986_ 3 rfl, Holds.rd H986_ 4 rfl, Holds.rd H986_ 5 rfl, Holds.rd H986_ 8 rfl, Holds.rd H986_ 9 rfl, Holds.rd H986_ 10 rfl, (Holds.ro_at H986_ 1 rfl)⟩, ?_⟩
       exact hJ741 _ _ ⟨b984_, _, congrArg (fun e => mkA 148 e []) (ch (ch (ch (ch (ch (ch (ch (ch (ch rfl rfl) rfl) rfl) rfl) rfl) rfl) rfl) rfl) rfl), H986_, S988_⟩
      intro hJ740
      refine A_cut #[true, true, true, true, true, true, true, true, true, true, false, true, true, false, false, false, false] 5 (fun a__ w1__ => ∃ b734_ : Nat, ∃ h : Env, a__ = mkA 148 (upd (upd (upd (upd (upd (upd (upd (upd (upd h 0 (vP (some ⟨r.tb, 0, none⟩))) 3 (vP (some ⟨b6_, 0, none⟩))) 4 (vP (some ⟨b11_, 0, none⟩))) 5 (vB false)) 7 (vP (some ⟨k2643_.a, 0, none⟩))) 8 (vP (some ⟨t.a, 0, none⟩))) 96 (vP (some ⟨a703_, 0, none⟩))) 102 (vP (some ⟨a703_, 0, none⟩))) 105 (vS (some ⟨b734_, 0, none⟩) 1 1)) [] ∧ Holds w1__ (cl b734_ 24 [(vI .i64 m_.key), (vI .i64 m_.val)] :: ro R :: cl a703_ 79 [(vS none 0 0), (vS none 0 0), (vP (some ⟨r.c, 0, none⟩))] :: cl r.c 58 [(vP (some ⟨r.fl, 0, none⟩)), (Value.func (.func 16) #[] #[])] :: cl r.fl 74 [(vS r.fa 0 r.fc)] :: cl b652_ 24 [(vI .i64 m_.key), (vI .i64 m_.val)] :: btp r.c k1642_ :: btp r.c k2643_ :: cl b11_ 24 [(vI .i64 0), (vI .i64 0)] :: cl b6_ 24 [(vI .i64 e.key), (vI .i64 e.val)] :: cl r.tb 62 [(vI .i64 (r.d : Int)), (vI .i64 (List.length t.el : Int)), (vP (some ⟨a703_, 0, none⟩)), (vP (some ⟨r.c, 0, none⟩))] :: F) ∧ Same w w1__) ?_ ?_
      ·rintro _ w989_ ⟨b734_, h, rfl, H990_, S991_⟩
       refine A_ready (i := 10) (rs := []) (by kernel_rfl) ?_
       refine AllR.cons ?_ AllR.nil
       refine A_op (ls' := #[true, true, true, true, true, true, true, true, true, true, true, true, true, false, false, false, false]) rfl (by kernel_rfl) (T_val (v := (vS none 0 0)) (x_load1 rfl underlying76 rfl ((Holds.rd H990_ 2 rfl) 0 (vS none 0 0) rfl)) ?_)
       refine ⟨⟨Holds.rd H990_ 3 rfl, Holds.rd H990_ 4 rfl, Holds.rd H990_ 5 rfl, Holds.rd H990_ 8 rfl, Holds.rd H990_ 9 rfl, Holds.rd H990_ 10 rfl, (Holds.ro_at H990_ 1 rfl)⟩, ?_⟩
       exact hJ741 _ _ ⟨b734_, _, congrArg (fun e => mkA 148 e []) (ch (ch (ch (ch (ch (ch (ch (ch (ch rfl rfl) rfl) rfl) rfl) rfl) rfl) rfl) rfl) rfl), H990_, S991_⟩
      intro hJ743
      have hq992_ := And.intro (Holds.rd H715_ 2 rfl) (And.intro (Holds.rd H715_ 3 rfl) (And.intro (Holds.rd H715_ 4 rfl) (And.intro (Holds.rd H715_ 7 rfl) (And.intro (Holds.rd H715_ 8 rfl) (And.intro (Holds.rd H715_ 9 rfl) ((Holds.ro_at H715_ 0 rfl)))))))
      refine A_tk 0 (v := (vP (some ⟨r.tb, 0, none⟩))) rfl (by kernel_rfl) (fun w hS => x_move rfl) hq992_ ?_
      refine A_tk 1 (v := (vP (some ⟨r.tb, 0, none⟩))) rfl (by kernel_rfl) (fun w hS => by kernel_rfl) hq992_ ?_
      refine A_tk 2 (v := (vP (some ⟨r.tb, 2, none⟩))) rfl (by kernel_rfl) (fun w hS => by kernel_rfl) hq992_ ?_
      refine A_tk 3 (v := (vP (some ⟨a703_, 0, none⟩))) rfl (by kernel_rfl) (fun w hS => x_load1 rfl underlying59 rfl (hS.2.2.2.2.2.1 2 (vP (some ⟨a703_, 0, none⟩)) rfl)) hq992_ ?_
      refine A_tk 4 (v := (vP (some ⟨r.tb, 0, none⟩))) rfl (by kernel_rfl) (fun w hS => x_move rfl) hq992_ ?_
      refine A_tk 5 (v := (vP (some ⟨r.tb, 0, none⟩))) rfl (by kernel_rfl) (fun w hS => by kernel_rfl) hq992_ ?_
      refine A_tk 6 (v := (vP (some ⟨r.tb, 2, none⟩))) rfl (by kernel_rfl) (fun w hS => by kernel_rfl) hq992_ ?_
      refine A_tk 7 (v := (vP (some ⟨a703_, 0, none⟩))) rfl (by kernel_rfl) (fun w hS => x_load1 rfl underlying59 rfl (hS.2.2.2.2.2.1 2 (vP (some ⟨a703_, 0, none⟩)) rfl)) hq992_ ?_
      refine A_tk 8 (v := (vP (some ⟨a703_, 0, none⟩))) rfl (by kernel_rfl) (fun w hS => by kernel_rfl) hq992_ ?_
      refine A_tk 9 (v := (vP (some ⟨a703_, 0, none⟩))) rfl (by kernel_rfl) (fun w hS => by kernel_rfl) hq992_ ?_
      refine A_tk 11 (v := (vA #[(vI .i64 m_.key), (vI .i64 m_.val)])) rfl (by kernel_rfl) (fun w hS => x_loadN (vs := [(vI .i64 m_.key), (vI .i64 m_.val)]) rfl underlying24 rfl z24 rfl (Rd.cells hS.2.2.1 0 rfl)) hq992_ ?_
      refine A_ready (i := 10) (rs := [12]) (by kernel_rfl) ?_
      refine AllR.cons ?_ ?_
      ·skip
       refine A_op (ls' := #[true, true, true, true, true, true, true, true, true, true, true, true, false, false, false, false, false]) rfl (by kernel_rfl) (T_val (v := (vS none 0 0)) (x_load1 rfl underlying76 rfl ((Holds.rd H715_ 1 rfl) 0 (vS none 0 0) rfl)) ?_)
       refine ⟨⟨Holds.rd H715_ 2 rfl, Holds.rd H715_ 3 rfl, Holds.rd H715_ 4 rfl, Holds.rd H715_ 7 rfl, Holds.rd H715_ 8 rfl, Holds.rd H715_ 9 rfl, (Holds.ro_at H715_ 0 rfl)⟩, ?_⟩
       exact hJ740 _ _ ⟨_, congrArg (fun e => mkA 148 e []) (ch (ch (ch (ch (ch (ch (ch (ch (ch rfl rfl) rfl) rfl) rfl) rfl) rfl) rfl) rfl) rfl), H715_, (Same.trans S713_ (Same.drew _))⟩
      refine AllR.cons ?_ AllR.nil
      refine A_op (ls' := #[true, true, true, true, true, true, true, true, true, true, false, true, true, false, false, false, false]) rfl (by kernel_rfl) (T_new (obj := .cells #[(vI .i64 m_.key), (vI .i64 m_.val)] 24) (f := fun b__ => .slice (some ⟨b__, 0, none⟩) 1 1) (A := fun b__ => cl b__ 24 [(vI .i64 m_.key), (vI .i64 m_.val)]) (by kernel_rfl) (fun l h => h.alloc _ _) H715_ ?_)
      intro b993_ w994_ S996_ H995_
      have S997_ := Same.trans (Same.trans S713_ (Same.drew _)) S996_
      refine ⟨⟨Holds.rd H995_ 3 rfl, Holds.rd H995_ 4 rfl, Holds.rd H995_ 5 rfl, Holds.rd H995_ 8 rfl, Holds.rd H995_ 9 rfl, Holds.rd H995_ 10 rfl, (Holds.ro_at H995_ 1 rfl)⟩, ?_⟩
      exact hJ743 _ _ ⟨b993_, _, congrArg (fun e => mkA 148 e []) (ch (ch (ch (ch (ch (ch (ch (ch (ch rfl rfl) rfl) rfl) rfl) rfl) rfl) rfl) rfl) rfl), H995_, S997_⟩
     intro hJ689
     refine A_cut #[true, true, true, true, true, true, true, true, true, true, true, false, false, false] 3 (fun a__ w1__ => ∃ k1642_ : BT z, ∃ k2643_ : BT z, ∃ h : Env, a__ = mkA 148 (upd (upd (upd (upd (upd (upd h 0 (vP (some ⟨r.tb, 0, none⟩))) 3 (vP (some ⟨b6_, 0, none⟩))) 4 (vP (some ⟨b11_, 0, none⟩))) 5 (vB false)) 79 (vA #[(vI .i64 m_.key), (vI .i64 m_.val)])) 80 (vP (some ⟨k2643_.a, 0, none⟩))) [] ∧ Holds w1__ (ro R :: btp r.c k1642_ :: btp r.c k2643_ :: cl r.c 58 [(vP (some ⟨r.fl, 0, none⟩)), (Value.func (.func 16) #[] #[])] :: cl r.fl 74 [(vS r.fa 0 r.fc)] :: cl b11_ 24 [(vI .i64 0), (vI .i64 0)] :: cl b6_ 24 [(vI .i64 e.key), (vI .i64 e.val)] :: cl r.tb 62 [(vI .i64 (r.d : Int)), (vI .i64 (List.length t.el : Int)), (vP (some ⟨t.a, 0, none⟩)), (vP (some ⟨r.c, 0, none⟩))] :: F) ∧ Same w w1__ ∧ (Spl t k1642_ k2643_ m_)) ?_ ?_
     ·rintro _ w998_ ⟨k1642_, k2643_, h, rfl, H999_, S1000_, he644_⟩
      refine A_ready (i := 11) (rs := []) (by kernel_rfl) ?_
      refine AllR.cons ?_ AllR.nil
      refine A_op (ls' := #[true, true, true, true, true, true, true, true, true, true, true, true, false, false]) rfl (by kernel_rfl) (T_alloc z24 H999_ ?_)
      intro b1001_ w1002_ S1004_ H1003_
      have S1005_ := Same.trans S1000_ S1004_
      refine ⟨⟨Holds.rd H1003_ 6 rfl, Holds.rd H1003_ 7 rfl, Holds.rd H1003_ 8 rfl, Holds.rd H1003_ 4 rfl, Holds.rd H1003_ 5 rfl, (Holds.ro_at H1003_ 1 rfl)⟩, ?_⟩
      exact hJ689 _ _ ⟨k1642_, k2643_, b1001_, _, congrArg (fun e => mkA 148 e []) (ch (ch (ch (ch (ch (ch (ch rfl rfl) rfl) rfl) rfl) rfl) rfl) rfl), H1003_, S1005_, he644_⟩
     intro hJ688
     refine A_cut #[true, true, true, true, true, true, true, false, false, false, false, true, false, false] 6 (fun a__ w1__ => ∃ b662_ : Nat, ∃ h : Env, a__ = mkA 148 (upd (upd (upd (upd (upd (upd (upd h 0 (vP (some ⟨r.tb, 0, none⟩))) 3 (vP (some ⟨b6_, 0, none⟩))) 4 (vP (some ⟨b11_, 0, none⟩))) 5 (vB false)) 6 (vP (some ⟨b662_, 0, none⟩))) 74 (vP (some ⟨t.a, 0, none⟩))) 77 (vI .i64 ((r.d - 1 : Nat) : Int))) [] ∧ Holds w1__ (cl b662_ 24 [(vI .i64 0), (vI .i64 0)] :: btp r.c t :: ro R :: cl b11_ 24 [(vI .i64 0), (vI .i64 0)] :: cl b6_ 24 [(vI .i64 e.key), (vI .i64 e.val)] :: cl r.tb 62 [(vI .i64 (r.d : Int)), (vI .i64 (List.length t.el : Int)), (vP (some ⟨t.a, 0, none⟩)), (vP (some ⟨r.c, 0, none⟩))] :: cl r.c 58 [(vP (some ⟨r.fl, 0, none⟩)), (Value.func (.func 16) #[] #[])] :: cl r.fl 74 [(vS r.fa 0 r.fc)] :: F) ∧ Same w w1__) ?_ ?_
     ·rintro _ w1006_ ⟨b662_, h, rfl, H1007_, S1008_⟩
      refine A_ready (i := 7) (rs := []) (by kernel_rfl) ?_
      refine AllR.cons ?_ AllR.nil
      have H1013_ := ((Holds.bring (Holds.bring (Holds.bring (Holds.bring H1007_ 7 rfl) 7 rfl) 3 rfl) 4 rfl) :)
      refine A_op (ls' := #[true, true, true, true, true, true, true, true, false, false, false, true, false, false]) rfl (by kernel_rfl) (T_call (al := [(vP (some ⟨t.a, 0, none⟩)), (vI .i64 ((r.d - 1 : Nat) : Int))]) (pre := [btp r.c t, cl r.c 58 [(vP (some ⟨r.fl, 0, none⟩)), (Value.func (.func 16) #[] #[])], cl r.fl 74 [(vS r.fa 0 r.fc)]]) rfl rfl cb37 (btSplit R r.c r.fl r.fc r.fa z t (r.d - 1) m_ (hw) (hm_) (hnx)) H1013_ ?_)
      rintro v1009_ p1017_ w1014_ ⟨k11010_, k21011_, rfl, rfl, he1012_⟩ S1016_ H1015_
      have S1018_ := Same.trans S1008_ S1016_
      refine ⟨⟨Holds.rd H1015_ 6 rfl, Holds.rd H1015_ 7 rfl, Holds.rd H1015_ 8 rfl, Holds.rd H1015_ 3 rfl, Holds.rd H1015_ 4 rfl, (Holds.ro_at H1015_ 0 rfl)⟩, ?_⟩
      have hq1019_ := And.intro (Holds.rd H1015_ 6 rfl) (And.intro (Holds.rd H1015_ 7 rfl) (And.intro (Holds.rd H1015_ 8 rfl) (And.intro (Holds.rd H1015_ 3 rfl) (And.intro (Holds.rd H1015_ 4 rfl) ((Holds.ro_at H1015_ 0 rfl))))))
      refine A_tk 8 (v := (vT #[(vA #[(vI .i64 m_.key), (vI .i64 m_.val)]), (vP (some ⟨k21011_.a, 0, none⟩))])) rfl (by kernel_rfl) (fun w hS => x_move rfl) hq1019_ ?_
      refine A_tk 9 (v := (vA #[(vI .i64 m_.key), (vI .i64 m_.val)])) rfl (by kernel_rfl) (fun w hS => by kernel_rfl) hq1019_ ?_
      refine A_tk 10 (v := (vP (some ⟨k21011_.a, 0, none⟩))) rfl (by kernel_rfl) (fun w hS => by kernel_rfl) hq1019_ ?_
      have H1020_ := Holds.pkF H1015_ [5, 0, 0, 0, 0, 0, 0, 0, 0] 0
      exact hJ689 _ _ ⟨k11010_, k21011_, b662_, _, congrArg (fun e => mkA 148 e []) (ch (ch (ch (ch (ch (ch (ch rfl rfl) rfl) rfl) rfl) rfl) rfl) rfl), H1020_, S1018_, he1012_⟩
     intro hJ690
     refine A_cut #[true, true, true, true, true, true, true, false, false, false, false, false, false, false] 7 (fun a__ w1__ => ∃ h : Env, a__ = mkA 148 (upd (upd (upd (upd (upd (upd h 0 (vP (some ⟨r.tb, 0, none⟩))) 3 (vP (some ⟨b6_, 0, none⟩))) 4 (vP (some ⟨b11_, 0, none⟩))) 5 (vB false)) 74 (vP (some ⟨t.a, 0, none⟩))) 77 (vI .i64 ((r.d - 1 : Nat) : Int))) [] ∧ Holds w1__ (btp r.c t :: ro R :: cl b11_ 24 [(vI .i64 0), (vI .i64 0)] :: cl b6_ 24 [(vI .i64 e.key), (vI .i64 e.val)] :: cl r.tb 62 [(vI .i64 (r.d : Int)), (vI .i64 (List.length t.el : Int)), (vP (some ⟨t.a, 0, none⟩)), (vP (some ⟨r.c, 0, none⟩))] :: cl r.c 58 [(vP (some ⟨r.fl, 0, none⟩)), (Value.func (.func 16) #[] #[])] :: cl r.fl 74 [(vS r.fa 0 r.fc)] :: F) ∧ Same w w1__) ?_ ?_
     ·rintro _ w1021_ ⟨h, rfl, H1022_, S1023_⟩
      refine A_ready (i := 7) (rs := [11]) (by kernel_rfl) ?_
      refine AllR.cons ?_ ?_
      ·skip
       have H1028_ := ((Holds.bring (Holds.bring (Holds.bring (Holds.bring H1022_ 6 rfl) 6 rfl) 2 rfl) 3 rfl) :)
       refine A_op (ls' := #[true, true, true, true, true, true, true, true, false, false, false, false, false, false]) rfl (by kernel_rfl) (T_call (al := [(vP (some ⟨t.a, 0, none⟩)), (vI .i64 ((r.d - 1 : Nat) : Int))]) (pre := [btp r.c t, cl r.c 58 [(vP (some ⟨r.fl, 0, none⟩)), (Value.func (.func 16) #[] #[])], cl r.fl 74 [(vS r.fa 0 r.fc)]]) rfl rfl cb37 (btSplit R r.c r.fl r.fc r.fa z t (r.d - 1) m_ (hw) (hm_) (hnx)) H1028_ ?_)
       rintro v1024_ p1032_ w1029_ ⟨k11025_, k21026_, rfl, rfl, he1027_⟩ S1031_ H1030_
       have S1033_ := Same.trans S1023_ S1031_
       refine ⟨⟨Holds.rd H1030_ 5 rfl, Holds.rd H1030_ 6 rfl, Holds.rd H1030_ 7 rfl, Holds.rd H1030_ 3 rfl, Holds.rd H1030_ 4 rfl, (Holds.ro_at H1030_ 0 rfl)⟩, ?_⟩
       have hq1034_ := And.intro (Holds.rd H1030_ 5 rfl) (And.intro (Holds.rd H1030_ 6 rfl) (And.intro (Holds.rd H1030_ 7 rfl) (And.intro (Holds.rd H1030_ 3 rfl) (And.intro (Holds.rd H1030_ 4 rfl) ((Holds.ro_at H1030_ 0 rfl))))))
       refine A_tk 8 (v := (vT #[(vA #[(vI .i64 m_.key), (vI .i64 m_.val)]), (vP (some ⟨k21026_.a, 0, none⟩))])) rfl (by kernel_rfl) (fun w hS => x_move rfl) hq1034_ ?_
       refine A_tk 9 (v := (vA #[(vI .i64 m_.key), (vI .i64 m_.val)])) rfl (by kernel_rfl) (fun w hS => by kernel_rfl) hq1034_ ?_
       refine A_tk 10 (v := (vP (some ⟨k21026_.a, 0, none⟩))) rfl (by kernel_rfl) (fun w hS => by kernel_rfl) hq1034_ ?_
       exact hJ688 _ _ ⟨k11025_, k21026_, _, congrArg (fun e => mkA 148 e []) (ch (ch (ch (ch (ch (ch rfl rfl) rfl) rfl) rfl) rfl) rfl), H1030_, S1033_, he1027_⟩
      refine AllR.cons ?_ AllR.nil
      refine A_op (ls' := #[true, true, true, true, true, true, true, false, false, false, false, true, false, false]) rfl (by kernel_rfl) (T_alloc z24 H1022_ ?_)
      intro b1035_ w1036_ S1038_ H1037_
      have S1039_ := Same.trans S1023_ S1038_
      refine ⟨⟨Holds.rd H1037_ 3 rfl, Holds.rd H1037_ 4 rfl, Holds.rd H1037_ 5 rfl, Holds.rd H1037_ 6 rfl, Holds.rd H1037_ 7 rfl, (Holds.ro_at H1037_ 2 rfl)⟩, ?_⟩
      exact hJ690 _ _ ⟨b1035_, _, congrArg (fun e => mkA 148 e []) (ch (ch (ch (ch (ch (ch (ch rfl rfl) rfl) rfl) rfl) rfl) rfl) rfl), H1037_, S1039_⟩
     intro hJ687
     refine A_cut #[true, true, true, true, true, false, false, false, false, false, false, true, false, false] 8 (fun a__ w1__ => ∃ b678_ : Nat, ∃ h : Env, a__ = mkA 148 (upd (upd (upd (upd (upd (upd (upd h 0 (vP (some ⟨r.tb, 0, none⟩))) 3 (vP (some ⟨b6_, 0, none⟩))) 4 (vP (some ⟨b11_, 0, none⟩))) 5 (vB false)) 6 (vP (some ⟨b678_, 0, none⟩))) 74 (vP (some ⟨t.a, 0, none⟩))) 75 (vP (some ⟨r.tb, 0, none⟩))) [] ∧ Holds w1__ (cl b678_ 24 [(vI .i64 0), (vI .i64 0)] :: btp r.c t :: ro R :: cl b11_ 24 [(vI .i64 0), (vI .i64 0)] :: cl b6_ 24 [(vI .i64 e.key), (vI .i64 e.val)] :: cl r.tb 62 [(vI .i64 (r.d : Int)), (vI .i64 (List.length t.el : Int)), (vP (some ⟨t.a, 0, none⟩)), (vP (some ⟨r.c, 0, none⟩))] :: cl r.c 58 [(vP (some ⟨r.fl, 0, none⟩)), (Value.func (.func 16) #[] #[])] :: cl r.fl 74 [(vS r.fa 0 r.fc)] :: F) ∧ Same w w1__) ?_ ?_
     ·rintro _ w1040_ ⟨b678_, h, rfl, H1041_, S1042_⟩
      refine A_ready (i := 5) (rs := []) (by kernel_rfl) ?_
      refine AllR.cons ?_ AllR.nil
      refine A_op (ls' := #[true, true, true, true, true, true, false, false, false, false, false, true, false, false]) rfl (by kernel_rfl) (T_callW (al := [(vP (some ⟨r.tb, 0, none⟩))]) rfl rfl cb36 (Calls.into (n := 9) func36 rfl ntmps36 rfl rfl ?_))
      refine cR fun _ hK1043_ => ?_
      refine sv (v := (vI .i64 0)) (x_assign rfl) ?_
      refine wn (hK1043_ _ _ ?_)
      refine cR fun _ hK1044_ => ?_
      refine sm (vP (some ⟨r.tb, 0, none⟩)) ?_
      refine sv (v := (vP (some ⟨r.tb, 0, none⟩))) (by kernel_rfl) ?_
      refine sv (v := (vP (some ⟨r.tb, 0, none⟩))) (by kernel_rfl) ?_
      refine sv (v := (vI .i64 (r.d : Int))) (x_load1 rfl underlying3 rfl ((Holds.rd H1041_ 5 rfl) 0 (vI .i64 (r.d : Int)) rfl)) ?_
      refine sv (v := (vI .i64 ((r.d : Int) * 2))) (x_bin rfl rfl (ib_mul (IntWalk.i64_in _ (by omega)))) ?_
      refine sv (v := (vI .i64 (((r.d : Int) * 2) - 1))) (x_bin rfl rfl (ib_sub (IntWalk.i64_in _ (by omega)))) ?_
      refine sv (v := (vI .i64 (((r.d : Int) * 2) - 1))) (x_assign rfl) ?_
      refine wn (hK1044_ _ _ ?_)
      refine C_ret ?_
      refine R_any (v := (vI .i64 (((r.d : Int) * 2) - 1))) (run_results1 rfl rfl) ⟨_, rfl, ?_⟩
      refine ⟨⟨Holds.rd H1041_ 3 rfl, Holds.rd H1041_ 4 rfl, Holds.rd H1041_ 5 rfl, Holds.rd H1041_ 6 rfl, Holds.rd H1041_ 7 rfl, (Holds.ro_at H1041_ 2 rfl)⟩, ?_⟩
      have hq1045_ := And.intro (Holds.rd H1041_ 3 rfl) (And.intro (Holds.rd H1041_ 4 rfl) (And.intro (Holds.rd H1041_ 5 rfl) (And.intro (Holds.rd H1041_ 6 rfl) (And.intro (Holds.rd H1041_ 7 rfl) ((Holds.ro_at H1041_ 2 rfl))))))
      refine A_tk 6 (v := (vI .i64 ((r.d - 1 : Nat) : Int))) rfl (by kernel_rfl) (fun w hS => x_bin rfl rfl (ib_quoN (x := r.d * 2 - 1) (y := 2) (by omega) rfl (by decide) (by omega) (by omega))) hq1045_ ?_
      exact hJ690 _ _ ⟨b678_, _, congrArg (fun e => mkA 148 e []) (ch (ch (ch (ch (ch (ch (ch rfl rfl) rfl) rfl) rfl) rfl) rfl) rfl), H1041_, S1042_⟩
     intro hJ691
     have hq1046_ := And.intro (Holds.rd H637_ 2 rfl) (And.intro (Holds.rd H637_ 3 rfl) (And.intro (Holds.rd H637_ 4 rfl) (And.intro (Holds.rd H637_ 5 rfl) (And.intro (Holds.rd H637_ 6 rfl) ((Holds.ro_at H637_ 1 rfl))))))
     refine A_tk 0 (v := (vP (some ⟨r.tb, 0, none⟩))) rfl (by kernel_rfl) (fun w hS => x_move rfl) hq1046_ ?_
     refine A_tk 1 (v := (vP (some ⟨r.tb, 0, none⟩))) rfl (by kernel_rfl) (fun w hS => by kernel_rfl) hq1046_ ?_
     refine A_tk 2 (v := (vP (some ⟨r.tb, 2, none⟩))) rfl (by kernel_rfl) (fun w hS => by kernel_rfl) hq1046_ ?_
     refine A_tk 3 (v := (vP (some ⟨t.a, 0, none⟩))) rfl (by kernel_rfl) (fun w hS => x_load1 rfl underlying59 rfl (hS.2.2.1 2 (vP (some ⟨t.a, 0, none⟩)) rfl)) hq1046_ ?_
     refine A_tk 4 (v := (vP (some ⟨r.tb, 0, none⟩))) rfl (by kernel_rfl) (fun w hS => x_move rfl) hq1046_ ?_
     refine A_ready (i := 5) (rs := [11]) (by kernel_rfl) ?_
     refine AllR.cons ?_ ?_
     ·skip
      refine A_op (ls' := #[true, true, true, true, true, true, false, false, false, false, false, false, false, false]) rfl (by kernel_rfl) (T_callW (al := [(vP (some ⟨r.tb, 0, none⟩))]) rfl rfl cb36 (Calls.into (n := 9) func36 rfl ntmps36 rfl rfl ?_))
      refine cR fun _ hK1047_ => ?_
      refine sv (v := (vI .i64 0)) (x_assign rfl) ?_
      refine wn (hK1047_ _ _ ?_)
      refine cR fun _ hK1048_ => ?_
      refine sm (vP (some ⟨r.tb, 0, none⟩)) ?_
      refine sv (v := (vP (some ⟨r.tb, 0, none⟩))) (by kernel_rfl) ?_
      refine sv (v := (vP (some ⟨r.tb, 0, none⟩))) (by kernel_rfl) ?_
      refine sv (v := (vI .i64 (r.d : Int))) (x_load1 rfl underlying3 rfl ((Holds.rd H637_ 4 rfl) 0 (vI .i64 (r.d : Int)) rfl)) ?_
      refine sv (v := (vI .i64 ((r.d : Int) * 2))) (x_bin rfl rfl (ib_mul (IntWalk.i64_in _ (by omega)))) ?_
      refine sv (v := (vI .i64 (((r.d : Int) * 2) - 1))) (x_bin rfl rfl (ib_sub (IntWalk.i64_in _ (by omega)))) ?_
      refine sv (v := (vI .i64 (((r.d : Int) * 2) - 1))) (x_assign rfl) ?_
      refine wn (hK1048_ _ _ ?_)
      refine C_ret ?_
      refine R_any (v := (vI .i64 (((r.d : Int) * 2) - 1))) (run_results1 rfl rfl) ⟨_, rfl, ?_⟩
      refine ⟨⟨Holds.rd H637_ 2 rfl, Holds.rd H637_ 3 rfl, Holds.rd H637_ 4 rfl, Holds.rd H637_ 5 rfl, Holds.rd H637_ 6 rfl, (Holds.ro_at H637_ 1 rfl)⟩, ?_⟩
      refine A_tk 6 (v := (vI .i64 ((r.d - 1 : Nat) : Int))) rfl (by kernel_rfl) (fun w hS => x_bin rfl rfl (ib_quoN (x := r.d * 2 - 1) (y := 2) (by omega) rfl (by decide) (by omega) (by omega))) hq1046_ ?_
      exact hJ687 _ _ ⟨_, congrArg (fun e => mkA 148 e []) (ch (ch (ch (ch (ch (ch rfl rfl) rfl) rfl) rfl) rfl) rfl), H637_, (Same.trans S631_ (Same.drew _))⟩
     refine AllR.cons ?_ AllR.nil
     refine A_op (ls' := #[true, true, true, true, true, false, false, false, false, false, false, true, false, false]) rfl (by kernel_rfl) (T_alloc z24 H637_ ?_)
     intro b1049_ w1050_ S1052_ H1051_
     have S1053_ := Same.trans (Same.trans S631_ (Same.drew _)) S1052_
     refine ⟨⟨Holds.rd H1051_ 3 rfl, Holds.rd H1051_ 4 rfl, Holds.rd H1051_ 5 rfl, Holds.rd H1051_ 6 rfl, Holds.rd H1051_ 7 rfl, (Holds.ro_at H1051_ 2 rfl)⟩, ?_⟩
     exact hJ691 _ _ ⟨b1049_, _, congrArg (fun e => mkA 148 e []) (ch (ch (ch (ch (ch (ch (ch rfl rfl) rfl) rfl) rfl) rfl) rfl) rfl), H1051_, S1053_⟩
   ·have c633_fp : ¬ (((r.d : Int) * 2) - 1 ≤ ((List.length t.n.xs) : Int)) := of_decide_eq_false c633_f
    refine C_skip (X_then (hK42_ _ _ ?_))
    refine C_seq (fun _ hK1054_ => ?_)
    ·skip
     have H1055_ := ((Holds.bring (Holds.bring (Holds.bring H630_ 5 rfl) 5 rfl) 3 rfl) :)
     have H1056_ := Holds.bt_in (k := t) H1055_
     refine A_start (S := fun w => Rd b11_ [(vI .i64 0), (vI .i64 0)] w ∧ Rd b6_ [(vI .i64 e.key), (vI .i64 e.val)] w ∧ Rd r.tb [(vI .i64 (r.d : Int)), (vI .i64 (List.length t.el : Int)), (vP (some ⟨t.a, 0, none⟩)), (vP (some ⟨r.c, 0, none⟩))] w ∧ Rd r.c [(vP (some ⟨r.fl, 0, none⟩)), (Value.func (.func 16) #[] #[])] w ∧ Rd r.fl [(vS r.fa 0 r.fc)] w ∧ Sub R (hp w)) (N := 14) foll rfl rfl ?_
     have H1057_ := Holds.drew_ H1056_
     refine A_cut #[true, true, true, true, true, true, true, true, true, true, true, true, false, false] 2 (fun a__ w1__ => ∃ t1062_ : BT z, ∃ o1063_ : EL, ∃ b1064_ : Bool, ∃ b1073_ : Nat, ∃ h : Env, a__ = mkA 148 (upd (upd (upd (upd (upd (upd h 0 (vP (some ⟨r.tb, 0, none⟩))) 4 (vP (some ⟨b11_, 0, none⟩))) 5 (vB false)) 9 (vP (some ⟨b1073_, 0, none⟩))) 135 (vA #[(vI .i64 o1063_.key), (vI .i64 o1063_.val)])) 136 (vB b1064_)) [] ∧ Holds w1__ (cl b1073_ 24 [(vI .i64 0), (vI .i64 0)] :: ro R :: btp r.c t1062_ :: cl r.c 58 [(vP (some ⟨r.fl, 0, none⟩)), (Value.func (.func 16) #[] #[])] :: cl r.fl 74 [(vS r.fa 0 r.fc)] :: cl b11_ 24 [(vI .i64 0), (vI .i64 0)] :: cl b6_ 24 [(vI .i64 e.key), (vI .i64 e.val)] :: cl r.tb 62 [(vI .i64 (r.d : Int)), (vI .i64 (List.length t.el : Int)), (vP (some ⟨t.a, 0, none⟩)), (vP (some ⟨r.c, 0, none⟩))] :: F) ∧ Same w w1__ ∧ (Ins e t t1062_ o1063_ b1064_)) ?_ ?_
     ·rintro _ w1113_ ⟨t1062_, o1063_, b1064_, b1073_, h, rfl, H1114_, S1115_, he1065_⟩
      refine A_ready (i := 12) (rs := []) (by kernel_rfl) ?_
      refine AllR.cons ?_ AllR.nil
      refine A_op0 (ls' := #[true, true, true, true, true, true, true, true, true, true, true, true, true, false]) rfl (by kernel_rfl) (T_storeN (vs := [(vI .i64 o1063_.key), (vI .i64 o1063_.val)]) rfl rfl z24 rfl (by simp [Value.oneCell']) H1114_ 0 rfl (Nat.le_of_ble_eq_true (by rfl)) ?_)
      intro w1116_ S1118_ H1117_
      have S1119_ := Same.trans S1115_ S1118_
      refine ⟨⟨Holds.rd H1117_ 5 rfl, Holds.rd H1117_ 6 rfl, Holds.rd H1117_ 7 rfl, Holds.rd H1117_ 3 rfl, Holds.rd H1117_ 4 rfl, (Holds.ro_at H1117_ 1 rfl)⟩, ?_⟩
      have hq1120_ := And.intro (Holds.rd H1117_ 5 rfl) (And.intro (Holds.rd H1117_ 6 rfl) (And.intro (Holds.rd H1117_ 7 rfl) (And.intro (Holds.rd H1117_ 3 rfl) (And.intro (Holds.rd H1117_ 4 rfl) ((Holds.ro_at H1117_ 1 rfl))))))
      refine A_tk 13 (v := (vB b1064_)) rfl (by kernel_rfl) (fun w hS => x_assign rfl) hq1120_ ?_
      refine A_done (by kernel_rfl) ?_
      refine (X_then (hK1054_ _ _ ?_))
      refine C_seq (fun _ hK1121_ => ?_)
      refine cR fun _ hK1122_ => ?_
      refine sm (vB b1064_) ?_
      refine sv (v := (vB (!b1064_))) (x_not rfl) ?_
      refine wn (hK1122_ _ _ ?_)
      refine C_cond (b := !b1064_) rfl (fun c1123_t => ?_) (fun c1123_f => ?_)
      ·skip
       refine C_reg ?_
       refine sm (vP (some ⟨r.tb, 0, none⟩)) ?_
       refine sv (v := (vP (some ⟨r.tb, 0, none⟩))) (by kernel_rfl) ?_
       refine sv (v := (vP (some ⟨r.tb, 1, none⟩))) (by kernel_rfl) ?_
       refine sv (v := (vI .i64 (List.length t.el : Int))) (x_load1 rfl underlying3 rfl ((Holds.rd H1117_ 7 rfl) 1 (vI .i64 (List.length t.el : Int)) rfl)) ?_
       refine sv (v := (vI .i64 ((List.length t.el : Int) + 1))) (x_bin rfl rfl (ib_add (IntWalk.i64_in _ (by omega)))) ?_
       refine sv (v := (vP (some ⟨r.tb, 0, none⟩))) (by kernel_rfl) ?_
       refine sv (v := (vP (some ⟨r.tb, 1, none⟩))) (by kernel_rfl) ?_
       refine S_list0 (T_store1 (v := (vI .i64 ((List.length t.el : Int) + 1))) rfl rfl z3 rfl H1117_ 7 rfl (Nat.le_of_ble_eq_true (by rfl)) ?_)
       intro w1124_ S1126_ H1125_
       have S1127_ := Same.trans S1119_ S1126_
       refine wn (hK1121_ _ _ ?_)
       refine cR fun _ hK1128_ => ?_
       refine sv (v := (vA #[(vI .i64 o1063_.key), (vI .i64 o1063_.val)])) (x_loadN (vs := [(vI .i64 o1063_.key), (vI .i64 o1063_.val)]) rfl underlying24 rfl z24 rfl (Rd.cells (Holds.rd H1125_ 0 rfl) 0 rfl)) ?_
       refine sm (vB b1064_) ?_
       refine S_list0 (T_storeN (vs := [(vI .i64 o1063_.key), (vI .i64 o1063_.val)]) rfl rfl z24 rfl (by simp [Value.oneCell']) H1125_ 5 rfl (Nat.le_of_ble_eq_true (by rfl)) ?_)
       intro w1129_ S1131_ H1130_
       have S1132_ := Same.trans S1127_ S1131_
       refine sv (v := (vB b1064_)) (x_assign rfl) ?_
       refine wn (hK1128_ _ _ ?_)
       refine C_ret ?_
       refine R_any (v := (vT #[(vA #[(vI .i64 o1063_.key), (vI .i64 o1063_.val)]), (vB b1064_)])) (run_results2 rfl ⟨_, rfl, load_resN underlying24 rfl z24 rfl (vs := [(vI .i64 o1063_.key), (vI .i64 o1063_.val)]) (Holds.cl_cells H1130_ 5 rfl 0 rfl)⟩ rfl) ?_
       have hel_ : BT.el t1062_ = insE e t.el := he1065_.el
       have htd_ : Told e t.el o1063_ b1064_ := he1065_.t
       have hlq_ := told_len hs htd_
       rw [show b1064_ = false by simpa using c1123_t] at hlq_
       rw [← hel_] at hlq_
       have hap_ : t.a = BT.a t1062_ := he1065_.a.symm
       have H1133_ := Holds.recl H1130_ 7 rfl ((lcons rfl (lcons (congrArg (vI .i64) (by simp at hlq_; omega)) (lcons (congrArg (fun x__ => vP (some ⟨x__, 0, none⟩)) hap_) rfl))) : [(vI .i64 (r.d : Int)), (vI .i64 ((List.length t.el : Int) + 1)), (vP (some ⟨t.a, 0, none⟩)), (vP (some ⟨r.c, 0, none⟩))] = [(vI .i64 (r.d : Int)), (vI .i64 (List.length (BT.el t1062_) : Int)), (vP (some ⟨(BT.a t1062_), 0, none⟩)), (vP (some ⟨r.c, 0, none⟩))])
       have H1134_ := ((Holds.bring (Holds.bring (Holds.bring (Holds.bring H1133_ 2 rfl) 4 rfl) 4 rfl) 7 rfl) :)
       have H1135_ := Holds.t1_in (t := t1062_) H1134_
       have H1136_ := Holds.pkF H1135_ [2, 0] 3
       exact ⟨_, _, rfl, ⟨(some ⟨z, t1062_⟩), o1063_, b1064_, rfl, rfl, (⟨he1065_.w, by rw [hel_]; exact insE_srt hs⟩), (hel_), (htd_)⟩, S1132_, H1136_⟩
      ·skip
       refine C_skip (X_then (hK1121_ _ _ ?_))
       refine cR fun _ hK1137_ => ?_
       refine sv (v := (vA #[(vI .i64 o1063_.key), (vI .i64 o1063_.val)])) (x_loadN (vs := [(vI .i64 o1063_.key), (vI .i64 o1063_.val)]) rfl underlying24 rfl z24 rfl (Rd.cells (Holds.rd H1117_ 0 rfl) 0 rfl)) ?_
       refine sm (vB b1064_) ?_
       refine S_list0 (T_storeN (vs := [(vI .i64 o1063_.key), (vI .i64 o1063_.val)]) rfl rfl z24 rfl (by simp [Value.oneCell']) H1117_ 5 rfl (Nat.le_of_ble_eq_true (by rfl)) ?_)
       intro w1138_ S1140_ H1139_
       have S1141_ := Same.trans S1119_ S1140_
       refine sv (v := (vB b1064_)) (x_assign rfl) ?_
       refine wn (hK1137_ _ _ ?_)
       refine C_ret ?_
       refine R_any (v := (vT #[(vA #[(vI .i64 o1063_.key), (vI .i64 o1063_.val)]), (vB b1064_)])) (run_results2 rfl ⟨_, rfl, load_resN underlying24 rfl z24 rfl (vs := [(vI .i64 o1063_.key), (vI .i64 o1063_.val)]) (Holds.cl_cells H1139_ 5 rfl 0 rfl)⟩ rfl) ?_
       have hel_ : BT.el t1062_ = insE e t.el := he1065_.el
       have htd_ : Told e t.el o1063_ b1064_ := he1065_.t
       have hlq_ := told_len hs htd_
       rw [show b1064_ = true by simpa using c1123_f] at hlq_
       rw [← hel_] at hlq_
       have hap_ : t.a = BT.a t1062_ := he1065_.a.symm
       have H1142_ := Holds.recl H1139_ 7 rfl ((lcons rfl (lcons (congrArg (vI .i64) (by simp at hlq_; omega)) (lcons (congrArg (fun x__ => vP (some ⟨x__, 0, none⟩)) hap_) rfl))) : [(vI .i64 (r.d : Int)), (vI .i64 (List.length t.el : Int)), (vP (some ⟨t.a, 0, none⟩)), (vP (some ⟨r.c, 0, none⟩))] = [(vI .i64 (r.d : Int)), (vI .i64 (List.length (BT.el t1062_) : Int)), (vP (some ⟨(BT.a t1062_), 0, none⟩)), (vP (some ⟨r.c, 0, none⟩))])
       have H1143_ := ((Holds.bring (Holds.bring (Holds.bring (Holds.bring H1142_ 2 rfl) 4 rfl) 4 rfl) 7 rfl) :)
       have H1144_ := Holds.t1_in (t := t1062_) H1143_
       have H1145_ := Holds.pkF H1144_ [2, 0] 3
       exact ⟨_, _, rfl, ⟨(some ⟨z, t1062_⟩), o1063_, b1064_, rfl, rfl, (⟨he1065_.w, by rw [hel_]; exact insE_srt hs⟩), (hel_), (htd_)⟩, S1141_, H1145_⟩
     intro hJ1110
     refine A_cut #[true, true, true, true, true, true, true, true, true, true, true, false, false, false] 3 (fun a__ w1__ => ∃ t1062_ : BT z, ∃ o1063_ : EL, ∃ b1064_ : Bool, ∃ h : Env, a__ = mkA 148 (upd (upd (upd (upd (upd h 0 (vP (some ⟨r.tb, 0, none⟩))) 4 (vP (some ⟨b11_, 0, none⟩))) 5 (vB false)) 135 (vA #[(vI .i64 o1063_.key), (vI .i64 o1063_.val)])) 136 (vB b1064_)) [] ∧ Holds w1__ (ro R :: btp r.c t1062_ :: cl r.c 58 [(vP (some ⟨r.fl, 0, none⟩)), (Value.func (.func 16) #[] #[])] :: cl r.fl 74 [(vS r.fa 0 r.fc)] :: cl b11_ 24 [(vI .i64 0), (vI .i64 0)] :: cl b6_ 24 [(vI .i64 e.key), (vI .i64 e.val)] :: cl r.tb 62 [(vI .i64 (r.d : Int)), (vI .i64 (List.length t.el : Int)), (vP (some ⟨t.a, 0, none⟩)), (vP (some ⟨r.c, 0, none⟩))] :: F) ∧ Same w w1__ ∧ (Ins e t t1062_ o1063_ b1064_)) ?_ ?_
     ·rintro _ w1146_ ⟨t1062_, o1063_, b1064_, h, rfl, H1147_, S1148_, he1065_⟩
      refine A_ready (i := 11) (rs := []) (by kernel_rfl) ?_
      refine AllR.cons ?_ AllR.nil
      refine A_op (ls' := #[true, true, true, true, true, true, true, true, true, true, true, true, false, false]) rfl (by kernel_rfl) (T_alloc z24 H1147_ ?_)
      intro b1149_ w1150_ S1152_ H1151_
      have S1153_ := Same.trans S1148_ S1152_
      refine ⟨⟨Holds.rd H1151_ 5 rfl, Holds.rd H1151_ 6 rfl, Holds.rd H1151_ 7 rfl, Holds.rd H1151_ 3 rfl, Holds.rd H1151_ 4 rfl, (Holds.ro_at H1151_ 1 rfl)⟩, ?_⟩
      exact hJ1110 _ _ ⟨t1062_, o1063_, b1064_, b1149_, _, congrArg (fun e => mkA 148 e []) (ch (ch (ch (ch (ch (ch rfl rfl) rfl) rfl) rfl) rfl) rfl), H1151_, S1153_, he1065_⟩
     intro hJ1109
     refine A_cut #[true, true, true, true, true, true, true, false, false, false, false, true, false, false] 6 (fun a__ w1__ => ∃ b1083_ : Nat, ∃ h : Env, a__ = mkA 148 (upd (upd (upd (upd (upd (upd (upd h 0 (vP (some ⟨r.tb, 0, none⟩))) 4 (vP (some ⟨b11_, 0, none⟩))) 5 (vB false)) 9 (vP (some ⟨b1083_, 0, none⟩))) 130 (vP (some ⟨t.a, 0, none⟩))) 131 (vA #[(vI .i64 e.key), (vI .i64 e.val)])) 133 (vI .i64 (((r.d : Int) * 2) - 1))) [] ∧ Holds w1__ (cl b1083_ 24 [(vI .i64 0), (vI .i64 0)] :: btp r.c t :: ro R :: cl b11_ 24 [(vI .i64 0), (vI .i64 0)] :: cl b6_ 24 [(vI .i64 e.key), (vI .i64 e.val)] :: cl r.tb 62 [(vI .i64 (r.d : Int)), (vI .i64 (List.length t.el : Int)), (vP (some ⟨t.a, 0, none⟩)), (vP (some ⟨r.c, 0, none⟩))] :: cl r.c 58 [(vP (some ⟨r.fl, 0, none⟩)), (Value.func (.func 16) #[] #[])] :: cl r.fl 74 [(vS r.fa 0 r.fc)] :: F) ∧ Same w w1__) ?_ ?_
     ·rintro _ w1154_ ⟨b1083_, h, rfl, H1155_, S1156_⟩
      refine A_ready (i := 7) (rs := []) (by kernel_rfl) ?_
      refine AllR.cons ?_ AllR.nil
      have H1162_ := ((Holds.bring (Holds.bring (Holds.bring (Holds.bring H1155_ 7 rfl) 7 rfl) 3 rfl) 4 rfl) :)
      refine A_op (ls' := #[true, true, true, true, true, true, true, true, false, false, false, true, false, false]) rfl (by kernel_rfl) (T_call (al := [(vP (some ⟨t.a, 0, none⟩)), (vA #[(vI .i64 e.key), (vI .i64 e.val)]), (vI .i64 ((r.d * 2 - 1 : Nat) : Int))]) (pre := [btp r.c t, cl r.c 58 [(vP (some ⟨r.fl, 0, none⟩)), (Value.func (.func 16) #[] #[])], cl r.fl 74 [(vS r.fa 0 r.fc)]]) rfl (lcons rfl (lcons rfl (lcons (congrArg (vI .i64) ((by first | rfl | omega | (simp; done) | (simp; omega)) : ((r.d : Int) * 2) - 1 = ((r.d * 2 - 1 : Nat) : Int))) rfl))) cb38 (btIns R r.c r.fl r.fc r.fa z t e (r.d * 2 - 1) (hw) (hs) (Nat.le_trans hn (by decide)) (by omega)) H1162_ ?_)
      rintro v1157_ p1166_ w1163_ ⟨t1158_, o1159_, b1160_, rfl, rfl, he1161_⟩ S1165_ H1164_
      have S1167_ := Same.trans S1156_ S1165_
      refine ⟨⟨Holds.rd H1164_ 5 rfl, Holds.rd H1164_ 6 rfl, Holds.rd H1164_ 7 rfl, Holds.rd H1164_ 2 rfl, Holds.rd H1164_ 3 rfl, (Holds.ro_at H1164_ 0 rfl)⟩, ?_⟩
      have hq1168_ := And.intro (Holds.rd H1164_ 5 rfl) (And.intro (Holds.rd H1164_ 6 rfl) (And.intro (Holds.rd H1164_ 7 rfl) (And.intro (Holds.rd H1164_ 2 rfl) (And.intro (Holds.rd H1164_ 3 rfl) ((Holds.ro_at H1164_ 0 rfl))))))
      refine A_tk 8 (v := (vT #[(vA #[(vI .i64 o1159_.key), (vI .i64 o1159_.val)]), (vB b1160_)])) rfl (by kernel_rfl) (fun w hS => x_move rfl) hq1168_ ?_
      refine A_tk 9 (v := (vA #[(vI .i64 o1159_.key), (vI .i64 o1159_.val)])) rfl (by kernel_rfl) (fun w hS => by kernel_rfl) hq1168_ ?_
      refine A_tk 10 (v := (vB b1160_)) rfl (by kernel_rfl) (fun w hS => by kernel_rfl) hq1168_ ?_
      have H1169_ := Holds.pkF H1164_ [4, 0, 0, 0, 0, 0, 0, 0] 0
      exact hJ1110 _ _ ⟨t1158_, o1159_, b1160_, b1083_, _, congrArg (fun e => mkA 148 e []) (ch (ch (ch (ch (ch (ch rfl rfl) rfl) rfl) rfl) rfl) rfl), H1169_, S1167_, he1161_⟩
     intro hJ1111
     refine A_cut #[true, true, true, true, true, true, true, false, false, false, false, false, false, false] 7 (fun a__ w1__ => ∃ h : Env, a__ = mkA 148 (upd (upd (upd (upd (upd (upd h 0 (vP (some ⟨r.tb, 0, none⟩))) 4 (vP (some ⟨b11_, 0, none⟩))) 5 (vB false)) 130 (vP (some ⟨t.a, 0, none⟩))) 131 (vA #[(vI .i64 e.key), (vI .i64 e.val)])) 133 (vI .i64 (((r.d : Int) * 2) - 1))) [] ∧ Holds w1__ (btp r.c t :: ro R :: cl b11_ 24 [(vI .i64 0), (vI .i64 0)] :: cl b6_ 24 [(vI .i64 e.key), (vI .i64 e.val)] :: cl r.tb 62 [(vI .i64 (r.d : Int)), (vI .i64 (List.length t.el : Int)), (vP (some ⟨t.a, 0, none⟩)), (vP (some ⟨r.c, 0, none⟩))] :: cl r.c 58 [(vP (some ⟨r.fl, 0, none⟩)), (Value.func (.func 16) #[] #[])] :: cl r.fl 74 [(vS r.fa 0 r.fc)] :: F) ∧ Same w w1__) ?_ ?_
     ·rintro _ w1170_ ⟨h, rfl, H1171_, S1172_⟩
      refine A_ready (i := 7) (rs := [11]) (by kernel_rfl) ?_
      refine AllR.cons ?_ ?_
      ·skip
       have H1178_ := ((Holds.bring (Holds.bring (Holds.bring (Holds.bring H1171_ 6 rfl) 6 rfl) 2 rfl) 3 rfl) :)
       refine A_op (ls' := #[true, true, true, true, true, true, true, true, false, false, false, false, false, false]) rfl (by kernel_rfl) (T_call (al := [(vP (some ⟨t.a, 0, none⟩)), (vA #[(vI .i64 e.key), (vI .i64 e.val)]), (vI .i64 ((r.d * 2 - 1 : Nat) : Int))]) (pre := [btp r.c t, cl r.c 58 [(vP (some ⟨r.fl, 0, none⟩)), (Value.func (.func 16) #[] #[])], cl r.fl 74 [(vS r.fa 0 r.fc)]]) rfl (lcons rfl (lcons rfl (lcons (congrArg (vI .i64) ((by first | rfl | omega | (simp; done) | (simp; omega)) : ((r.d : Int) * 2) - 1 = ((r.d * 2 - 1 : Nat) : Int))) rfl))) cb38 (btIns R r.c r.fl r.fc r.fa z t e (r.d * 2 - 1) (hw) (hs) (Nat.le_trans hn (by decide)) (by omega)) H1178_ ?_)
       rintro v1173_ p1182_ w1179_ ⟨t1174_, o1175_, b1176_, rfl, rfl, he1177_⟩ S1181_ H1180_
       have S1183_ := Same.trans S1172_ S1181_
       refine ⟨⟨Holds.rd H1180_ 4 rfl, Holds.rd H1180_ 5 rfl, Holds.rd H1180_ 6 rfl, Holds.rd H1180_ 2 rfl, Holds.rd H1180_ 3 rfl, (Holds.ro_at H1180_ 0 rfl)⟩, ?_⟩
       have hq1184_ := And.intro (Holds.rd H1180_ 4 rfl) (And.intro (Holds.rd H1180_ 5 rfl) (And.intro (Holds.rd H1180_ 6 rfl) (And.intro (Holds.rd H1180_ 2 rfl) (And.intro (Holds.rd H1180_ 3 rfl) ((Holds.ro_at H1180_ 0 rfl))))))
       refine A_tk 8 (v := (vT #[(vA #[(vI .i64 o1175_.key), (vI .i64 o1175_.val)]), (vB b1176_)])) rfl (by kernel_rfl) (fun w hS => x_move rfl) hq1184_ ?_
       refine A_tk 9 (v := (vA #[(vI .i64 o1175_.key), (vI .i64 o1175_.val)])) rfl (by kernel_rfl) (fun w hS => by kernel_rfl) hq1184_ ?_
       refine A_tk 10 (v := (vB b1176_)) rfl (by kernel_rfl) (fun w hS => by kernel_rfl) hq1184_ ?_
       exact hJ1109 _ _ ⟨t1174_, o1175_, b1176_, _, congrArg (fun e => mkA 148 e []) (ch (ch (ch (ch (ch rfl rfl) rfl) rfl) rfl) rfl), H1180_, S1183_, he1177_⟩
      refine AllR.cons ?_ AllR.nil
      refine A_op (ls' := #[true, true, true, true, true, true, true, false, false, false, false, true, false, false]) rfl (by kernel_rfl) (T_alloc z24 H1171_ ?_)
      intro b1185_ w1186_ S1188_ H1187_
      have S1189_ := Same.trans S1172_ S1188_
      refine ⟨⟨Holds.rd H1187_ 3 rfl, Holds.rd H1187_ 4 rfl, Holds.rd H1187_ 5 rfl, Holds.rd H1187_ 6 rfl, Holds.rd H1187_ 7 rfl, (Holds.ro_at H1187_ 2 rfl)⟩, ?_⟩
      exact hJ1111 _ _ ⟨b1185_, _, congrArg (fun e => mkA 148 e []) (ch (ch (ch (ch (ch (ch (ch rfl rfl) rfl) rfl) rfl) rfl) rfl) rfl), H1187_, S1189_⟩
     intro hJ1108
     refine A_cut #[true, true, true, true, true, true, false, false, false, false, false, true, false, false] 7 (fun a__ w1__ => ∃ b1100_ : Nat, ∃ h : Env, a__ = mkA 148 (upd (upd (upd (upd (upd (upd (upd h 0 (vP (some ⟨r.tb, 0, none⟩))) 4 (vP (some ⟨b11_, 0, none⟩))) 5 (vB false)) 9 (vP (some ⟨b1100_, 0, none⟩))) 130 (vP (some ⟨t.a, 0, none⟩))) 131 (vA #[(vI .i64 e.key), (vI .i64 e.val)])) 132 (vP (some ⟨r.tb, 0, none⟩))) [] ∧ Holds w1__ (cl b1100_ 24 [(vI .i64 0), (vI .i64 0)] :: btp r.c t :: ro R :: cl b11_ 24 [(vI .i64 0), (vI .i64 0)] :: cl b6_ 24 [(vI .i64 e.key), (vI .i64 e.val)] :: cl r.tb 62 [(vI .i64 (r.d : Int)), (vI .i64 (List.length t.el : Int)), (vP (some ⟨t.a, 0, none⟩)), (vP (some ⟨r.c, 0, none⟩))] :: cl r.c 58 [(vP (some ⟨r.fl, 0, none⟩)), (Value.func (.func 16) #[] #[])] :: cl r.fl 74 [(vS r.fa 0 r.fc)] :: F) ∧ Same w w1__) ?_ ?_
     ·rintro _ w1190_ ⟨b1100_, h, rfl, H1191_, S1192_⟩
      refine A_ready (i := 6) (rs := []) (by kernel_rfl) ?_
      refine AllR.cons ?_ AllR.nil
      refine A_op (ls' := #[true, true, true, true, true, true, true, false, false, false, false, true, false, false]) rfl (by kernel_rfl) (T_callW (al := [(vP (some ⟨r.tb, 0, none⟩))]) rfl rfl cb36 (Calls.into (n := 9) func36 rfl ntmps36 rfl rfl ?_))
      refine cR fun _ hK1193_ => ?_
      refine sv (v := (vI .i64 0)) (x_assign rfl) ?_
      refine wn (hK1193_ _ _ ?_)
      refine cR fun _ hK1194_ => ?_
      refine sm (vP (some ⟨r.tb, 0, none⟩)) ?_
      refine sv (v := (vP (some ⟨r.tb, 0, none⟩))) (by kernel_rfl) ?_
      refine sv (v := (vP (some ⟨r.tb, 0, none⟩))) (by kernel_rfl) ?_
      refine sv (v := (vI .i64 (r.d : Int))) (x_load1 rfl underlying3 rfl ((Holds.rd H1191_ 5 rfl) 0 (vI .i64 (r.d : Int)) rfl)) ?_
      refine sv (v := (vI .i64 ((r.d : Int) * 2))) (x_bin rfl rfl (ib_mul (IntWalk.i64_in _ (by omega)))) ?_
      refine sv (v := (vI .i64 (((r.d : Int) * 2) - 1))) (x_bin rfl rfl (ib_sub (IntWalk.i64_in _ (by omega)))) ?_
      refine sv (v := (vI .i64 (((r.d : Int) * 2) - 1))) (x_assign rfl) ?_
      refine wn (hK1194_ _ _ ?_)
      refine C_ret ?_
      refine R_any (v := (vI .i64 (((r.d : Int) * 2) - 1))) (run_results1 rfl rfl) ⟨_, rfl, ?_⟩
      refine ⟨⟨Holds.rd H1191_ 3 rfl, Holds.rd H1191_ 4 rfl, Holds.rd H1191_ 5 rfl, Holds.rd H1191_ 6 rfl, Holds.rd H1191_ 7 rfl, (Holds.ro_at H1191_ 2 rfl)⟩, ?_⟩
      exact hJ1111 _ _ ⟨b1100_, _, congrArg (fun e => mkA 148 e []) (ch (ch (ch (ch (ch (ch (ch rfl rfl) rfl) rfl) rfl) rfl) rfl) rfl), H1191_, S1192_⟩
     intro hJ1112
     have hq1195_ := And.intro (Holds.rd H1057_ 2 rfl) (And.intro (Holds.rd H1057_ 3 rfl) (And.intro (Holds.rd H1057_ 4 rfl) (And.intro (Holds.rd H1057_ 5 rfl) (And.intro (Holds.rd H1057_ 6 rfl) ((Holds.ro_at H1057_ 1 rfl))))))
     refine A_tk 0 (v := (vP (some ⟨r.tb, 0, none⟩))) rfl (by kernel_rfl) (fun w hS => x_move rfl) hq1195_ ?_
     refine A_tk 1 (v := (vP (some ⟨r.tb, 0, none⟩))) rfl (by kernel_rfl) (fun w hS => by kernel_rfl) hq1195_ ?_
     refine A_tk 2 (v := (vP (some ⟨r.tb, 2, none⟩))) rfl (by kernel_rfl) (fun w hS => by kernel_rfl) hq1195_ ?_
     refine A_tk 3 (v := (vP (some ⟨t.a, 0, none⟩))) rfl (by kernel_rfl) (fun w hS => x_load1 rfl underlying59 rfl (hS.2.2.1 2 (vP (some ⟨t.a, 0, none⟩)) rfl)) hq1195_ ?_
     refine A_tk 4 (v := (vA #[(vI .i64 e.key), (vI .i64 e.val)])) rfl (by kernel_rfl) (fun w hS => x_loadN (vs := [(vI .i64 e.key), (vI .i64 e.val)]) rfl underlying24 rfl z24 rfl (Rd.cells hS.2.1 0 rfl)) hq1195_ ?_
     refine A_tk 5 (v := (vP (some ⟨r.tb, 0, none⟩))) rfl (by kernel_rfl) (fun w hS => x_move rfl) hq1195_ ?_
     refine A_ready (i := 6) (rs := [11]) (by kernel_rfl) ?_
     refine AllR.cons ?_ ?_
     ·skip
      refine A_op (ls' := #[true, true, true, true, true, true, true, false, false, false, false, false, false, false]) rfl (by kernel_rfl) (T_callW (al := [(vP (some ⟨r.tb, 0, none⟩))]) rfl rfl cb36 (Calls.into (n := 9) func36 rfl ntmps36 rfl rfl ?_))
      refine cR fun _ hK1196_ => ?_
      refine sv (v := (vI .i64 0)) (x_assign rfl) ?_
      refine wn (hK1196_ _ _ ?_)
      refine cR fun _ hK1197_ => ?_
      refine sm (vP (some ⟨r.tb, 0, none⟩)) ?_
      refine sv (v := (vP (some ⟨r.tb, 0, none⟩))) (by kernel_rfl) ?_
      refine sv (v := (vP (some ⟨r.tb, 0, none⟩))) (by kernel_rfl) ?_
      refine sv (v := (vI .i64 (r.d : Int))) (x_load1 rfl underlying3 rfl ((Holds.rd H1057_ 4 rfl) 0 (vI .i64 (r.d : Int)) rfl)) ?_
      refine sv (v := (vI .i64 ((r.d : Int) * 2))) (x_bin rfl rfl (ib_mul (IntWalk.i64_in _ (by omega)))) ?_
      refine sv (v := (vI .i64 (((r.d : Int) * 2) - 1))) (x_bin rfl rfl (ib_sub (IntWalk.i64_in _ (by omega)))) ?_
      refine sv (v := (vI .i64 (((r.d : Int) * 2) - 1))) (x_assign rfl) ?_
      refine wn (hK1197_ _ _ ?_)
      refine C_ret ?_
      refine R_any (v := (vI .i64 (((r.d : Int) * 2) - 1))) (run_results1 rfl rfl) ⟨_, rfl, ?_⟩
      refine ⟨⟨Holds.rd H1057_ 2 rfl, Holds.rd H1057_ 3 rfl, Holds.rd H1057_ 4 rfl, Holds.rd H1057_ 5 rfl, Holds.rd H1057_ 6 rfl, (Holds.ro_at H1057_ 1 rfl)⟩, ?_⟩
      exact hJ1108 _ _ ⟨_, congrArg (fun e => mkA 148 e []) (ch (ch (ch (ch (ch (ch rfl rfl) rfl) rfl) rfl) rfl) rfl), H1057_, (Same.trans S631_ (Same.drew _))⟩
     refine AllR.cons ?_ AllR.nil
     refine A_op (ls' := #[true, true, true, true, true, true, false, false, false, false, false, true, false, false]) rfl (by kernel_rfl) (T_alloc z24 H1057_ ?_)
     intro b1198_ w1199_ S1201_ H1200_
     have S1202_ := Same.trans (Same.trans S631_ (Same.drew _)) S1201_
     refine ⟨⟨Holds.rd H1200_ 3 rfl, Holds.rd H1200_ 4 rfl, Holds.rd H1200_ 5 rfl, Holds.rd H1200_ 6 rfl, Holds.rd H1200_ 7 rfl, (Holds.ro_at H1200_ 2 rfl)⟩, ?_⟩
     exact hJ1112 _ _ ⟨b1198_, _, congrArg (fun e => mkA 148 e []) (ch (ch (ch (ch (ch (ch (ch rfl rfl) rfl) rfl) rfl) rfl) rfl) rfl), H1200_, S1202_⟩
  intro hJ52
  have hq1203_ := And.intro (Holds.rd H44_ 1 rfl) (And.intro (Holds.rd H44_ 2 rfl) (And.intro (Holds.rd H44_ 3 rfl) (And.intro (Holds.slrd H44_ 4 rfl) (And.intro (Holds.rd H44_ 6 rfl) (And.intro (Holds.rd H44_ 7 rfl) (And.intro (Holds.rd H44_ 8 rfl) ((Holds.ro_at H44_ 0 rfl))))))))
  refine A_tk 0 (v := (vP (some ⟨r.tb, 0, none⟩))) rfl (by kernel_rfl) (fun w hS => x_move rfl) hq1203_ ?_
  refine A_tk 1 (v := (vP (some ⟨r.tb, 0, none⟩))) rfl (by kernel_rfl) (fun w hS => by kernel_rfl) hq1203_ ?_
  refine A_tk 2 (v := (vP (some ⟨r.tb, 2, none⟩))) rfl (by kernel_rfl) (fun w hS => by kernel_rfl) hq1203_ ?_
  refine A_tk 3 (v := (vP (some ⟨t.a, 0, none⟩))) rfl (by kernel_rfl) (fun w hS => x_load1 rfl underlying59 rfl (hS.2.2.2.2.1 2 (vP (some ⟨t.a, 0, none⟩)) rfl)) hq1203_ ?_
  refine A_tk 4 (v := (vP (some ⟨t.a, 0, none⟩))) rfl (by kernel_rfl) (fun w hS => by kernel_rfl) hq1203_ ?_
  refine A_tk 5 (v := (vP (some ⟨t.a, 0, none⟩))) rfl (by kernel_rfl) (fun w hS => by kernel_rfl) hq1203_ ?_
  refine A_tk 6 (v := t.n.iv) rfl (by kernel_rfl) (fun w hS => x_load1 rfl underlying76 rfl (hS.1 0 t.n.iv rfl)) hq1203_ ?_
  refine A_tk 8 (v := (vP (some ⟨r.tb, 0, none⟩))) rfl (by kernel_rfl) (fun w hS => x_move rfl) hq1203_ ?_
  refine A_ready (i := 7) (rs := [9]) (by kernel_rfl) ?_
  refine AllR.cons ?_ ?_
  ·skip
   refine A_op (ls' := #[true, true, true, true, true, true, true, true, true, false, false]) rfl (by kernel_rfl) (T_val (v := (vI .i64 ((List.length t.n.xs) : Int))) (x_lenSl rfl H44_ 4 rfl underlying76) ?_)
   refine ⟨⟨Holds.rd H44_ 1 rfl, Holds.rd H44_ 2 rfl, Holds.rd H44_ 3 rfl, Holds.slrd H44_ 4 rfl, Holds.rd H44_ 6 rfl, Holds.rd H44_ 7 rfl, Holds.rd H44_ 8 rfl, (Holds.ro_at H44_ 0 rfl)⟩, ?_⟩
   exact hJ51 _ _ ⟨_, congrArg (fun e => mkA 148 e []) (ch (ch (ch (ch (ch (ch rfl rfl) rfl) rfl) rfl) rfl) rfl), H44_, (Same.trans S41_ (Same.drew _))⟩
  refine AllR.cons ?_ AllR.nil
  refine A_op (ls' := #[true, true, true, true, true, true, true, false, true, true, false]) rfl (by kernel_rfl) (T_callW (al := [(vP (some ⟨r.tb, 0, none⟩))]) rfl rfl cb36 (Calls.into (n := 9) func36 rfl ntmps36 rfl rfl ?_))
  refine cR fun _ hK1204_ => ?_
  refine sv (v := (vI .i64 0)) (x_assign rfl) ?_
  refine wn (hK1204_ _ _ ?_)
  refine cR fun _ hK1205_ => ?_
  refine sm (vP (some ⟨r.tb, 0, none⟩)) ?_
  refine sv (v := (vP (some ⟨r.tb, 0, none⟩))) (by kernel_rfl) ?_
  refine sv (v := (vP (some ⟨r.tb, 0, none⟩))) (by kernel_rfl) ?_
  refine sv (v := (vI .i64 (r.d : Int))) (x_load1 rfl underlying3 rfl ((Holds.rd H44_ 6 rfl) 0 (vI .i64 (r.d : Int)) rfl)) ?_
  refine sv (v := (vI .i64 ((r.d : Int) * 2))) (x_bin rfl rfl (ib_mul (IntWalk.i64_in _ (by omega)))) ?_
  refine sv (v := (vI .i64 (((r.d : Int) * 2) - 1))) (x_bin rfl rfl (ib_sub (IntWalk.i64_in _ (by omega)))) ?_
  refine sv (v := (vI .i64 (((r.d : Int) * 2) - 1))) (x_assign rfl) ?_
  refine wn (hK1205_ _ _ ?_)
  refine C_ret ?_
  refine R_any (v := (vI .i64 (((r.d : Int) * 2) - 1))) (run_results1 rfl rfl) ⟨_, rfl, ?_⟩
  refine ⟨⟨Holds.rd H44_ 1 rfl, Holds.rd H44_ 2 rfl, Holds.rd H44_ 3 rfl, Holds.slrd H44_ 4 rfl, Holds.rd H44_ 6 rfl, Holds.rd H44_ 7 rfl, Holds.rd H44_ 8 rfl, (Holds.ro_at H44_ 0 rfl)⟩, ?_⟩
  exact hJ52 _ _ ⟨_, congrArg (fun e => mkA 148 e []) (ch (ch (ch (ch (ch (ch rfl rfl) rfl) rfl) rfl) rfl) rfl), H44_, (Same.trans S41_ (Same.drew _))⟩
 intro hJ34
 have hq1206_ := And.intro (Holds.rd H19_ 0 rfl) (And.intro (Holds.rd H19_ 1 rfl) (And.intro (Holds.rd H19_ 2 rfl) (And.intro (Holds.slrd H19_ 3 rfl) (And.intro (Holds.rd H19_ 5 rfl) (And.intro (Holds.rd H19_ 6 rfl) (And.intro (Holds.rd H19_ 7 rfl) ((Holds.ro_at H19_ 8 rfl))))))))
 refine A_tk 0 (v := (vP (some ⟨r.tb, 0, none⟩))) rfl (by kernel_rfl) (fun w hS => x_move rfl) hq1206_ ?_
 refine A_tk 1 (v := (vP (some ⟨r.tb, 0, none⟩))) rfl (by kernel_rfl) (fun w hS => x_move rfl) hq1206_ ?_
 refine A_tk 2 (v := (vP (some ⟨r.tb, 0, none⟩))) rfl (by kernel_rfl) (fun w hS => by kernel_rfl) hq1206_ ?_
 refine A_tk 3 (v := (vP (some ⟨r.tb, 2, none⟩))) rfl (by kernel_rfl) (fun w hS => by kernel_rfl) hq1206_ ?_
 refine A_tk 4 (v := (vP (some ⟨t.a, 0, none⟩))) rfl (by kernel_rfl) (fun w hS => x_load1 rfl underlying59 rfl (hS.2.2.2.2.1 2 (vP (some ⟨t.a, 0, none⟩)) rfl)) hq1206_ ?_
 refine A_tk 5 (v := (vP (some ⟨r.tb, 0, none⟩))) rfl (by kernel_rfl) (fun w hS => x_move rfl) hq1206_ ?_
 refine A_tk 6 (v := (vP (some ⟨r.tb, 0, none⟩))) rfl (by kernel_rfl) (fun w hS => by kernel_rfl) hq1206_ ?_
 refine A_tk 7 (v := (vP (some ⟨r.tb, 3, none⟩))) rfl (by kernel_rfl) (fun w hS => by kernel_rfl) hq1206_ ?_
 refine A_tk 8 (v := (vP (some ⟨r.c, 0, none⟩))) rfl (by kernel_rfl) (fun w hS => x_load1 rfl underlying60 rfl (hS.2.2.2.2.1 3 (vP (some ⟨r.c, 0, none⟩)) rfl)) hq1206_ ?_
 refine A_ready (i := 9) (rs := []) (by kernel_rfl) ?_
 refine AllR.cons ?_ AllR.nil
 have H1208_ := ((Holds.bring (Holds.bring H19_ 2 rfl) 8 rfl) :)
 refine A_op (ls' := #[true, true, true, true, true, true, true, true, true, true, false, false, false]) rfl (by kernel_rfl) (T_call (al := [(vP (some ⟨t.a, 0, none⟩)), (vP (some ⟨r.c, 0, none⟩))]) (pre := [cl t.a 79 [t.n.iv, t.cv, (vP (some ⟨r.c, 0, none⟩))]]) rfl rfl cb35 (btMF R t.a r.c t.n.iv t.cv) H1208_ ?_)
 rintro v1207_ p1212_ w1209_ ⟨rfl, rfl⟩ S1211_ H1210_
 have S1213_ := Same.trans (Same.trans S15_ (Same.drew _)) S1211_
 refine ⟨⟨Holds.rd H1210_ 2 rfl, Holds.rd H1210_ 3 rfl, Holds.rd H1210_ 1 rfl, Holds.slrd H1210_ 4 rfl, Holds.rd H1210_ 6 rfl, Holds.rd H1210_ 7 rfl, Holds.rd H1210_ 8 rfl, (Holds.ro_at H1210_ 0 rfl)⟩, ?_⟩
 have hq1214_ := And.intro (Holds.rd H1210_ 2 rfl) (And.intro (Holds.rd H1210_ 3 rfl) (And.intro (Holds.rd H1210_ 1 rfl) (And.intro (Holds.slrd H1210_ 4 rfl) (And.intro (Holds.rd H1210_ 6 rfl) (And.intro (Holds.rd H1210_ 7 rfl) (And.intro (Holds.rd H1210_ 8 rfl) ((Holds.ro_at H1210_ 0 rfl))))))))
 refine A_tk 10 (v := (vP (some ⟨r.tb, 0, none⟩))) rfl (by kernel_rfl) (fun w hS => by kernel_rfl) hq1214_ ?_
 refine A_tk 11 (v := (vP (some ⟨r.tb, 2, none⟩))) rfl (by kernel_rfl) (fun w hS => by kernel_rfl) hq1214_ ?_
 exact hJ34 _ _ ⟨_, congrArg (fun e => mkA 148 e []) (ch (ch (ch (ch (ch (ch rfl rfl) rfl) rfl) rfl) rfl) rfl), H1210_, S1213_⟩

theorem btRO (R : HP) (r : TR) (T : Option (Sigma BT)) (e : EL) (hT : tOk T) (hn : (tel T).length ≤ 100000) (hd : 2 ≤ r.d ∧ r.d ≤ 64) :
    Tri Try.prog 23 #[(vP (some ⟨r.tb, 0, none⟩)), (vA #[(vI .i64 e.key), (vI .i64 e.val)])] R [treeP r T] (fun v__ post__ => ∃ (T' : Option (Sigma BT)) (o : EL) (b : Bool), v__ = (vT #[(vA #[(vI .i64 o.key), (vI .i64 o.val)]), (vB b)]) ∧ post__ = [treeP r T'] ∧ (tOk T') ∧ (tel T' = insE e (tel T)) ∧ (Told e (tel T) o b)) := by
  rcases T with _ | ⟨h, t⟩
  · exact btRO0 R r e
  · exact btRO1 R r h t e hT.1 hT.2 hn hd
end Go.Proofs.Ytdfjdmmmlidamaa
set_option linter.unusedVariables false
set_option linter.unusedSimpArgs false
namespace Go.Proofs.Ytdfjdmmmlidamaa
open Go Go.RowKit Gw

set_option maxHeartbeats 400000 in
theorem btGt0 (R : HP) (r : TR) (e : EL) :
    Tri Try.prog 25 #[(Value.pointer (some ⟨r.tb, 0, none⟩)), (Value.agg #[(Value.int .i64 e.key), (Value.int .i64 e.val)])] R [treeP r none] (fun v__ post__ => ∃ (o : EL) (b : Bool), v__ = (Value.tuple #[(Value.agg #[(Value.int .i64 o.key), (Value.int .i64 o.val)]), (Value.bool b)]) ∧ post__ = [treeP r none] ∧ (Told e (tel none) o b)) := by
 refine Tri.into (n := 19) (al := [(Value.pointer (some ⟨r.tb, 0, none⟩)), (Value.agg #[(Value.int .i64 e.key), (Value.int .i64 e.val)])]) Try.func25 rfl Try.ntmps25 rfl rfl fun w F H => ?_
 have H1_ := ((Holds.bring H 1 rfl) :)
 have H2_ := Holds.t0_out H1_
 replace H2_ : Holds w (cl r.tb 62 [(Value.int .i64 (r.d : Int)), (Value.int .i64 0), (Value.pointer none), (Value.pointer (some ⟨r.c, 0, none⟩))] :: cl r.c 58 [(Value.pointer (some ⟨r.fl, 0, none⟩)), (Value.func (.func 16) #[] #[])] :: cl r.fl 74 [(Value.slice r.fa 0 r.fc)] :: ro R :: F) := H2_
 refine C_seq (fun K3_ hK3_ => ?_)
 refine C_reg ?_
 refine S_list (T_box (v := (Value.agg #[(Value.int .i64 e.key), (Value.int .i64 e.val)])) rfl H2_ ?_)
 intro b4_ w5_ S7_ H6_
 have S8_ := Same.trans (Same.refl w) S7_
 refine S_list (T_alloc z24 H6_ ?_)
 intro b9_ w10_ S12_ H11_
 have S13_ := Same.trans S8_ S12_
 refine S_list (T_val (v := (Value.bool false)) (x_assign rfl) ?_)
 refine wpList_nil ?_
 refine (X_then (hK3_ _ _ ?_))
 clear hK3_
 refine C_seq (fun K14_ hK14_ => ?_)
 refine C_seq (fun K15_ hK15_ => ?_)
 refine C_reg ?_
 refine S_list (T_val (v := (Value.pointer (some ⟨r.tb, 0, none⟩))) (x_move rfl) ?_)
 refine S_list (T_val (v := (Value.pointer (some ⟨r.tb, 0, none⟩))) (by kernel_rfl) ?_)
 refine S_list (T_val (v := (Value.pointer (some ⟨r.tb, 2, none⟩))) (by kernel_rfl) ?_)
 refine S_list (T_val (v := (Value.pointer none)) (x_load1 rfl Try.underlying59 rfl ((Holds.rd H11_ 2 rfl) 2 (Value.pointer none) rfl)) ?_)
 refine S_list (T_val (v := (Value.bool true)) (by kernel_rfl) ?_)
 refine wpList_nil ?_
 refine (X_then (hK15_ _ _ ?_))
 clear hK15_
 refine C_condT rfl ?_
 refine C_ret (X_thenR ?_)
 refine R_any (v := (Value.tuple #[(Value.agg #[(Value.int .i64 0), (Value.int .i64 0)]), (Value.bool false)])) (run_results2 rfl ⟨_, rfl, load_resN Try.underlying24 rfl z24 rfl (vs := [(Value.int .i64 0), (Value.int .i64 0)]) (Holds.cl_cells H11_ 0 rfl 0 rfl)⟩ rfl) ?_
 have H16_ := ((Holds.bring (Holds.bring (Holds.bring H11_ 4 rfl) 4 rfl) 4 rfl) :)
 replace H16_ : Holds w10_ (cl r.tb 62 [(Value.int .i64 (r.d : Int)), (Value.int .i64 0), (Value.pointer none), (Value.pointer (some ⟨r.c, 0, none⟩))] :: cl r.c 58 [(Value.pointer (some ⟨r.fl, 0, none⟩)), (Value.func (.func 16) #[] #[])] :: cl r.fl 74 [(Value.slice r.fa 0 r.fc)] :: cl b9_ 24 [(Value.int .i64 0), (Value.int .i64 0)] :: cl b4_ 24 [(Value.int .i64 e.key), (Value.int .i64 e.val)] :: ro R :: F) := H16_
 have H17_ := Holds.t0_in H16_
 have H18_ : Holds w10_ (ro R :: treeP r none :: F) := (Holds.pkF H17_ [3, 0] 2 :)
 exact ⟨_, _, rfl, ⟨zE, false, (congrArg (fun l => Value.tuple (List.toArray l)) (lcons (congrArg (fun l => Value.agg (List.toArray l)) (lcons (congrArg (Value.int .i64) ((by first | rfl | omega | (simp; done) | (simp; omega)) : 0 = zE.key)) (lcons (congrArg (Value.int .i64) ((by first | rfl | omega | (simp; done) | (simp; omega)) : 0 = zE.val)) rfl))) rfl)), rfl, (.inr ⟨rfl, rfl, rfl⟩)⟩, S13_, H18_⟩

set_option maxHeartbeats 400000 in
theorem btGt1 (R : HP) (r : TR) (z : Nat) (t : BT z) (e : EL) (hw : t.Wf) (hs : SrtE t.el) (hn : t.el.length ≤ 100000) :
    Tri Try.prog 25 #[(Value.pointer (some ⟨r.tb, 0, none⟩)), (Value.agg #[(Value.int .i64 e.key), (Value.int .i64 e.val)])] R [treeP r (some ⟨z, t⟩)] (fun v__ post__ => ∃ (o : EL) (b : Bool), v__ = (Value.tuple #[(Value.agg #[(Value.int .i64 o.key), (Value.int .i64 o.val)]), (Value.bool b)]) ∧ post__ = [treeP r (some ⟨z, t⟩)] ∧ (Told e t.el o b)) := by
 refine Tri.into (n := 19) (al := [(Value.pointer (some ⟨r.tb, 0, none⟩)), (Value.agg #[(Value.int .i64 e.key), (Value.int .i64 e.val)])]) Try.func25 rfl Try.ntmps25 rfl rfl fun w F H => ?_
 have H1_ := ((Holds.bring H 1 rfl) :)
 have H2_ := Holds.t1_out H1_
 replace H2_ : Holds w (cl r.tb 62 [(Value.int .i64 (r.d : Int)), (Value.int .i64 (List.length t.el : Int)), (Value.pointer (some ⟨t.a, 0, none⟩)), (Value.pointer (some ⟨r.c, 0, none⟩))] :: cl r.c 58 [(Value.pointer (some ⟨r.fl, 0, none⟩)), (Value.func (.func 16) #[] #[])] :: cl r.fl 74 [(Value.slice r.fa 0 r.fc)] :: btp r.c t :: ro R :: F) := H2_
 refine C_seq (fun K3_ hK3_ => ?_)
 refine C_reg ?_
 refine S_list (T_box (v := (Value.agg #[(Value.int .i64 e.key), (Value.int .i64 e.val)])) rfl H2_ ?_)
 intro b4_ w5_ S7_ H6_
 have S8_ := Same.trans (Same.refl w) S7_
 refine S_list (T_alloc z24 H6_ ?_)
 intro b9_ w10_ S12_ H11_
 have S13_ := Same.trans S8_ S12_
 refine S_list (T_val (v := (Value.bool false)) (x_assign rfl) ?_)
 refine wpList_nil ?_
 refine (X_then (hK3_ _ _ ?_))
 clear hK3_
 refine C_seq (fun K14_ hK14_ => ?_)
 refine C_seq (fun K15_ hK15_ => ?_)
 refine C_reg ?_
 refine S_list (T_val (v := (Value.pointer (some ⟨r.tb, 0, none⟩))) (x_move rfl) ?_)
 refine S_list (T_val (v := (Value.pointer (some ⟨r.tb, 0, none⟩))) (by kernel_rfl) ?_)
 refine S_list (T_val (v := (Value.pointer (some ⟨r.tb, 2, none⟩))) (by kernel_rfl) ?_)
 refine S_list (T_val (v := (Value.pointer (some ⟨t.a, 0, none⟩))) (x_load1 rfl Try.underlying59 rfl ((Holds.rd H11_ 2 rfl) 2 (Value.pointer (some ⟨t.a, 0, none⟩)) rfl)) ?_)
 refine S_list (T_val (v := (Value.bool false)) (by kernel_rfl) ?_)
 refine wpList_nil ?_
 refine (X_then (hK15_ _ _ ?_))
 clear hK15_
 refine C_condF rfl ?_
 refine C_skip (X_then (hK14_ _ _ ?_))
 clear hK14_
 refine C_seq (fun K16_ hK16_ => ?_)
 refine A_start (S := fun w => Rd b4_ [(Value.int .i64 e.key), (Value.int .i64 e.val)] w ∧ Rd r.tb [(Value.int .i64 (r.d : Int)), (Value.int .i64 (List.length t.el : Int)), (Value.pointer (some ⟨t.a, 0, none⟩)), (Value.pointer (some ⟨r.c, 0, none⟩))] w ∧ Rd r.c [(Value.pointer (some ⟨r.fl, 0, none⟩)), (Value.func (.func 16) #[] #[])] w ∧ Rd r.fl [(Value.slice r.fa 0 r.fc)] w ∧ Sub R (hp w)) (N := 10) foll rfl rfl ?_
 have H17_ := Holds.drew_ H11_
 have hq18_ := And.intro (Holds.rd H17_ 1 rfl) (And.intro (Holds.rd H17_ 2 rfl) (And.intro (Holds.rd H17_ 3 rfl) (And.intro (Holds.rd H17_ 4 rfl) ((Holds.ro_at H17_ 6 rfl)))))
 refine A_tk 0 (v := (Value.pointer (some ⟨r.tb, 0, none⟩))) rfl (by kernel_rfl) (fun w hS => x_move rfl) hq18_ ?_
 refine A_tk 1 (v := (Value.pointer (some ⟨r.tb, 0, none⟩))) rfl (by kernel_rfl) (fun w hS => by kernel_rfl) hq18_ ?_
 refine A_tk 2 (v := (Value.pointer (some ⟨r.tb, 2, none⟩))) rfl (by kernel_rfl) (fun w hS => by kernel_rfl) hq18_ ?_
 refine A_tk 3 (v := (Value.pointer (some ⟨t.a, 0, none⟩))) rfl (by kernel_rfl) (fun w hS => x_load1 rfl Try.underlying59 rfl (hS.2.1 2 (Value.pointer (some ⟨t.a, 0, none⟩)) rfl)) hq18_ ?_
 refine A_tk 4 (v := (Value.agg #[(Value.int .i64 e.key), (Value.int .i64 e.val)])) rfl (by kernel_rfl) (fun w hS => x_loadN (vs := [(Value.int .i64 e.key), (Value.int .i64 e.val)]) rfl Try.underlying24 rfl z24 rfl (Rd.cells hS.1 0 rfl)) hq18_ ?_
 refine A_ready (i := 5) (rs := []) (by kernel_rfl) ?_
 refine AllR.cons ?_ AllR.nil
 have H23_ := ((Holds.bring (Holds.bring (Holds.bring H17_ 3 rfl) 5 rfl) 6 rfl) :)
 replace H23_ : Holds w10_.drew (ro R :: btp r.c t :: cl r.c 58 [(Value.pointer (some ⟨r.fl, 0, none⟩)), (Value.func (.func 16) #[] #[])] :: cl b9_ 24 [(Value.int .i64 0), (Value.int .i64 0)] :: cl b4_ 24 [(Value.int .i64 e.key), (Value.int .i64 e.val)] :: cl r.tb 62 [(Value.int .i64 (r.d : Int)), (Value.int .i64 (List.length t.el : Int)), (Value.pointer (some ⟨t.a, 0, none⟩)), (Value.pointer (some ⟨r.c, 0, none⟩))] :: cl r.fl 74 [(Value.slice r.fa 0 r.fc)] :: F) := H23_
 refine A_op (ls' := #[true, true, true, true, true, true, false, false, false, false]) rfl (by kernel_rfl) (T_call (al := [(Value.pointer (some ⟨t.a, 0, none⟩)), (Value.agg #[(Value.int .i64 e.key), (Value.int .i64 e.val)])]) (pre := [btp r.c t, cl r.c 58 [(Value.pointer (some ⟨r.fl, 0, none⟩)), (Value.func (.func 16) #[] #[])]]) rfl rfl cb40 (btGet R r.c r.fl z t e (hw) (hs) (Nat.le_trans hn (by decide))) H23_ ?_)
 rintro v19_ p27_ w24_ ⟨o20_, b21_, rfl, rfl, he22_⟩ S26_ H25_
 have S28_ := Same.trans (Same.trans S13_ (Same.drew _)) S26_
 refine ⟨⟨Holds.rd H25_ 4 rfl, Holds.rd H25_ 5 rfl, Holds.rd H25_ 2 rfl, Holds.rd H25_ 6 rfl, (Holds.ro_at H25_ 0 rfl)⟩, ?_⟩
 have hq29_ := And.intro (Holds.rd H25_ 4 rfl) (And.intro (Holds.rd H25_ 5 rfl) (And.intro (Holds.rd H25_ 2 rfl) (And.intro (Holds.rd H25_ 6 rfl) ((Holds.ro_at H25_ 0 rfl)))))
 refine A_tk 6 (v := (Value.agg #[(Value.int .i64 o20_.key), (Value.int .i64 o20_.val)])) rfl (by kernel_rfl) (fun w hS => by kernel_rfl) hq29_ ?_
 refine A_tk 7 (v := (Value.bool b21_)) rfl (by kernel_rfl) (fun w hS => by kernel_rfl) hq29_ ?_
 refine A_ready (i := 8) (rs := []) (by kernel_rfl) ?_
 refine AllR.cons ?_ AllR.nil
 refine A_op0 (ls' := #[true, true, true, true, true, true, true, true, true, false]) rfl (by kernel_rfl) (T_storeN (vs := [(Value.int .i64 o20_.key), (Value.int .i64 o20_.val)]) rfl rfl z24 rfl (by simp [Value.oneCell']) H25_ 3 rfl (Nat.le_of_ble_eq_true (by rfl)) ?_)
 intro w30_ S32_ H31_
 have S33_ := Same.trans S28_ S32_
 refine ⟨⟨Holds.rd H31_ 4 rfl, Holds.rd H31_ 5 rfl, Holds.rd H31_ 2 rfl, Holds.rd H31_ 6 rfl, (Holds.ro_at H31_ 0 rfl)⟩, ?_⟩
 have hq34_ := And.intro (Holds.rd H31_ 4 rfl) (And.intro (Holds.rd H31_ 5 rfl) (And.intro (Holds.rd H31_ 2 rfl) (And.intro (Holds.rd H31_ 6 rfl) ((Holds.ro_at H31_ 0 rfl)))))
 refine A_tk 9 (v := (Value.bool b21_)) rfl (by kernel_rfl) (fun w hS => x_assign rfl) hq34_ ?_
 refine A_done (by kernel_rfl) ?_
 refine (X_then (hK16_ _ _ ?_))
 clear hK16_
 refine C_ret ?_
 refine R_any (v := (Value.tuple #[(Value.agg #[(Value.int .i64 o20_.key), (Value.int .i64 o20_.val)]), (Value.bool b21_)])) (run_results2 rfl ⟨_, rfl, load_resN Try.underlying24 rfl z24 rfl (vs := [(Value.int .i64 o20_.key), (Value.int .i64 o20_.val)]) (Holds.cl_cells H31_ 3 rfl 0 rfl)⟩ rfl) ?_
 have H35_ := ((Holds.bring (Holds.bring (Holds.bring (Holds.bring H31_ 1 rfl) 6 rfl) 3 rfl) 6 rfl) :)
 replace H35_ : Holds w30_ (cl r.tb 62 [(Value.int .i64 (r.d : Int)), (Value.int .i64 (List.length t.el : Int)), (Value.pointer (some ⟨t.a, 0, none⟩)), (Value.pointer (some ⟨r.c, 0, none⟩))] :: cl r.c 58 [(Value.pointer (some ⟨r.fl, 0, none⟩)), (Value.func (.func 16) #[] #[])] :: cl r.fl 74 [(Value.slice r.fa 0 r.fc)] :: btp r.c t :: ro R :: cl b9_ 24 [(Value.int .i64 o20_.key), (Value.int .i64 o20_.val)] :: cl b4_ 24 [(Value.int .i64 e.key), (Value.int .i64 e.val)] :: F) := H35_
 have H36_ := Holds.t1_in (t := t) H35_
 have H37_ : Holds w30_ (ro R :: treeP r (some ⟨z, t⟩) :: F) := (Holds.pkF H36_ [1, 0] 2 :)
 exact ⟨_, _, rfl, ⟨o20_, b21_, rfl, rfl, (he22_)⟩, S33_, H37_⟩

theorem btGt (R : HP) (r : TR) (T : Option (Sigma BT)) (e : EL) (hT : tOk T) (hn : (tel T).length ≤ 100000) :
    Tri Try.prog 25 #[(Value.pointer (some ⟨r.tb, 0, none⟩)), (Value.agg #[(Value.int .i64 e.key), (Value.int .i64 e.val)])] R [treeP r T] (fun v__ post__ => ∃ (o : EL) (b : Bool), v__ = (Value.tuple #[(Value.agg #[(Value.int .i64 o.key), (Value.int .i64 o.val)]), (Value.bool b)]) ∧ post__ = [treeP r T] ∧ (Told e (tel T) o b)) := by
  rcases T with _ | ⟨h, t⟩
  · exact btGt0 R r e
  · exact btGt1 R r h t e hT.1 hT.2 hn

end Go.Proofs.Ytdfjdmmmlidamaa
set_option linter.unusedVariables false
set_option linter.unusedSimpArgs false
namespace Go.Proofs.Ytdfjdmmmlidamaa
open Go Go.RowKit Gw Try
open Go.Value renaming int → vI, bool → vB, slice → vS, pointer → vP, agg → vA, tuple → vT

structure BO where
  kind : Int
  tree : Int
  el_Key : Int
  el_Val : Int
  from_ : Int
  till : Int
  most : Int
  again : Bool
def BO.cells (x : BO) : List Value := [(vI .i64 x.kind), (vI .i64 x.tree), (vI .i64 x.el_Key), (vI .i64 x.el_Val), (vI .i64 x.from_), (vI .i64 x.till), (vI .i64 x.most), (vB x.again)]
theorem BO.len (x : BO) : x.cells.length = 8 := rfl

structure BA where
  err : Int
  oK : Bool
  n : Int
  el_Key : Int
  el_Val : Int
  list : Value
def BA.cells (x : BA) : List Value := [(vI .i64 x.err), (vB x.oK), (vI .i64 x.n), (vI .i64 x.el_Key), (vI .i64 x.el_Val), x.list]
theorem BA.len (x : BA) : x.cells.length = 6 := rfl

/-! ### What operations leave and tell -/
def elO (o : BO) : EL := ⟨o.el_Key, o.el_Val⟩
def bNext (o : BO) (l : List EL) : List EL := if o.kind = 1 then insE (elO o) l else l
def cutM (m : Int) (l : List EL) : List EL := if m ≤ 0 then l else l.take m.toNat
def bList (o : BO) (l : List EL) : List EL :=
  if o.kind = 10 then cutM o.most l
  else if o.kind = 11 then cutM o.most (l.filter (fun x => decide (o.from_ ≤ x.key) && decide (x.key < o.till)))
  else if o.kind = 12 then cutM o.most (l.filter (fun x => decide (x.key < o.till)))
  else if o.kind = 13 then cutM o.most (l.filter (fun x => decide (o.from_ ≤ x.key)))
  else if o.kind = 14 then cutM o.most l.reverse
  else if o.kind = 15 then cutM o.most (l.filter (fun x => decide (x.key ≤ o.from_) && decide (o.till < x.key))).reverse
  else if o.kind = 16 then cutM o.most (l.filter (fun x => decide (x.key ≤ o.from_))).reverse
  else if o.kind = 17 then cutM o.most (l.filter (fun x => decide (o.till < x.key))).reverse
  else []
structure BAns (R : HP) (o : BO) (l : List EL) (a : BA) : Prop where
  one : a.list.oneCell' = true
  told : o.kind = 1 ∨ o.kind = 3 → Told (elO o) l ⟨a.el_Key, a.el_Val⟩ a.oK
  n : o.kind = 9 → a.n = l.length
  lst : RS R 2 a.list (bList o l).length ((bList o l).flatMap EL.cells)
theorem BAns.mono {R R' : HP} {o : BO} {l : List EL} {a : BA} (h : BAns R o l a) (s : Sub R R') : BAns R' o l a := ⟨h.one, h.told, h.n, h.lst.mono s⟩
theorem bList_none {o : BO} {l : List EL} (h : o.kind = 1 ∨ o.kind = 3 ∨ o.kind = 9) : bList o l = [] := by
  unfold bList
  rw [if_neg (by omega), if_neg (by omega), if_neg (by omega), if_neg (by omega), if_neg (by omega), if_neg (by omega), if_neg (by omega), if_neg (by omega)]
theorem lst_none {R : HP} {o : BO} {l : List EL} (h : o.kind = 1 ∨ o.kind = 3 ∨ o.kind = 9) : RS R 2 (.slice none 0 0) (bList o l).length ((bList o l).flatMap EL.cells) := by rw [bList_none h]; exact RS.nil R 2
theorem bNext_len (o : BO) (l : List EL) : (bNext o l).length ≤ l.length + 1 := by
  unfold bNext
  split
  · exact insE_len _ _
  · omega
theorem bNext_srt {o : BO} {l : List EL} (h : SrtE l) : SrtE (bNext o l) := by
  unfold bNext
  split
  · exact insE_srt h
  · exact h
def stB (ops : List BO) : List EL := ops.foldl (fun l o => bNext o l) []
theorem stB_snoc (ops : List BO) (o : BO) : stB (ops ++ [o]) = bNext o (stB ops) := by unfold stB; rw [List.foldl_append]; rfl
theorem stB_take {ops : List BO} {k : Nat} {o : BO} (h : ops[k]? = some o) : stB (ops.take (k + 1)) = bNext o (stB (ops.take k)) := by rw [← stB_snoc, List.take_add_one, h]; rfl
theorem stB_srt (ops : List BO) : SrtE (stB ops) := by
  have : ∀ (l : List BO) (s : List EL), SrtE s → SrtE (l.foldl (fun l o => bNext o l) s) := by
    intro l
    induction l with
    | nil => intro s h; exact h
    | cons o l ih => intro s h; exact ih _ (bNext_srt h)
  exact this ops [] List.Pairwise.nil
def RunB (R : HP) (ops : List BO) (A : List BA) : Prop := A.length = ops.length ∧ ∀ (i : Nat) (o : BO) (a : BA), ops[i]? = some o → A[i]? = some a → BAns R o (stB (ops.take i)) a
theorem RunB.mono {R R' : HP} {ops : List BO} {A : List BA} (h : RunB R ops A) (s : Sub R R') : RunB R' ops A := ⟨h.1, fun i o a h1 h2 => (h.2 i o a h1 h2).mono s⟩
theorem RunB.nil (R : HP) : RunB R [] [] := ⟨rfl, fun i o a h => by simp at h⟩
theorem RunB.snoc {R : HP} {ops : List BO} {A : List BA} {k : Nat} {o : BO} {a : BA} (h : RunB R (ops.take k) A) (hk : ops[k]? = some o) (ha : BAns R o (stB (ops.take k)) a) : RunB R (ops.take (k + 1)) (A ++ [a]) := by
  have hl := (List.getElem?_eq_some_iff.1 hk).1
  have hA : A.length = k := by rw [h.1, List.length_take]; omega
  refine ⟨by simp only [List.length_append, List.length_cons, List.length_nil, hA, List.length_take]; omega, fun i o' a' h1 h2 => ?_⟩
  have hik : i < k + 1 := by have := (List.getElem?_eq_some_iff.1 h1).1; rw [List.length_take] at this; omega
  rw [List.getElem?_take, if_pos hik] at h1
  rw [List.take_take, Nat.min_eq_left (by omega)]
  rcases Nat.lt_or_ge i k with hi | hi
  · rw [List.getElem?_append_left (by omega)] at h2
    have := h.2 i o' a' (by rw [List.getElem?_take, if_pos hi]; exact h1) h2
    rwa [List.take_take, Nat.min_eq_left (by omega)] at this
  · obtain rfl : i = k := by omega
    rw [hk] at h1
    rw [List.getElem?_append_right (by omega), hA, Nat.sub_self] at h2
    cases h1; cases h2
    exact ha

end Go.Proofs.Ytdfjdmmmlidamaa
set_option linter.unusedVariables false
set_option linter.unusedSimpArgs false
namespace Go.Proofs.Ytdfjdmmmlidamaa
open Go Go.RowKit Gw Try
open Go.Value renaming int → vI, bool → vB, slice → vS, pointer → vP, agg → vA, tuple → vT

/-! ### What a listing shows -/
def moreB (m : Int) (O : List EL) : Bool := decide (m ≤ 0) || decide ((O.length : Int) < m)
def runA (p : EL → Bool) (m : Int) : List EL → List EL → List EL × Bool
  | [], O => (O, true)
  | x :: xs, O => if p x then (O, false) else if moreB m (O ++ [x]) then runA p m xs (O ++ [x]) else (O ++ [x], false)
theorem runA_app (p : EL → Bool) (m : Int) : ∀ (a b O : List EL), runA p m (a ++ b) O = if (runA p m a O).2 then runA p m b (runA p m a O).1 else runA p m a O
  | [], b, O => by simp [runA]
  | x :: a, b, O => by
    rw [List.cons_append, runA, runA]
    by_cases h1 : p x = true
    · simp [h1]
    · by_cases h2 : moreB m (O ++ [x]) = true
      · rw [if_neg h1, if_pos h2, if_neg h1, if_pos h2]; exact runA_app p m a b _
      · simp [h1, h2]
theorem run_then {p : EL → Bool} {m : Int} {a b O O1 O2 : List EL} {k : Bool} (h1 : runA p m a O = (O1, true)) (h2 : runA p m b O1 = (O2, k)) : runA p m (a ++ b) O = (O2, k) := by rw [runA_app, h1]; exact h2
theorem run_end {p : EL → Bool} {m : Int} {a O O1 : List EL} (b : List EL) (h1 : runA p m a O = (O1, false)) : runA p m (a ++ b) O = (O1, false) := by rw [runA_app, h1]; rfl
theorem run_len (p : EL → Bool) (m : Int) : ∀ (a O : List EL), (runA p m a O).1.length ≤ O.length + a.length
  | [], O => by simp [runA]
  | x :: a, O => by
    have ih := run_len p m a (O ++ [x])
    rw [runA]
    split
    · simp only [List.length_cons]; omega
    · split
      · simp only [List.length_append, List.length_cons, List.length_nil] at ih ⊢; omega
      · simp only [List.length_append, List.length_cons, List.length_nil]; omega
theorem run_one {p : EL → Bool} {m : Int} {x : EL} {O : List EL} (h : p x = false) : runA p m [x] O = (O ++ [x], moreB m (O ++ [x])) := by
  rw [runA]
  simp only [h, Bool.false_eq_true, if_false]
  by_cases h2 : moreB m (O ++ [x]) = true
  · rw [if_pos h2, h2]; rfl
  · rw [if_neg h2]; simp [h2]
theorem run_stop {p : EL → Bool} {m : Int} {x : EL} {O : List EL} (h : p x = true) : runA p m [x] O = (O, false) := by rw [runA, if_pos h]
def stA (ut : Bool) (p x : EL) : Bool := ut && !decide (x.key < p.key)
def stD (ut : Bool) (p x : EL) : Bool := ut && !decide (p.key < x.key)
def selA (us : Bool) (s : EL) (l : List EL) : List EL := l.filter (fun x => !us || decide (s.key ≤ x.key))
def selD (us : Bool) (s : EL) (l : List EL) : List EL := (l.filter (fun x => !us || decide (x.key ≤ s.key))).reverse
theorem selA_app (us : Bool) (s : EL) (a b : List EL) : selA us s (a ++ b) = selA us s a ++ selA us s b := List.filter_append ..
theorem selD_app (us : Bool) (s : EL) (a b : List EL) : selD us s (a ++ b) = selD us s b ++ selD us s a := by unfold selD; rw [List.filter_append, List.reverse_append]
theorem selA_none {us : Bool} {s : EL} {l : List EL} (h : ∀ y ∈ l, us = true ∧ y.key < s.key) : selA us s l = [] := by
  refine List.filter_eq_nil_iff.2 fun y hy => ?_
  have := h y hy
  simp only [this.1, Bool.not_true, Bool.false_or, decide_eq_true_eq]
  omega
theorem selD_none {us : Bool} {s : EL} {l : List EL} (h : ∀ y ∈ l, us = true ∧ s.key < y.key) : selD us s l = [] := by
  have e : l.filter (fun x => !us || decide (x.key ≤ s.key)) = [] := by
    refine List.filter_eq_nil_iff.2 fun y hy => ?_
    have := h y hy
    simp only [this.1, Bool.not_true, Bool.false_or, decide_eq_true_eq]
    omega
  unfold selD; rw [e]; rfl
theorem selA_one {us : Bool} {s x : EL} (h : us = true → s.key ≤ x.key) : selA us s [x] = [x] := by
  unfold selA
  rw [List.filter_cons, if_pos]
  · rfl
  · cases us
    · rfl
    · simpa using h rfl
theorem selD_one {us : Bool} {s x : EL} (h : us = true → x.key ≤ s.key) : selD us s [x] = [x] := by
  unfold selD
  rw [List.filter_cons, if_pos]
  · rfl
  · cases us
    · rfl
    · simpa using h rfl
/-! ### Between -/
theorem preI_succ : ∀ {xs : List EL} {K : List (List EL)} {i : Nat} {x : EL} {k : List EL}, xs[i]? = some x → K[i]? = some k → preI (xs.take (i + 1)) (K.take (i + 1)) = preI (xs.take i) (K.take i) ++ (k ++ [x])
  | y :: xs, k0 :: K, 0, x, k, hx, hk => by
    simp at hx hk; subst hx; subst hk
    simp [preI]
  | y :: xs, k0 :: K, i + 1, x, k, hx, hk => by
    have ih := preI_succ (xs := xs) (K := K) (i := i) (x := x) (k := k) (by simpa using hx) (by simpa using hk)
    simp only [List.take_succ_cons, preI]
    rw [ih]; simp
  | [], _, _, _, _, hx, _ => by simp at hx
  | _ :: _, [], _, _, _, _, hk => by simp at hk
theorem postI_at {xs : List EL} {K : List (List EL)} {i : Nat} {x : EL} {k : List EL} (hx : xs[i]? = some x) (hk : K[i + 1]? = some k) : postI (xs.drop i) (K.drop (i + 1)) = x :: (k ++ postI (xs.drop (i + 1)) (K.drop (i + 2))) := by
  obtain ⟨h1, e1⟩ := List.getElem?_eq_some_iff.1 hx
  obtain ⟨h2, e2⟩ := List.getElem?_eq_some_iff.1 hk
  rw [← List.getElem_cons_drop h1, ← List.getElem_cons_drop h2, e1, e2]
  rfl
theorem inter_reps (xs : List EL) : inter xs (List.replicate (xs.length + 1) []) = xs := by
  induction xs with
  | nil => rfl
  | cons x xs ih =>
    rw [List.length_cons, List.replicate_succ, inter, ih]
    rfl
theorem itA_start {us : Bool} {s : EL} {p : EL → Bool} {m : Int} {xs : List EL} {K : List (List EL)} {i : Nat} {O : List EL} (hK : K.length = xs.length + 1) (hs : SrtE (inter xs K)) (hi : i ≤ xs.length) (h : ∀ y ∈ xs.take i, us = true ∧ y.key < s.key) : runA p m (selA us s (preI (xs.take i) (K.take i))) O = (O, true) := by
  have hk : K[i]? = some K[i] := List.getElem?_eq_getElem (by omega)
  have e := inter_at hK hk
  rw [e] at hs
  have e1 : selA us s (preI (xs.take i) (K.take i)) = [] := by
    by_cases hsv : us = true
    · exact selA_none fun y hy => ⟨hsv, pre_lt (srt_app hs).1 (fun z hz => (h z hz).2) y hy⟩
    · have : xs.take i = [] := List.eq_nil_iff_forall_not_mem.2 fun y hy => hsv (h y hy).1
      rw [this]
      cases K.take i <;> rfl
  rw [e1]; rfl
theorem itA_kid {us : Bool} {s : EL} {p : EL → Bool} {m : Int} {A k O O1 O2 : List EL} {b : Bool} (h1 : runA p m (selA us s A) O = (O1, true)) (h2 : runA p m (selA us s k) O1 = (O2, b)) : runA p m (selA us s (A ++ k)) O = (O2, b) := by rw [selA_app]; exact run_then h1 h2
theorem itA_out {us : Bool} {s : EL} {p : EL → Bool} {m : Int} {A B O O1 : List EL} (h1 : runA p m (selA us s A) O = (O1, false)) : runA p m (selA us s (A ++ B)) O = (O1, false) := by rw [selA_app]; exact run_end _ h1
theorem itA_stop {us : Bool} {s x : EL} {p : EL → Bool} {m : Int} {A O O1 : List EL} (h1 : runA p m (selA us s A) O = (O1, true)) (hx : us = true → s.key ≤ x.key) (hp : p x = true) : runA p m (selA us s (A ++ [x])) O = (O1, false) := by rw [selA_app, selA_one hx]; exact run_then h1 (run_stop hp)
theorem itA_item {us : Bool} {s x : EL} {p : EL → Bool} {m : Int} {A O O1 : List EL} (h1 : runA p m (selA us s A) O = (O1, true)) (hx : us = true → s.key ≤ x.key) (hp : p x = false) : runA p m (selA us s (A ++ [x])) O = (O1 ++ [x], moreB m (O1 ++ [x])) := by rw [selA_app, selA_one hx]; exact run_then h1 (run_one hp)
theorem itD_kid {us : Bool} {s : EL} {p : EL → Bool} {m : Int} {A k O O1 O2 : List EL} {b : Bool} (h1 : runA p m (selD us s A) O = (O1, true)) (h2 : runA p m (selD us s k) O1 = (O2, b)) : runA p m (selD us s (k ++ A)) O = (O2, b) := by rw [selD_app]; exact run_then h1 h2
theorem itD_out {us : Bool} {s : EL} {p : EL → Bool} {m : Int} {A B O O1 : List EL} (h1 : runA p m (selD us s A) O = (O1, false)) : runA p m (selD us s (B ++ A)) O = (O1, false) := by rw [selD_app]; exact run_end _ h1
theorem itD_stop {us : Bool} {s x : EL} {p : EL → Bool} {m : Int} {A O O1 : List EL} (h1 : runA p m (selD us s A) O = (O1, true)) (hx : us = true → x.key ≤ s.key) (hp : p x = true) : runA p m (selD us s (x :: A)) O = (O1, false) := by rw [show x :: A = [x] ++ A from rfl, selD_app, selD_one hx]; exact run_then h1 (run_stop hp)
theorem itD_item {us : Bool} {s x : EL} {p : EL → Bool} {m : Int} {A O O1 : List EL} (h1 : runA p m (selD us s A) O = (O1, true)) (hx : us = true → x.key ≤ s.key) (hp : p x = false) : runA p m (selD us s (x :: A)) O = (O1 ++ [x], moreB m (O1 ++ [x])) := by rw [show x :: A = [x] ++ A from rfl, selD_app, selD_one hx]; exact run_then h1 (run_one hp)
theorem itD_start {us : Bool} {s : EL} {p : EL → Bool} {m : Int} {xs : List EL} {K : List (List EL)} {i : Nat} {O : List EL} (hK : K.length = xs.length + 1) (hs : SrtE (inter xs K)) (hi : i ≤ xs.length) (h : ∀ y ∈ xs.drop i, us = true ∧ s.key < y.key) : runA p m (selD us s (postI (xs.drop i) (K.drop (i + 1)))) O = (O, true) := by
  have hk : K[i]? = some K[i] := List.getElem?_eq_getElem (by omega)
  have e := inter_at hK hk
  rw [e] at hs
  have e1 : selD us s (postI (xs.drop i) (K.drop (i + 1))) = [] := by
    by_cases hsv : us = true
    · exact selD_none fun y hy => ⟨hsv, post_gt (srt_app (srt_app hs).2.1).2.1 (fun z hz => (h z hz).2) y hy⟩
    · have : xs.drop i = [] := List.eq_nil_iff_forall_not_mem.2 fun y hy => hsv (h y hy).1
      rw [this]
      cases K.drop (i + 1) <;> rfl
  rw [e1]; rfl
theorem pl_le {k : Int} {xs : List EL} {i : Nat} {b : Bool} (hs : SrtE xs) (h : PlE k xs i b) : i ≤ xs.length ∧ (∀ y ∈ xs.take i, y.key < k) ∧ (∀ y ∈ xs.drop i, k ≤ y.key) ∧ (b = false → ∀ y ∈ xs.drop i, k < y.key) ∧ (b = true → i < xs.length ∧ (∀ y ∈ xs.take (i + 1), y.key ≤ k) ∧ ∀ y ∈ xs.drop (i + 1), k < y.key) := by
  cases b with
  | true =>
    obtain ⟨x, hx, rfl⟩ := h.1 rfl
    have hl := (List.getElem?_eq_some_iff.1 hx).1
    have e := split_at hx
    rw [e] at hs
    have q := srt_at hs
    refine ⟨by omega, q.1, ?_, (fun h => by cases h), fun _ => ⟨hl, ?_, q.2⟩⟩
    · rw [drop_here hx]
      intro y hy
      rcases List.mem_cons.1 hy with rfl | hy
      · omega
      · have := q.2 y hy; omega
    · rw [take_next hx]
      intro y hy
      rcases List.mem_append.1 hy with hy | hy
      · have := q.1 y hy; omega
      · rw [List.mem_singleton.1 hy]; omega
  | false =>
    obtain ⟨h1, h2, h3⟩ := h.2 rfl
    exact ⟨h1, h2, fun y hy => by have := h3 y hy; omega, fun _ => h3, fun h => by cases h⟩
/-! ### The list that is made, and the operation -/
def outP (ob pb : Nat) (q : BO) (O : List EL) : SP := fun h => ∃ ov : Value, grp [cl ob 22 [ov], sl 24 2 ov O.length (O.flatMap EL.cells), cl pb 30 q.cells] h
theorem Holds.out_out {w : World} {l : List SP} {ob pb : Nat} {q : BO} {O : List EL} (H : Holds w (outP ob pb q O :: l)) : ∃ ov, Holds w (cl ob 22 [ov] :: sl 24 2 ov O.length (O.flatMap EL.cells) :: cl pb 30 q.cells :: l) := by
  obtain ⟨h1, k, s, t, d, ⟨ov, a⟩, r⟩ := H
  exact ⟨ov, Holds.ungrp (l := [_, _, _]) ⟨h1, k, s, t, d, a, r⟩⟩
theorem Holds.out_in {w : World} {l : List SP} {ob pb : Nat} {q : BO} {O : List EL} {ov : Value} (H : Holds w (cl ob 22 [ov] :: sl 24 2 ov O.length (O.flatMap EL.cells) :: cl pb 30 q.cells :: l)) : Holds w (outP ob pb q O :: l) := by
  obtain ⟨h1, k, s, t, d, a, r⟩ := Holds.grp (l := [_, _, _]) H
  exact ⟨h1, k, s, t, d, ⟨ov, a⟩, r⟩

end Go.Proofs.Ytdfjdmmmlidamaa
set_option linter.unusedVariables false
set_option linter.unusedSimpArgs false
namespace Go.Proofs.Ytdfjdmmmlidamaa
open Go Go.RowKit Gw Try
open Go.Value renaming int → vI, bool → vB, slice → vS, pointer → vP, agg → vA, tuple → vT

set_option maxHeartbeats 1600000 in
theorem btVis (R : HP) (ob pb : Nat) (q : BO) (O : List EL) (e : EL) (hO : O.length ≤ 1000000) :
    Tri Try.prog 44 #[(vA #[(vI .i64 e.key), (vI .i64 e.val)]), (vP (some ⟨ob, 0, none⟩)), (vP (some ⟨pb, 0, none⟩))] R [outP ob pb q O] (fun v__ post__ => v__ = (vB (moreB q.most (O ++ [e]))) ∧ post__ = [outP ob pb q (O ++ [e])]) := by
 refine Tri.into (n := 19) (al := [(vA #[(vI .i64 e.key), (vI .i64 e.val)]), (vP (some ⟨ob, 0, none⟩)), (vP (some ⟨pb, 0, none⟩))]) func44 rfl ntmps44 rfl rfl fun w F H => ?_
 have H1_ := ((Holds.bring H 1 rfl) :)
 obtain ⟨ov2_, H3_⟩ := Holds.out_out H1_
 refine cR fun _ hK4_ => ?_
 refine S_list (T_box (v := (vA #[(vI .i64 e.key), (vI .i64 e.val)])) rfl H3_ ?_)
 intro b5_ w6_ S8_ H7_
 have S9_ := Same.trans (Same.refl w) S8_
 refine sv (v := (vB false)) (x_assign rfl) ?_
 refine wn (hK4_ _ _ ?_)
 refine cR fun _ hK10_ => ?_
 refine sv (v := ov2_) (x_load1 rfl underlying22 rfl ((Holds.rd H7_ 1 rfl) 0 ov2_ rfl)) ?_
 refine sv (v := (vA #[(vI .i64 e.key), (vI .i64 e.val)])) (x_loadN (vs := [(vI .i64 e.key), (vI .i64 e.val)]) rfl underlying24 rfl z24 rfl (Rd.cells (Holds.rd H7_ 0 rfl) 0 rfl)) ?_
 refine S_list (T_new (obj := .cells #[(vI .i64 e.key), (vI .i64 e.val)] 24) (f := fun b__ => .slice (some ⟨b__, 0, none⟩) 1 1) (A := fun b__ => cl b__ 24 [(vI .i64 e.key), (vI .i64 e.val)]) (by kernel_rfl) (fun l h => h.alloc _ _) H7_ ?_)
 intro b11_ w12_ S14_ H13_
 have S15_ := Same.trans S9_ S14_
 refine S_list (T_append rfl rfl underlying22 z24 rfl (by decide) H13_ 3 rfl (Holds.cl_src H13_ 0 rfl underlying22 (by simp [Value.oneCell']) rfl) (by first | omega | (simp only [List.length_append, List.length_cons, List.length_nil]; omega)) ?_)
 intro v16_ w17_ S19_ H18_
 have S20_ := Same.trans S15_ S19_
 refine S_list0 (T_store1 (v := v16_) rfl rfl z22 (Holds.sl_one H18_ 3 rfl) H18_ 2 rfl (Nat.le_of_ble_eq_true (by rfl)) ?_)
 intro w21_ S23_ H22_
 have S24_ := Same.trans S20_ S23_
 refine wn (hK10_ _ _ ?_)
 refine cR fun _ hK25_ => ?_
 refine sv (v := (vP (some ⟨pb, 6, none⟩))) (by kernel_rfl) ?_
 refine sv (v := (vI .i64 q.most)) (x_load1 rfl underlying3 rfl ((Holds.rd H22_ 4 rfl) 6 (vI .i64 q.most) rfl)) ?_
 refine sv (v := (vB (decide (q.most ≤ 0)))) (x_bin rfl rfl rfl) ?_
 refine sm (vB (decide (q.most ≤ 0))) ?_
 rcases Bool.eq_false_or_eq_true (decide (q.most ≤ 0)) with c26_t | c26_f
 ·have c26_tp : q.most ≤ 0 := of_decide_eq_true c26_t
  refine S_no (j := 3) (dj := 12) (b := true) rfl rfl (congrArg vB c26_t) (by decide) ?_
  refine S_no (j := 3) (dj := 12) (b := true) rfl rfl (congrArg vB c26_t) (by decide) ?_
  refine S_no (j := 3) (dj := 12) (b := true) rfl rfl (congrArg vB c26_t) (by decide) ?_
  refine S_no (j := 3) (dj := 12) (b := true) rfl rfl (congrArg vB c26_t) (by decide) ?_
  refine S_no (j := 3) (dj := 12) (b := true) rfl rfl (congrArg vB c26_t) (by decide) ?_
  refine S_list (T_pickT (v := (vB true)) (congrArg vB c26_t) rfl ?_)
  refine sv (v := (vB true)) (x_assign rfl) ?_
  refine wn (hK25_ _ _ ?_)
  refine C_ret ?_
  refine R_any (v := (vB true)) (run_results1 rfl rfl) ?_
  have H27_ := Holds.resl H22_ 3 rfl (by rw [List.flatMap_append]; rfl : (O.flatMap EL.cells) ++ [(vI .i64 e.key), (vI .i64 e.val)] = (O ++ [e]).flatMap EL.cells) (by first | (simp; done) | (simp; omega) : (List.length O) + 1 = (List.length (O ++ [e])))
  have H28_ := ((Holds.bring (Holds.bring (Holds.bring H27_ 4 rfl) 4 rfl) 4 rfl) :)
  have H29_ := Holds.out_in H28_
  have H30_ := Holds.pkF H29_ [3, 0] 2
  exact ⟨_, _, rfl, ⟨(congrArg vB ((by simp [moreB]; omega) : true = (moreB q.most (O ++ [e])))), rfl⟩, S24_, H30_⟩
 ·have c26_fp : ¬ (q.most ≤ 0) := of_decide_eq_false c26_f
  refine S_yes (j := 3) (dj := 12) (b := false) rfl rfl (congrArg vB c26_f) (T_val (v := v16_) (x_load1 rfl underlying22 rfl ((Holds.rd H22_ 2 rfl) 0 v16_ rfl)) ?_)
  refine S_yes (j := 3) (dj := 12) (b := false) rfl rfl (congrArg vB c26_f) (T_val (v := (vI .i64 ((List.length O) + 1 : Int))) (x_lenSl rfl H22_ 3 rfl underlying22) ?_)
  refine S_yes (j := 3) (dj := 12) (b := false) rfl rfl (congrArg vB c26_f) (T_val (v := (vP (some ⟨pb, 6, none⟩))) (by kernel_rfl) ?_)
  refine S_yes (j := 3) (dj := 12) (b := false) rfl rfl (congrArg vB c26_f) (T_val (v := (vI .i64 q.most)) (x_load1 rfl underlying3 rfl ((Holds.rd H22_ 4 rfl) 6 (vI .i64 q.most) rfl)) ?_)
  refine S_yes (j := 3) (dj := 12) (b := false) rfl rfl (congrArg vB c26_f) (T_val (v := (vB (decide (((List.length O) + 1 : Int) < q.most)))) (x_bin rfl rfl rfl) ?_)
  refine S_list (T_pickF (v := (vB (decide (((List.length O) + 1 : Int) < q.most)))) (congrArg vB c26_f) rfl ?_)
  refine sv (v := (vB (decide (((List.length O) + 1 : Int) < q.most)))) (x_assign rfl) ?_
  refine wn (hK25_ _ _ ?_)
  refine C_ret ?_
  refine R_any (v := (vB (decide (((List.length O) + 1 : Int) < q.most)))) (run_results1 rfl rfl) ?_
  have H31_ := Holds.resl H22_ 3 rfl (by rw [List.flatMap_append]; rfl : (O.flatMap EL.cells) ++ [(vI .i64 e.key), (vI .i64 e.val)] = (O ++ [e]).flatMap EL.cells) (by first | (simp; done) | (simp; omega) : (List.length O) + 1 = (List.length (O ++ [e])))
  have H32_ := ((Holds.bring (Holds.bring (Holds.bring H31_ 4 rfl) 4 rfl) 4 rfl) :)
  have H33_ := Holds.out_in H32_
  have H34_ := Holds.pkF H33_ [3, 0] 2
  exact ⟨_, _, rfl, ⟨(congrArg vB ((by simp [moreB]; omega) : (decide (((List.length O) + 1 : Int) < q.most)) = (moreB q.most (O ++ [e])))), rfl⟩, S24_, H34_⟩
end Go.Proofs.Ytdfjdmmmlidamaa
set_option linter.unusedVariables false
set_option linter.unusedSimpArgs false
namespace Go.Proofs.Ytdfjdmmmlidamaa
open Go Go.RowKit Gw Try
open Go.Value renaming int → vI, bool → vB, slice → vS, pointer → vP, agg → vA, tuple → vT

/-! ### Steps of a listing -/
theorem sel_le (us : Bool) (s : EL) (l : List EL) : (selA us s l).length ≤ l.length := List.length_filter_le ..
theorem selD_le (us : Bool) (s : EL) (l : List EL) : (selD us s l).length ≤ l.length := by unfold selD; rw [List.length_reverse]; exact List.length_filter_le ..
theorem runA_bnd {us : Bool} {s : EL} {p : EL → Bool} {m : Int} {A O O1 : List EL} {b : Bool} (h : runA p m (selA us s A) O = (O1, b)) : O1.length ≤ O.length + A.length := by
  have h1 := run_len p m (selA us s A) O
  rw [h] at h1
  exact Nat.le_trans h1 (Nat.add_le_add_left (sel_le us s A) _)
theorem runD_bnd {us : Bool} {s : EL} {p : EL → Bool} {m : Int} {A O O1 : List EL} {b : Bool} (h : runA p m (selD us s A) O = (O1, b)) : O1.length ≤ O.length + A.length := by
  have h1 := run_len p m (selD us s A) O
  rw [h] at h1
  exact Nat.le_trans h1 (Nat.add_le_add_left (selD_le us s A) _)
theorem pre_len {xs : List EL} {K : List (List EL)} {i : Nat} {k : List EL} (hK : K.length = xs.length + 1) (hk : K[i]? = some k) : (preI (xs.take i) (K.take i)).length + k.length ≤ (inter xs K).length := by
  rw [inter_at hK hk]; simp only [List.length_append]; omega
theorem pre_len1 {xs : List EL} {K : List (List EL)} {i : Nat} {k : List EL} {x : EL} (hK : K.length = xs.length + 1) (hk : K[i]? = some k) (hx : xs[i]? = some x) : (preI (xs.take i) (K.take i)).length + k.length + 1 ≤ (inter xs K).length := by
  have hl := (List.getElem?_eq_some_iff.1 hx).1
  rw [inter_at hK hk, postI_at hx (List.getElem?_eq_getElem (by omega))]; simp only [List.length_append, List.length_cons]; omega
theorem post_len {xs : List EL} {K : List (List EL)} {i : Nat} {k : List EL} (hK : K.length = xs.length + 1) (hk : K[i]? = some k) : k.length + (postI (xs.drop i) (K.drop (i + 1))).length ≤ (inter xs K).length := by
  rw [inter_at hK hk]; simp only [List.length_append]; omega
theorem postI_at' {xs : List EL} {K : List (List EL)} {j : Nat} {x : EL} {k : List EL} (hj : 1 ≤ j) (hx : xs[j - 1]? = some x) (hk : K[j]? = some k) : postI (xs.drop (j - 1)) (K.drop (j - 1 + 1)) = x :: (k ++ postI (xs.drop j) (K.drop (j + 1))) := by
  obtain ⟨i, rfl⟩ : ∃ i, j = i + 1 := ⟨j - 1, by omega⟩
  exact postI_at hx hk
theorem post_len1 {xs : List EL} {K : List (List EL)} {j : Nat} {k : List EL} {x : EL} (hK : K.length = xs.length + 1) (hj : 1 ≤ j) (hk : K[j]? = some k) (hx : xs[j - 1]? = some x) : k.length + (postI (xs.drop j) (K.drop (j + 1))).length + 1 ≤ (inter xs K).length := by
  have h := post_len (i := j - 1) hK (List.getElem?_eq_getElem (by have := (List.getElem?_eq_some_iff.1 hx).1; omega))
  rw [postI_at' hj hx hk] at h
  simp only [List.length_append, List.length_cons] at h
  omega
theorem inter_two' {xs : List EL} {K : List (List EL)} {i : Nat} (hK : K.length = xs.length + 1) (hi : i ≤ xs.length) : inter xs K = inter (xs.take i) (K.take (i + 1)) ++ postI (xs.drop i) (K.drop (i + 1)) := by
  have hk : K[i]? = some K[i] := List.getElem?_eq_getElem (by omega)
  have e2 : (K.take (i + 1))[i]? = some K[i] := by rw [List.getElem?_take, if_pos (by omega), hk]
  have h2 := inter_at (xs := xs.take i) (ks := K.take (i + 1)) (i := i) (k := K[i]) (by rw [List.length_take, List.length_take]; omega) e2
  rw [List.take_take, Nat.min_self, List.take_take, Nat.min_eq_left (by omega), List.drop_of_length_le (by rw [List.length_take]; omega)] at h2
  rw [h2, inter_at hK hk]
  simp [postI]
theorem inter_lt {xs : List EL} {K : List (List EL)} {j : Nat} {x s : EL} (hK : K.length = xs.length + 1) (hs : SrtE (inter xs K)) (hj : 1 ≤ j) (hx : xs[j - 1]? = some x) (hxs : x.key ≤ s.key) : ∀ y ∈ inter (xs.take (j - 1)) (K.take (j - 1 + 1)), y.key < s.key := by
  intro y hy
  rw [inter_cut hK hx] at hs
  have := (srt_at hs).1 y hy
  omega
theorem inter_memx {xs : List EL} {K : List (List EL)} {j : Nat} {x : EL} (hK : K.length = xs.length + 1) (hj : 1 ≤ j) (hx : xs[j - 1]? = some x) : x ∈ inter (xs.take j) (K.take (j + 1)) := by
  have hl := (List.getElem?_eq_some_iff.1 hx).1
  refine (inter_sub (by rw [List.length_take, List.length_take]; omega)).mem ?_
  refine List.mem_of_getElem? (i := j - 1) ?_
  rw [List.getElem?_take, if_pos (by omega), hx]
theorem inter_memk {xs : List EL} {K : List (List EL)} {j : Nat} {k : List EL} (hK : K.length = xs.length + 1) (hj : j ≤ xs.length) (hk : K[j]? = some k) : ∀ y ∈ k, y ∈ inter (xs.take j) (K.take (j + 1)) := by
  intro y hy
  have e2 : (K.take (j + 1))[j]? = some k := by rw [List.getElem?_take, if_pos (by omega), hk]
  rw [inter_at (by rw [List.length_take, List.length_take]; omega) e2]
  exact List.mem_append.2 (.inr (List.mem_append.2 (.inl hy)))
theorem mem_dropI {xs : List EL} {i n : Nat} {x : EL} (hx : xs[i]? = some x) (h : n ≤ i) : x ∈ xs.drop n := List.mem_of_getElem? (i := i - n) (by rw [List.getElem?_drop, show n + (i - n) = i by omega, hx])
theorem mem_takeI {xs : List EL} {i n : Nat} {x : EL} (hx : xs[i]? = some x) (h : i < n) : x ∈ xs.take n := List.mem_of_getElem? (i := i) (by rw [List.getElem?_take, if_pos h, hx])
section
variable {us : Bool} {s x : EL} {p : EL → Bool} {m : Int} {xs : List EL} {K : List (List EL)} {i j : Nat} {k O O1 O2 : List EL}
theorem finA_kid (hK : K.length = xs.length + 1) (hk : K[i]? = some k) (h : runA p m (selA us s (preI (xs.take i) (K.take i) ++ k)) O = (O1, false)) : runA p m (selA us s (inter xs K)) O = (O1, false) := by
  rw [inter_at hK hk, ← List.append_assoc]; exact itA_out h
theorem finA_item (hK : K.length = xs.length + 1) (hk : K[i]? = some k) (hx : xs[i]? = some x) (h : runA p m (selA us s (preI (xs.take i) (K.take i) ++ k ++ [x])) O = (O1, false)) : runA p m (selA us s (inter xs K)) O = (O1, false) := by
  have hl := (List.getElem?_eq_some_iff.1 hx).1
  have e : inter xs K = (preI (xs.take i) (K.take i) ++ k ++ [x]) ++ ((K[i + 1]'(by omega)) ++ postI (xs.drop (i + 1)) (K.drop (i + 2))) := by
    rw [inter_at hK hk, postI_at hx (List.getElem?_eq_getElem (by omega))]; simp
  rw [e]; exact itA_out h
theorem nextA (hk : K[i]? = some k) (hx : xs[i]? = some x) {b : Bool} (h : runA p m (selA us s (preI (xs.take i) (K.take i) ++ k ++ [x])) O = (O1, b)) : runA p m (selA us s (preI (xs.take (i + 1)) (K.take (i + 1)))) O = (O1, b) := by
  rw [preI_succ hx hk, ← List.append_assoc]; exact h
theorem finA (hK : K.length = xs.length + 1) (hi : i = xs.length) (hk : K[i]? = some k) {b : Bool} (h : runA p m (selA us s (preI (xs.take i) (K.take i) ++ k)) O = (O1, b)) : runA p m (selA us s (inter xs K)) O = (O1, b) := by
  rw [inter_at hK hk, List.drop_of_length_le (by omega), show postI [] (K.drop (i + 1)) = [] by cases K.drop (i + 1) <;> rfl, List.append_nil]; exact h
theorem finD_kid (hK : K.length = xs.length + 1) (hk : K[j]? = some k) (h : runA p m (selD us s (k ++ postI (xs.drop j) (K.drop (j + 1)))) O = (O1, false)) : runA p m (selD us s (inter xs K)) O = (O1, false) := by
  rw [inter_at hK hk]; exact itD_out h
theorem nextD (hj : 1 ≤ j) (hk : K[j]? = some k) (hx : xs[j - 1]? = some x) {b : Bool} (h : runA p m (selD us s (x :: (k ++ postI (xs.drop j) (K.drop (j + 1))))) O = (O1, b)) : runA p m (selD us s (postI (xs.drop (j - 1)) (K.drop (j - 1 + 1)))) O = (O1, b) := by
  rw [postI_at' hj hx hk]; exact h
theorem finD_item (hK : K.length = xs.length + 1) (hj : 1 ≤ j) (hk : K[j]? = some k) (hx : xs[j - 1]? = some x) (h : runA p m (selD us s (x :: (k ++ postI (xs.drop j) (K.drop (j + 1))))) O = (O1, false)) : runA p m (selD us s (inter xs K)) O = (O1, false) := by
  have hl := (List.getElem?_eq_some_iff.1 hx).1
  have h2 := nextD hj hk hx h
  rw [inter_at (i := j - 1) hK (List.getElem?_eq_getElem (by omega)), ← List.append_assoc]
  exact itD_out h2
theorem finD (hK : K.length = xs.length + 1) (hj : j = 0) (hk : K[0]? = some k) {b : Bool} (h : runA p m (selD us s (k ++ postI (xs.drop j) (K.drop (j + 1)))) O = (O1, b)) : runA p m (selD us s (inter xs K)) O = (O1, b) := by
  subst hj
  rw [inter_at hK hk]
  have e : preI (xs.take 0) (K.take 0) = [] := rfl
  rw [e, List.nil_append]; exact h
end
def KR (xs : List EL) : List (List EL) := List.replicate (xs.length + 1) []
theorem KR_len (xs : List EL) : (KR xs).length = xs.length + 1 := List.length_replicate ..
theorem KR_at {xs : List EL} {i : Nat} (h : i ≤ xs.length) : (KR xs)[i]? = some [] := by unfold KR; rw [List.getElem?_replicate, if_pos (by omega)]
theorem KR_inter (xs : List EL) : inter xs (KR xs) = xs := inter_reps xs

end Go.Proofs.Ytdfjdmmmlidamaa
