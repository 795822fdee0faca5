/- One operation of the reference. -/
import Derived.Test.YtiblemgccgbhoaaKyF0
set_option linter.unusedVariables false
set_option linter.unusedSimpArgs false
namespace Go.Proofs.Ytiblemgccgbhoaa
open Go Go.RowKit Gw

def kmOk (b : Bool) : KM := ⟨b, 0, 0, 0, 0, 0, [], 0, 0, []⟩
def kmRev (r : List RV) : KM := ⟨false, 0, 0, 0, 0, 0, r, 0, 0, []⟩
/-- One operation on some changes; none: it is refused. -/
def kDo (l : List VR) (o : KO) : Option (List VR × KM) :=
  if o.kind = 1 then (if vLessB (vLast l).rev_Main (vLast l).rev_Sub o.rev_Main o.rev_Sub then some (l ++ [vPut l o.rev_Main o.rev_Sub], kmOk true) else none)
  else if o.kind = 2 then (if (vLast l).gone then some (l, kmOk false) else if vLessB (vLast l).rev_Main (vLast l).rev_Sub o.rev_Main o.rev_Sub then some (l ++ [vEnd l o.rev_Main o.rev_Sub], kmOk true) else none)
  else if o.kind = 5 then some (l, ⟨vHoldB l o.at_, (vHold l o.at_).rev_Main, (vHold l o.at_).rev_Sub, (vHold l o.at_).created_Main, (vHold l o.at_).created_Sub, (vHold l o.at_).ver, [], 0, 0, []⟩)
  else if o.kind = 6 then some (l, kmRev (vSince l o.at_))
  else if o.kind = 7 then some (vCompact l o.at_, kmRev (vKept l o.at_ true))
  else if o.kind = 8 then some (l, kmRev (vKept l o.at_ false))
  else some (l, kmOk false)
section
variable {l : List VR} {o : KO}
theorem kDo_put (h : o.kind = 1) (hl : vLessB (vLast l).rev_Main (vLast l).rev_Sub o.rev_Main o.rev_Sub = true) : kDo l o = some (l ++ [vPut l o.rev_Main o.rev_Sub], kmOk true) := by
  unfold kDo; rw [if_pos h, if_pos hl]
theorem kDo_putNo (h : o.kind = 1) (hl : vLessB (vLast l).rev_Main (vLast l).rev_Sub o.rev_Main o.rev_Sub = false) : kDo l o = none := by
  unfold kDo; rw [if_pos h, hl]; rfl
theorem kDo_end (h : o.kind = 2) (hg : (!(vLast l).gone) = true) (hl : vLessB (vLast l).rev_Main (vLast l).rev_Sub o.rev_Main o.rev_Sub = true) : kDo l o = some (l ++ [vEnd l o.rev_Main o.rev_Sub], kmOk true) := by
  unfold kDo; rw [if_neg (by omega), if_pos h, if_neg (by simpa using hg), if_pos hl]
theorem kDo_endNo (h : o.kind = 2) (hg : (!(vLast l).gone) = true) (hl : vLessB (vLast l).rev_Main (vLast l).rev_Sub o.rev_Main o.rev_Sub = false) : kDo l o = none := by
  unfold kDo; rw [if_neg (by omega), if_pos h, if_neg (by simpa using hg), hl]; rfl
theorem kDo_endGone (h : o.kind = 2) (hg : (!(vLast l).gone) = false) : kDo l o = some (l, kmOk false) := by
  unfold kDo; rw [if_neg (by omega), if_pos h, if_pos (by simpa using hg)]
theorem kDo_get (h : o.kind = 5) : kDo l o = some (l, ⟨vHoldB l o.at_, (vHold l o.at_).rev_Main, (vHold l o.at_).rev_Sub, (vHold l o.at_).created_Main, (vHold l o.at_).created_Sub, (vHold l o.at_).ver, [], 0, 0, []⟩) := by
  unfold kDo; rw [if_neg (by omega), if_neg (by omega), if_pos h]
theorem kDo_since (h : o.kind = 6) : kDo l o = some (l, kmRev (vSince l o.at_)) := by
  unfold kDo; rw [if_neg (by omega), if_neg (by omega), if_neg (by omega), if_pos h]
theorem kDo_compact (h : o.kind = 7) : kDo l o = some (vCompact l o.at_, kmRev (vKept l o.at_ true)) := by
  unfold kDo; rw [if_neg (by omega), if_neg (by omega), if_neg (by omega), if_neg (by omega), if_pos h]
theorem kDo_keep (h : o.kind = 8) : kDo l o = some (l, kmRev (vKept l o.at_ false)) := by
  unfold kDo; rw [if_neg (by omega), if_neg (by omega), if_neg (by omega), if_neg (by omega), if_neg (by omega), if_pos h]
theorem kDo_else (h1 : ¬ o.kind = 1) (h2 : ¬ o.kind = 2) (h5 : ¬ o.kind = 5) (h6 : ¬ o.kind = 6) (h7 : ¬ o.kind = 7) (h8 : ¬ o.kind = 8) : kDo l o = some (l, kmOk false) := by
  unfold kDo; rw [if_neg h1, if_neg h2, if_neg h5, if_neg h6, if_neg h7, if_neg h8]
end


set_option maxHeartbeats 400000 in
theorem kKeyDo (R : HP) (v : Value) (L : List VR) (o : KO) (hL : RS R 6 v (List.length L) (L.flatMap VR.cells)) (hl : L.length ≤ 10000) (hv : ∀ x ∈ L, 0 ≤ x.ver ∧ x.ver ≤ 10000) :
    TriG Try.prog 18 #[v, (Value.agg #[(Value.int .i64 o.kind), (Value.int .i64 o.rev_Main), (Value.int .i64 o.rev_Sub), (Value.int .i64 o.created_Main), (Value.int .i64 o.created_Sub), (Value.int .i64 o.ver), (Value.int .i64 o.at_)])] R [] (fun R' v__ post__ => (∃ (v' rv : Value) (ok : Bool) (mm ms cm cs ver : Int) (L' : List VR) (rl : List RV), v__ = (Value.tuple #[v', (Value.agg #[(Value.bool ok), (Value.int .i64 mm), (Value.int .i64 ms), (Value.int .i64 cm), (Value.int .i64 cs), (Value.int .i64 ver), rv, (Value.int .i64 0), (Value.int .i64 0), (Value.slice none 0 0)]), (Value.bool true)]) ∧ post__ = [] ∧ (kDo L o = some (L', ⟨ok, mm, ms, cm, cs, ver, rl, 0, 0, []⟩)) ∧ (RS R' 6 v' (List.length L') (L'.flatMap VR.cells)) ∧ (RS R' 2 rv (List.length rl) (rl.flatMap RV.cells))) ∨ (∃ (v' : Value), v__ = (Value.tuple #[v', (Value.agg #[(Value.bool false), (Value.int .i64 0), (Value.int .i64 0), (Value.int .i64 0), (Value.int .i64 0), (Value.int .i64 0), (Value.slice none 0 0), (Value.int .i64 0), (Value.int .i64 0), (Value.slice none 0 0)]), (Value.bool false)]) ∧ post__ = [] ∧ (kDo L o = none))) := by
 refine TriG.into (n := 90) (al := [v, (Value.agg #[(Value.int .i64 o.kind), (Value.int .i64 o.rev_Main), (Value.int .i64 o.rev_Sub), (Value.int .i64 o.created_Main), (Value.int .i64 o.created_Sub), (Value.int .i64 o.ver), (Value.int .i64 o.at_)])]) Try.func18 rfl Try.ntmps18 rfl rfl fun w F H => ?_
 refine C_seq (fun K1_ hK1_ => ?_)
 refine C_reg ?_
 refine S_list (T_box (v := (Value.agg #[(Value.int .i64 o.kind), (Value.int .i64 o.rev_Main), (Value.int .i64 o.rev_Sub), (Value.int .i64 o.created_Main), (Value.int .i64 o.created_Sub), (Value.int .i64 o.ver), (Value.int .i64 o.at_)])) rfl H ?_)
 intro b2_ w3_ S5_ H4_
 have S6_ := Same.trans (Same.refl w) S5_
 refine S_list (T_val (v := (Value.slice none 0 0)) (x_assign rfl) ?_)
 refine S_list (T_alloc z43 H4_ ?_)
 intro b7_ w8_ S10_ H9_
 replace H9_ : Holds w8_ (cl b7_ 43 [(Value.bool false), (Value.int .i64 0), (Value.int .i64 0), (Value.int .i64 0), (Value.int .i64 0), (Value.int .i64 0), (Value.slice none 0 0), (Value.int .i64 0), (Value.int .i64 0), (Value.slice none 0 0)] :: cl b2_ 39 [(Value.int .i64 o.kind), (Value.int .i64 o.rev_Main), (Value.int .i64 o.rev_Sub), (Value.int .i64 o.created_Main), (Value.int .i64 o.created_Sub), (Value.int .i64 o.ver), (Value.int .i64 o.at_)] :: ro R :: F) := H9_
 have S11_ := Same.trans S6_ S10_
 refine S_list (T_val (v := (Value.bool false)) (x_assign rfl) ?_)
 refine wpList_nil ?_
 refine (X_then (hK1_ _ _ ?_))
 clear hK1_
 refine C_seq (fun K12_ hK12_ => ?_)
 refine C_reg ?_
 refine S_list (T_alloc z43 H9_ ?_)
 intro b13_ w14_ S16_ H15_
 have S17_ := Same.trans S11_ S16_
 refine wpList_nil ?_
 refine (X_then (hK12_ _ _ ?_))
 clear hK12_
 refine C_seq (fun K18_ hK18_ => ?_)
 refine C_seq (fun K19_ hK19_ => ?_)
 refine C_reg ?_
 refine S_list (T_val (v := (Value.pointer (some ⟨b2_, 0, none⟩))) (by kernel_rfl) ?_)
 refine S_list (T_val (v := (Value.int .i64 o.kind)) (x_load1 rfl Try.underlying3 rfl ((Holds.rd H15_ 2 rfl) 0 (Value.int .i64 o.kind) rfl)) ?_)
 refine wpList_nil ?_
 refine (X_then (hK19_ _ _ ?_))
 clear hK19_
 refine C_block ?_
 refine C_seq (fun K20_ hK20_ => ?_)
 refine C_reg ?_
 refine S_list (T_val (v := (Value.bool (decide (o.kind = 1)))) (x_bin rfl rfl rfl) ?_)
 refine S_list (T_val (v := (Value.bool (decide (o.kind = 1)))) (x_assign rfl) ?_)
 refine wpList_nil ?_
 refine (X_then (hK20_ _ _ ?_))
 clear hK20_
 refine C_cond (b := decide (o.kind = 1)) rfl (fun c21_t => ?_) (fun c21_f => ?_)
 ·have c21_tp : o.kind = 1 := of_decide_eq_true c21_t
  refine C_seq (fun K22_ hK22_ => ?_)
  refine C_seq (fun K23_ hK23_ => ?_)
  refine A_start (S := fun w => Rd b2_ [(Value.int .i64 o.kind), (Value.int .i64 o.rev_Main), (Value.int .i64 o.rev_Sub), (Value.int .i64 o.created_Main), (Value.int .i64 o.created_Sub), (Value.int .i64 o.ver), (Value.int .i64 o.at_)] w ∧ Sub R (hp w)) (N := 6) foll rfl rfl ?_
  have H24_ := Holds.drew_ H15_
  have hq25_ := And.intro (Holds.rd H24_ 2 rfl) ((Holds.ro_at H24_ 3 rfl))
  refine A_tk 0 (v := v) rfl (by kernel_rfl) (fun w hS => x_move rfl) hq25_ ?_
  refine A_tk 2 (v := (Value.pointer (some ⟨b2_, 1, none⟩))) rfl (by kernel_rfl) (fun w hS => by kernel_rfl) hq25_ ?_
  refine A_tk 3 (v := (Value.agg #[(Value.int .i64 o.rev_Main), (Value.int .i64 o.rev_Sub)])) rfl (by kernel_rfl) (fun w hS => x_loadN (vs := [(Value.int .i64 o.rev_Main), (Value.int .i64 o.rev_Sub)]) rfl Try.underlying31 rfl z31 rfl (Rd.cells hS.1 1 rfl)) hq25_ ?_
  refine A_ready (i := 1) (rs := []) (by kernel_rfl) ?_
  refine AllR.cons ?_ AllR.nil
  have H27_ := ((Holds.bring H24_ 3 rfl) :)
  refine A_op (ls' := #[true, true, true, true, false, false]) rfl (by kernel_rfl) (T_call (al := [v]) (pre := []) rfl rfl cb17 (kModified R v L hL (by first | assumption | omega)) H27_ ?_)
  rintro v26_ p31_ w28_ ⟨rfl, rfl⟩ S30_ H29_
  replace H29_ : Holds w28_ (ro R :: cl b13_ 43 [(Value.bool false), (Value.int .i64 0), (Value.int .i64 0), (Value.int .i64 0), (Value.int .i64 0), (Value.int .i64 0), (Value.slice none 0 0), (Value.int .i64 0), (Value.int .i64 0), (Value.slice none 0 0)] :: cl b7_ 43 [(Value.bool false), (Value.int .i64 0), (Value.int .i64 0), (Value.int .i64 0), (Value.int .i64 0), (Value.int .i64 0), (Value.slice none 0 0), (Value.int .i64 0), (Value.int .i64 0), (Value.slice none 0 0)] :: cl b2_ 39 [(Value.int .i64 o.kind), (Value.int .i64 o.rev_Main), (Value.int .i64 o.rev_Sub), (Value.int .i64 o.created_Main), (Value.int .i64 o.created_Sub), (Value.int .i64 o.ver), (Value.int .i64 o.at_)] :: F) := H29_
  have S32_ := Same.trans (Same.trans S17_ (Same.drew _)) S30_
  refine ⟨⟨Holds.rd H29_ 3 rfl, (Holds.ro_at H29_ 0 rfl)⟩, ?_⟩
  refine A_ready (i := 4) (rs := []) (by kernel_rfl) ?_
  refine AllR.cons ?_ AllR.nil
  refine A_op (ls' := #[true, true, true, true, true, false]) rfl (by kernel_rfl) (T_call (al := [(Value.agg #[(Value.int .i64 ((vLast L).rev_Main)), (Value.int .i64 ((vLast L).rev_Sub))]), (Value.agg #[(Value.int .i64 o.rev_Main), (Value.int .i64 o.rev_Sub)])]) (pre := []) rfl rfl cb26 (kLess R ((vLast L).rev_Main) ((vLast L).rev_Sub) o.rev_Main o.rev_Sub) H29_ ?_)
  rintro v33_ p37_ w34_ ⟨rfl, rfl⟩ S36_ H35_
  have S38_ := Same.trans S32_ S36_
  refine ⟨⟨Holds.rd H35_ 3 rfl, (Holds.ro_at H35_ 0 rfl)⟩, ?_⟩
  have hq39_ := And.intro (Holds.rd H35_ 3 rfl) ((Holds.ro_at H35_ 0 rfl))
  refine A_tk 5 (v := (Value.bool (!(vLessB ((vLast L).rev_Main) ((vLast L).rev_Sub) o.rev_Main o.rev_Sub)))) rfl (by kernel_rfl) (fun w hS => x_not rfl) hq39_ ?_
  refine A_done (by kernel_rfl) ?_
  refine (X_then (hK23_ _ _ ?_))
  clear hK23_
  refine C_cond (b := !(vLessB ((vLast L).rev_Main) ((vLast L).rev_Sub) o.rev_Main o.rev_Sub)) rfl (fun c40_t => ?_) (fun c40_f => ?_)
  ·skip
   refine C_seq (fun K41_ hK41_ => ?_)
   refine A_start (S := fun w => Rd b13_ [(Value.bool false), (Value.int .i64 0), (Value.int .i64 0), (Value.int .i64 0), (Value.int .i64 0), (Value.int .i64 0), (Value.slice none 0 0), (Value.int .i64 0), (Value.int .i64 0), (Value.slice none 0 0)] w ∧ Sub R (hp w)) (N := 5) foll rfl rfl ?_
   have H42_ := Holds.drew_ H35_
   have hq43_ := And.intro (Holds.rd H42_ 1 rfl) ((Holds.ro_at H42_ 0 rfl))
   refine A_tk 0 (v := v) rfl (by kernel_rfl) (fun w hS => x_move rfl) hq43_ ?_
   refine A_tk 1 (v := (Value.agg #[(Value.bool false), (Value.int .i64 0), (Value.int .i64 0), (Value.int .i64 0), (Value.int .i64 0), (Value.int .i64 0), (Value.slice none 0 0), (Value.int .i64 0), (Value.int .i64 0), (Value.slice none 0 0)])) rfl (by kernel_rfl) (fun w hS => x_loadN (vs := [(Value.bool false), (Value.int .i64 0), (Value.int .i64 0), (Value.int .i64 0), (Value.int .i64 0), (Value.int .i64 0), (Value.slice none 0 0), (Value.int .i64 0), (Value.int .i64 0), (Value.slice none 0 0)]) rfl Try.underlying43 rfl z43 rfl (Rd.cells hS.1 0 rfl)) hq43_ ?_
   refine A_tk 2 (v := v) rfl (by kernel_rfl) (fun w hS => x_assign rfl) hq43_ ?_
   refine A_ready (i := 3) (rs := []) (by kernel_rfl) ?_
   refine AllR.cons ?_ AllR.nil
   refine A_op0 (ls' := #[true, true, true, true, false]) rfl (by kernel_rfl) (T_storeN (vs := [(Value.bool false), (Value.int .i64 0), (Value.int .i64 0), (Value.int .i64 0), (Value.int .i64 0), (Value.int .i64 0), (Value.slice none 0 0), (Value.int .i64 0), (Value.int .i64 0), (Value.slice none 0 0)]) rfl rfl z43 rfl (by simp [Value.oneCell']) H42_ 2 rfl (Nat.le_of_ble_eq_true (by rfl)) ?_)
   intro w44_ S46_ H45_
   have S47_ := Same.trans (Same.trans S38_ (Same.drew _)) S46_
   refine ⟨⟨Holds.rd H45_ 1 rfl, (Holds.ro_at H45_ 0 rfl)⟩, ?_⟩
   have hq48_ := And.intro (Holds.rd H45_ 1 rfl) ((Holds.ro_at H45_ 0 rfl))
   refine A_tk 4 (v := (Value.bool false)) rfl (by kernel_rfl) (fun w hS => x_assign rfl) hq48_ ?_
   refine A_done (by kernel_rfl) ?_
   refine (X_then (hK41_ _ _ ?_))
   clear hK41_
   refine C_ret (X_thenR (X_blkR (X_thenR ?_)))
   refine R_any (v := (Value.tuple #[v, (Value.agg #[(Value.bool false), (Value.int .i64 0), (Value.int .i64 0), (Value.int .i64 0), (Value.int .i64 0), (Value.int .i64 0), (Value.slice none 0 0), (Value.int .i64 0), (Value.int .i64 0), (Value.slice none 0 0)]), (Value.bool false)])) (run_results3 rfl rfl ⟨_, rfl, load_resN Try.underlying43 rfl z43 rfl (vs := [(Value.bool false), (Value.int .i64 0), (Value.int .i64 0), (Value.int .i64 0), (Value.int .i64 0), (Value.int .i64 0), (Value.slice none 0 0), (Value.int .i64 0), (Value.int .i64 0), (Value.slice none 0 0)]) (Holds.cl_cells H45_ 2 rfl 0 rfl)⟩ rfl) ?_
   have H49_ : Holds w44_ (ro R :: F) := (Holds.pkF H45_ [0] 3 :)
   exact ⟨R, _, _, rfl, (Sub.rfl' _), (.inr ⟨v, rfl, rfl, (kDo_putNo c21_tp (by simpa using c40_t))⟩), S47_, H49_⟩
  ·skip
   refine C_skip (X_then (hK22_ _ _ ?_))
   clear hK22_
   refine C_reg ?_
   refine S_list (T_val (v := v) (x_move rfl) ?_)
   refine S_list (T_val (v := (Value.pointer (some ⟨b2_, 1, none⟩))) (by kernel_rfl) ?_)
   refine S_list (T_val (v := (Value.agg #[(Value.int .i64 o.rev_Main), (Value.int .i64 o.rev_Sub)])) (x_loadN (vs := [(Value.int .i64 o.rev_Main), (Value.int .i64 o.rev_Sub)]) rfl Try.underlying31 rfl z31 rfl (Rd.cells (Holds.rd H35_ 3 rfl) 1 rfl)) ?_)
   refine S_list (T_call (al := [v, (Value.agg #[(Value.int .i64 o.rev_Main), (Value.int .i64 o.rev_Sub)])]) (pre := []) rfl rfl cb27 (kWritten R v L o.rev_Main o.rev_Sub hL (by first | assumption | omega) (by first | assumption | omega)) H35_ ?_)
   rintro v50_ p54_ w51_ ⟨_, rfl, rfl⟩ S53_ H52_
   have S55_ := Same.trans S38_ S53_
   refine S_list (T_val (v := v50_) (x_assign rfl) ?_)
   refine S_list (T_val (v := (Value.pointer (some ⟨b13_, 0, none⟩))) (by kernel_rfl) ?_)
   refine S_list0 (T_store1 (v := (Value.bool true)) rfl rfl z4 rfl H52_ 2 rfl (Nat.le_of_ble_eq_true (by rfl)) ?_)
   intro w56_ S58_ H57_
   have S59_ := Same.trans S55_ S58_
   refine wpList_nil ?_
   refine (X_blkN (X_then (hK18_ _ _ ?_)))
   clear hK18_
   refine C_seq (fun K60_ hK60_ => ?_)
   refine A_start (S := fun w => SlRd v50_ ((L ++ [vPut L o.rev_Main o.rev_Sub]).flatMap VR.cells) w ∧ Rd b13_ [(Value.bool true), (Value.int .i64 0), (Value.int .i64 0), (Value.int .i64 0), (Value.int .i64 0), (Value.int .i64 0), (Value.slice none 0 0), (Value.int .i64 0), (Value.int .i64 0), (Value.slice none 0 0)] w ∧ Sub R (hp w)) (N := 5) foll rfl rfl ?_
   have H61_ := Holds.drew_ H57_
   have hq62_ := And.intro (Holds.slrd H61_ 1 rfl) (And.intro (Holds.rd H61_ 2 rfl) ((Holds.ro_at H61_ 0 rfl)))
   refine A_tk 0 (v := v50_) rfl (by kernel_rfl) (fun w hS => x_move rfl) hq62_ ?_
   refine A_tk 1 (v := (Value.agg #[(Value.bool true), (Value.int .i64 0), (Value.int .i64 0), (Value.int .i64 0), (Value.int .i64 0), (Value.int .i64 0), (Value.slice none 0 0), (Value.int .i64 0), (Value.int .i64 0), (Value.slice none 0 0)])) rfl (by kernel_rfl) (fun w hS => x_loadN (vs := [(Value.bool true), (Value.int .i64 0), (Value.int .i64 0), (Value.int .i64 0), (Value.int .i64 0), (Value.int .i64 0), (Value.slice none 0 0), (Value.int .i64 0), (Value.int .i64 0), (Value.slice none 0 0)]) rfl Try.underlying43 rfl z43 rfl (Rd.cells hS.2.1 0 rfl)) hq62_ ?_
   refine A_tk 2 (v := v50_) rfl (by kernel_rfl) (fun w hS => x_assign rfl) hq62_ ?_
   refine A_ready (i := 3) (rs := []) (by kernel_rfl) ?_
   refine AllR.cons ?_ AllR.nil
   refine A_op0 (ls' := #[true, true, true, true, false]) rfl (by kernel_rfl) (T_storeN (vs := [(Value.bool true), (Value.int .i64 0), (Value.int .i64 0), (Value.int .i64 0), (Value.int .i64 0), (Value.int .i64 0), (Value.slice none 0 0), (Value.int .i64 0), (Value.int .i64 0), (Value.slice none 0 0)]) rfl rfl z43 rfl (by simp [Value.oneCell']) H61_ 3 rfl (Nat.le_of_ble_eq_true (by rfl)) ?_)
   intro w63_ S65_ H64_
   replace H64_ : Holds w63_ (ro R :: sl 66 6 v50_ (List.length (L ++ [vPut L o.rev_Main o.rev_Sub])) ((L ++ [vPut L o.rev_Main o.rev_Sub]).flatMap VR.cells) :: cl b13_ 43 [(Value.bool true), (Value.int .i64 0), (Value.int .i64 0), (Value.int .i64 0), (Value.int .i64 0), (Value.int .i64 0), (Value.slice none 0 0), (Value.int .i64 0), (Value.int .i64 0), (Value.slice none 0 0)] :: cl b7_ 43 [(Value.bool true), (Value.int .i64 0), (Value.int .i64 0), (Value.int .i64 0), (Value.int .i64 0), (Value.int .i64 0), (Value.slice none 0 0), (Value.int .i64 0), (Value.int .i64 0), (Value.slice none 0 0)] :: cl b2_ 39 [(Value.int .i64 o.kind), (Value.int .i64 o.rev_Main), (Value.int .i64 o.rev_Sub), (Value.int .i64 o.created_Main), (Value.int .i64 o.created_Sub), (Value.int .i64 o.ver), (Value.int .i64 o.at_)] :: F) := H64_
   have S66_ := Same.trans (Same.trans S59_ (Same.drew _)) S65_
   refine ⟨⟨Holds.slrd H64_ 1 rfl, Holds.rd H64_ 2 rfl, (Holds.ro_at H64_ 0 rfl)⟩, ?_⟩
   have hq67_ := And.intro (Holds.slrd H64_ 1 rfl) (And.intro (Holds.rd H64_ 2 rfl) ((Holds.ro_at H64_ 0 rfl)))
   refine A_tk 4 (v := (Value.bool true)) rfl (by kernel_rfl) (fun w hS => x_assign rfl) hq67_ ?_
   refine A_done (by kernel_rfl) ?_
   refine (X_then (hK60_ _ _ ?_))
   clear hK60_
   refine C_ret ?_
   refine R_any (v := (Value.tuple #[v50_, (Value.agg #[(Value.bool true), (Value.int .i64 0), (Value.int .i64 0), (Value.int .i64 0), (Value.int .i64 0), (Value.int .i64 0), (Value.slice none 0 0), (Value.int .i64 0), (Value.int .i64 0), (Value.slice none 0 0)]), (Value.bool true)])) (run_results3 rfl rfl ⟨_, rfl, load_resN Try.underlying43 rfl z43 rfl (vs := [(Value.bool true), (Value.int .i64 0), (Value.int .i64 0), (Value.int .i64 0), (Value.int .i64 0), (Value.int .i64 0), (Value.slice none 0 0), (Value.int .i64 0), (Value.int .i64 0), (Value.slice none 0 0)]) (Holds.cl_cells H64_ 3 rfl 0 rfl)⟩ rfl) ?_
   obtain ⟨R68_, hs69_, ⟨R70_, ha71_, hs72_⟩, H73_⟩ := Holds.gift H64_
   have hr74_ : RS R68_ 6 v50_ (List.length (L ++ [vPut L o.rev_Main o.rev_Sub])) ((L ++ [vPut L o.rev_Main o.rev_Sub]).flatMap VR.cells) := (sl_RS ha71_ (Sub.rfl' _)).mono hs72_
   have H75_ : Holds w63_ (ro R68_ :: F) := (Holds.pkF H73_ [0] 3 :)
   exact ⟨R68_, _, _, rfl, hs69_, (.inl ⟨v50_, (Value.slice none 0 0), true, 0, 0, 0, 0, 0, (L ++ [vPut L o.rev_Main o.rev_Sub]), (([] : List RV)), (congrArg (fun l => Value.tuple (List.toArray l)) (lcons rfl (lcons (congrArg (fun l => Value.agg (List.toArray l)) (lcons rfl (lcons rfl (lcons rfl (lcons rfl (lcons rfl (lcons rfl (lcons (rfl : (Value.slice none 0 0) = ((Value.slice none 0 0))) rfl)))))))) rfl))), rfl, (kDo_put c21_tp (by simpa using c40_f)), (hr74_), (RS.nil _ _)⟩), S66_, H75_⟩
 ·have c21_fp : ¬ (o.kind = 1) := of_decide_eq_false c21_f
  refine C_seq (fun K76_ hK76_ => ?_)
  refine C_reg ?_
  refine S_list (T_val (v := (Value.bool (decide (o.kind = 2)))) (x_bin rfl rfl rfl) ?_)
  refine S_list (T_val (v := (Value.bool (decide (o.kind = 2)))) (x_assign rfl) ?_)
  refine wpList_nil ?_
  refine (X_then (hK76_ _ _ ?_))
  clear hK76_
  refine C_cond (b := decide (o.kind = 2)) rfl (fun c77_t => ?_) (fun c77_f => ?_)
  ·have c77_tp : o.kind = 2 := of_decide_eq_true c77_t
   refine C_seq (fun K78_ hK78_ => ?_)
   refine C_reg ?_
   refine S_list (T_val (v := v) (x_move rfl) ?_)
   have H80_ := ((Holds.bring H15_ 3 rfl) :)
   refine S_list (T_call (al := [v]) (pre := []) rfl rfl cb16 (kLives R v L hL (by first | assumption | omega)) H80_ ?_)
   rintro v79_ p84_ w81_ ⟨rfl, rfl⟩ S83_ H82_
   have S85_ := Same.trans S17_ S83_
   refine S_list (T_val (v := (Value.pointer (some ⟨b13_, 0, none⟩))) (by kernel_rfl) ?_)
   refine S_list0 (T_store1 (v := (Value.bool (!(vLast L).gone))) rfl rfl z4 rfl H82_ 1 rfl (Nat.le_of_ble_eq_true (by rfl)) ?_)
   intro w86_ S88_ H87_
   replace H87_ : Holds w86_ (ro R :: cl b13_ 43 [(Value.bool (!(vLast L).gone)), (Value.int .i64 0), (Value.int .i64 0), (Value.int .i64 0), (Value.int .i64 0), (Value.int .i64 0), (Value.slice none 0 0), (Value.int .i64 0), (Value.int .i64 0), (Value.slice none 0 0)] :: cl b7_ 43 [(Value.bool false), (Value.int .i64 0), (Value.int .i64 0), (Value.int .i64 0), (Value.int .i64 0), (Value.int .i64 0), (Value.slice none 0 0), (Value.int .i64 0), (Value.int .i64 0), (Value.slice none 0 0)] :: cl b2_ 39 [(Value.int .i64 o.kind), (Value.int .i64 o.rev_Main), (Value.int .i64 o.rev_Sub), (Value.int .i64 o.created_Main), (Value.int .i64 o.created_Sub), (Value.int .i64 o.ver), (Value.int .i64 o.at_)] :: F) := H87_
   have S89_ := Same.trans S85_ S88_
   refine wpList_nil ?_
   refine (X_then (hK78_ _ _ ?_))
   clear hK78_
   refine C_seq (fun K90_ hK90_ => ?_)
   refine C_reg ?_
   refine S_list (T_val (v := (Value.pointer (some ⟨b13_, 0, none⟩))) (by kernel_rfl) ?_)
   refine S_list (T_val (v := (Value.bool (!(vLast L).gone))) (x_load1 rfl Try.underlying4 rfl ((Holds.rd H87_ 1 rfl) 0 (Value.bool (!(vLast L).gone)) rfl)) ?_)
   refine wpList_nil ?_
   refine (X_then (hK90_ _ _ ?_))
   clear hK90_
   refine C_cond (b := !(vLast L).gone) rfl (fun c91_t => ?_) (fun c91_f => ?_)
   ·skip
    have h0_ := vLast_pos c91_t
    refine C_seq (fun K92_ hK92_ => ?_)
    refine C_seq (fun K93_ hK93_ => ?_)
    refine A_start (S := fun w => Rd b2_ [(Value.int .i64 o.kind), (Value.int .i64 o.rev_Main), (Value.int .i64 o.rev_Sub), (Value.int .i64 o.created_Main), (Value.int .i64 o.created_Sub), (Value.int .i64 o.ver), (Value.int .i64 o.at_)] w ∧ Sub R (hp w)) (N := 6) foll rfl rfl ?_
    have H94_ := Holds.drew_ H87_
    have hq95_ := And.intro (Holds.rd H94_ 3 rfl) ((Holds.ro_at H94_ 0 rfl))
    refine A_tk 0 (v := v) rfl (by kernel_rfl) (fun w hS => x_move rfl) hq95_ ?_
    refine A_tk 2 (v := (Value.pointer (some ⟨b2_, 1, none⟩))) rfl (by kernel_rfl) (fun w hS => by kernel_rfl) hq95_ ?_
    refine A_tk 3 (v := (Value.agg #[(Value.int .i64 o.rev_Main), (Value.int .i64 o.rev_Sub)])) rfl (by kernel_rfl) (fun w hS => x_loadN (vs := [(Value.int .i64 o.rev_Main), (Value.int .i64 o.rev_Sub)]) rfl Try.underlying31 rfl z31 rfl (Rd.cells hS.1 1 rfl)) hq95_ ?_
    refine A_ready (i := 1) (rs := []) (by kernel_rfl) ?_
    refine AllR.cons ?_ AllR.nil
    refine A_op (ls' := #[true, true, true, true, false, false]) rfl (by kernel_rfl) (T_call (al := [v]) (pre := []) rfl rfl cb17 (kModified R v L hL (by first | assumption | omega)) H94_ ?_)
    rintro v96_ p100_ w97_ ⟨rfl, rfl⟩ S99_ H98_
    have S101_ := Same.trans (Same.trans S89_ (Same.drew _)) S99_
    refine ⟨⟨Holds.rd H98_ 3 rfl, (Holds.ro_at H98_ 0 rfl)⟩, ?_⟩
    refine A_ready (i := 4) (rs := []) (by kernel_rfl) ?_
    refine AllR.cons ?_ AllR.nil
    refine A_op (ls' := #[true, true, true, true, true, false]) rfl (by kernel_rfl) (T_call (al := [(Value.agg #[(Value.int .i64 ((vLast L).rev_Main)), (Value.int .i64 ((vLast L).rev_Sub))]), (Value.agg #[(Value.int .i64 o.rev_Main), (Value.int .i64 o.rev_Sub)])]) (pre := []) rfl rfl cb26 (kLess R ((vLast L).rev_Main) ((vLast L).rev_Sub) o.rev_Main o.rev_Sub) H98_ ?_)
    rintro v102_ p106_ w103_ ⟨rfl, rfl⟩ S105_ H104_
    have S107_ := Same.trans S101_ S105_
    refine ⟨⟨Holds.rd H104_ 3 rfl, (Holds.ro_at H104_ 0 rfl)⟩, ?_⟩
    have hq108_ := And.intro (Holds.rd H104_ 3 rfl) ((Holds.ro_at H104_ 0 rfl))
    refine A_tk 5 (v := (Value.bool (!(vLessB ((vLast L).rev_Main) ((vLast L).rev_Sub) o.rev_Main o.rev_Sub)))) rfl (by kernel_rfl) (fun w hS => x_not rfl) hq108_ ?_
    refine A_done (by kernel_rfl) ?_
    refine (X_then (hK93_ _ _ ?_))
    clear hK93_
    refine C_cond (b := !(vLessB ((vLast L).rev_Main) ((vLast L).rev_Sub) o.rev_Main o.rev_Sub)) rfl (fun c109_t => ?_) (fun c109_f => ?_)
    ·skip
     refine C_seq (fun K110_ hK110_ => ?_)
     refine C_reg ?_
     refine S_list (T_val (v := v) (x_move rfl) ?_)
     refine S_list (T_val (v := (Value.agg #[(Value.bool false), (Value.int .i64 0), (Value.int .i64 0), (Value.int .i64 0), (Value.int .i64 0), (Value.int .i64 0), (Value.slice none 0 0), (Value.int .i64 0), (Value.int .i64 0), (Value.slice none 0 0)])) (by kernel_rfl) ?_)
     refine S_list (T_val (v := v) (x_assign rfl) ?_)
     refine S_list0 (T_storeN (vs := [(Value.bool false), (Value.int .i64 0), (Value.int .i64 0), (Value.int .i64 0), (Value.int .i64 0), (Value.int .i64 0), (Value.slice none 0 0), (Value.int .i64 0), (Value.int .i64 0), (Value.slice none 0 0)]) rfl rfl z43 rfl (by simp [Value.oneCell']) H104_ 2 rfl (Nat.le_of_ble_eq_true (by rfl)) ?_)
     intro w111_ S113_ H112_
     replace H112_ : Holds w111_ (ro R :: cl b13_ 43 [(Value.bool (!(vLast L).gone)), (Value.int .i64 0), (Value.int .i64 0), (Value.int .i64 0), (Value.int .i64 0), (Value.int .i64 0), (Value.slice none 0 0), (Value.int .i64 0), (Value.int .i64 0), (Value.slice none 0 0)] :: cl b7_ 43 [(Value.bool false), (Value.int .i64 0), (Value.int .i64 0), (Value.int .i64 0), (Value.int .i64 0), (Value.int .i64 0), (Value.slice none 0 0), (Value.int .i64 0), (Value.int .i64 0), (Value.slice none 0 0)] :: cl b2_ 39 [(Value.int .i64 o.kind), (Value.int .i64 o.rev_Main), (Value.int .i64 o.rev_Sub), (Value.int .i64 o.created_Main), (Value.int .i64 o.created_Sub), (Value.int .i64 o.ver), (Value.int .i64 o.at_)] :: F) := H112_
     have S114_ := Same.trans S107_ S113_
     refine S_list (T_val (v := (Value.bool false)) (x_assign rfl) ?_)
     refine wpList_nil ?_
     refine (X_then (hK110_ _ _ ?_))
     clear hK110_
     refine C_ret (X_thenR (X_blkR (X_thenR ?_)))
     refine R_any (v := (Value.tuple #[v, (Value.agg #[(Value.bool false), (Value.int .i64 0), (Value.int .i64 0), (Value.int .i64 0), (Value.int .i64 0), (Value.int .i64 0), (Value.slice none 0 0), (Value.int .i64 0), (Value.int .i64 0), (Value.slice none 0 0)]), (Value.bool false)])) (run_results3 rfl rfl ⟨_, rfl, load_resN Try.underlying43 rfl z43 rfl (vs := [(Value.bool false), (Value.int .i64 0), (Value.int .i64 0), (Value.int .i64 0), (Value.int .i64 0), (Value.int .i64 0), (Value.slice none 0 0), (Value.int .i64 0), (Value.int .i64 0), (Value.slice none 0 0)]) (Holds.cl_cells H112_ 2 rfl 0 rfl)⟩ rfl) ?_
     have H115_ : Holds w111_ (ro R :: F) := (Holds.pkF H112_ [0] 3 :)
     exact ⟨R, _, _, rfl, (Sub.rfl' _), (.inr ⟨v, rfl, rfl, (kDo_endNo c77_tp (by simpa using c91_t) (by simpa using c109_t))⟩), S114_, H115_⟩
    ·skip
     refine C_skip (X_then (hK92_ _ _ ?_))
     clear hK92_
     refine C_reg ?_
     refine S_list (T_val (v := v) (x_move rfl) ?_)
     refine S_list (T_val (v := (Value.pointer (some ⟨b2_, 1, none⟩))) (by kernel_rfl) ?_)
     refine S_list (T_val (v := (Value.agg #[(Value.int .i64 o.rev_Main), (Value.int .i64 o.rev_Sub)])) (x_loadN (vs := [(Value.int .i64 o.rev_Main), (Value.int .i64 o.rev_Sub)]) rfl Try.underlying31 rfl z31 rfl (Rd.cells (Holds.rd H104_ 3 rfl) 1 rfl)) ?_)
     refine S_list (T_call (al := [v, (Value.agg #[(Value.int .i64 o.rev_Main), (Value.int .i64 o.rev_Sub)])]) (pre := []) rfl rfl cb28 (kEnded R v L o.rev_Main o.rev_Sub hL (by first | assumption | omega) (by first | assumption | omega) (by first | assumption | omega)) H104_ ?_)
     rintro v116_ p120_ w117_ ⟨_, rfl, rfl⟩ S119_ H118_
     have S121_ := Same.trans S107_ S119_
     refine S_list (T_val (v := v116_) (x_assign rfl) ?_)
     refine wpList_nil ?_
     refine (X_blkN (X_then (hK18_ _ _ ?_)))
     clear hK18_
     refine C_seq (fun K122_ hK122_ => ?_)
     refine A_start (S := fun w => SlRd v116_ ((L ++ [vEnd L o.rev_Main o.rev_Sub]).flatMap VR.cells) w ∧ Rd b13_ [(Value.bool (!(vLast L).gone)), (Value.int .i64 0), (Value.int .i64 0), (Value.int .i64 0), (Value.int .i64 0), (Value.int .i64 0), (Value.slice none 0 0), (Value.int .i64 0), (Value.int .i64 0), (Value.slice none 0 0)] w ∧ Sub R (hp w)) (N := 5) foll rfl rfl ?_
     have H123_ := Holds.drew_ H118_
     have hq124_ := And.intro (Holds.slrd H123_ 1 rfl) (And.intro (Holds.rd H123_ 2 rfl) ((Holds.ro_at H123_ 0 rfl)))
     refine A_tk 0 (v := v116_) rfl (by kernel_rfl) (fun w hS => x_move rfl) hq124_ ?_
     refine A_tk 1 (v := (Value.agg #[(Value.bool (!(vLast L).gone)), (Value.int .i64 0), (Value.int .i64 0), (Value.int .i64 0), (Value.int .i64 0), (Value.int .i64 0), (Value.slice none 0 0), (Value.int .i64 0), (Value.int .i64 0), (Value.slice none 0 0)])) rfl (by kernel_rfl) (fun w hS => x_loadN (vs := [(Value.bool (!(vLast L).gone)), (Value.int .i64 0), (Value.int .i64 0), (Value.int .i64 0), (Value.int .i64 0), (Value.int .i64 0), (Value.slice none 0 0), (Value.int .i64 0), (Value.int .i64 0), (Value.slice none 0 0)]) rfl Try.underlying43 rfl z43 rfl (Rd.cells hS.2.1 0 rfl)) hq124_ ?_
     refine A_tk 2 (v := v116_) rfl (by kernel_rfl) (fun w hS => x_assign rfl) hq124_ ?_
     refine A_ready (i := 3) (rs := []) (by kernel_rfl) ?_
     refine AllR.cons ?_ AllR.nil
     refine A_op0 (ls' := #[true, true, true, true, false]) rfl (by kernel_rfl) (T_storeN (vs := [(Value.bool (!(vLast L).gone)), (Value.int .i64 0), (Value.int .i64 0), (Value.int .i64 0), (Value.int .i64 0), (Value.int .i64 0), (Value.slice none 0 0), (Value.int .i64 0), (Value.int .i64 0), (Value.slice none 0 0)]) rfl rfl z43 rfl (by simp [Value.oneCell']) H123_ 3 rfl (Nat.le_of_ble_eq_true (by rfl)) ?_)
     intro w125_ S127_ H126_
     have S128_ := Same.trans (Same.trans S121_ (Same.drew _)) S127_
     refine ⟨⟨Holds.slrd H126_ 1 rfl, Holds.rd H126_ 2 rfl, (Holds.ro_at H126_ 0 rfl)⟩, ?_⟩
     have hq129_ := And.intro (Holds.slrd H126_ 1 rfl) (And.intro (Holds.rd H126_ 2 rfl) ((Holds.ro_at H126_ 0 rfl)))
     refine A_tk 4 (v := (Value.bool true)) rfl (by kernel_rfl) (fun w hS => x_assign rfl) hq129_ ?_
     refine A_done (by kernel_rfl) ?_
     refine (X_then (hK122_ _ _ ?_))
     clear hK122_
     refine C_ret ?_
     refine R_any (v := (Value.tuple #[v116_, (Value.agg #[(Value.bool (!(vLast L).gone)), (Value.int .i64 0), (Value.int .i64 0), (Value.int .i64 0), (Value.int .i64 0), (Value.int .i64 0), (Value.slice none 0 0), (Value.int .i64 0), (Value.int .i64 0), (Value.slice none 0 0)]), (Value.bool true)])) (run_results3 rfl rfl ⟨_, rfl, load_resN Try.underlying43 rfl z43 rfl (vs := [(Value.bool (!(vLast L).gone)), (Value.int .i64 0), (Value.int .i64 0), (Value.int .i64 0), (Value.int .i64 0), (Value.int .i64 0), (Value.slice none 0 0), (Value.int .i64 0), (Value.int .i64 0), (Value.slice none 0 0)]) (Holds.cl_cells H126_ 3 rfl 0 rfl)⟩ rfl) ?_
     obtain ⟨R130_, hs131_, ⟨R132_, ha133_, hs134_⟩, H135_⟩ := Holds.gift H126_
     replace H135_ : Holds w125_ (ro R130_ :: cl b13_ 43 [(Value.bool (!(vLast L).gone)), (Value.int .i64 0), (Value.int .i64 0), (Value.int .i64 0), (Value.int .i64 0), (Value.int .i64 0), (Value.slice none 0 0), (Value.int .i64 0), (Value.int .i64 0), (Value.slice none 0 0)] :: cl b7_ 43 [(Value.bool (!(vLast L).gone)), (Value.int .i64 0), (Value.int .i64 0), (Value.int .i64 0), (Value.int .i64 0), (Value.int .i64 0), (Value.slice none 0 0), (Value.int .i64 0), (Value.int .i64 0), (Value.slice none 0 0)] :: cl b2_ 39 [(Value.int .i64 o.kind), (Value.int .i64 o.rev_Main), (Value.int .i64 o.rev_Sub), (Value.int .i64 o.created_Main), (Value.int .i64 o.created_Sub), (Value.int .i64 o.ver), (Value.int .i64 o.at_)] :: F) := H135_
     have hr136_ : RS R130_ 6 v116_ (List.length (L ++ [vEnd L o.rev_Main o.rev_Sub])) ((L ++ [vEnd L o.rev_Main o.rev_Sub]).flatMap VR.cells) := (sl_RS ha133_ (Sub.rfl' _)).mono hs134_
     have H137_ : Holds w125_ (ro R130_ :: F) := (Holds.pkF H135_ [0] 3 :)
     exact ⟨R130_, _, _, rfl, hs131_, (.inl ⟨v116_, (Value.slice none 0 0), !(vLast L).gone, 0, 0, 0, 0, 0, (L ++ [vEnd L o.rev_Main o.rev_Sub]), (([] : List RV)), (congrArg (fun l => Value.tuple (List.toArray l)) (lcons rfl (lcons (congrArg (fun l => Value.agg (List.toArray l)) (lcons rfl (lcons rfl (lcons rfl (lcons rfl (lcons rfl (lcons rfl (lcons (rfl : (Value.slice none 0 0) = ((Value.slice none 0 0))) rfl)))))))) rfl))), rfl, (by rw [c91_t]; exact kDo_end c77_tp (by simpa using c91_t) (by simpa using c109_f)), (hr136_), (RS.nil _ _)⟩), S128_, H137_⟩
   ·skip
    refine C_skip (X_blkN (X_then (hK18_ _ _ ?_)))
    clear hK18_
    refine C_seq (fun K138_ hK138_ => ?_)
    refine A_start (S := fun w => Rd b13_ [(Value.bool (!(vLast L).gone)), (Value.int .i64 0), (Value.int .i64 0), (Value.int .i64 0), (Value.int .i64 0), (Value.int .i64 0), (Value.slice none 0 0), (Value.int .i64 0), (Value.int .i64 0), (Value.slice none 0 0)] w ∧ Sub R (hp w)) (N := 5) foll rfl rfl ?_
    have H139_ := Holds.drew_ H87_
    have hq140_ := And.intro (Holds.rd H139_ 1 rfl) ((Holds.ro_at H139_ 0 rfl))
    refine A_tk 0 (v := v) rfl (by kernel_rfl) (fun w hS => x_move rfl) hq140_ ?_
    refine A_tk 1 (v := (Value.agg #[(Value.bool (!(vLast L).gone)), (Value.int .i64 0), (Value.int .i64 0), (Value.int .i64 0), (Value.int .i64 0), (Value.int .i64 0), (Value.slice none 0 0), (Value.int .i64 0), (Value.int .i64 0), (Value.slice none 0 0)])) rfl (by kernel_rfl) (fun w hS => x_loadN (vs := [(Value.bool (!(vLast L).gone)), (Value.int .i64 0), (Value.int .i64 0), (Value.int .i64 0), (Value.int .i64 0), (Value.int .i64 0), (Value.slice none 0 0), (Value.int .i64 0), (Value.int .i64 0), (Value.slice none 0 0)]) rfl Try.underlying43 rfl z43 rfl (Rd.cells hS.1 0 rfl)) hq140_ ?_
    refine A_tk 2 (v := v) rfl (by kernel_rfl) (fun w hS => x_assign rfl) hq140_ ?_
    refine A_ready (i := 3) (rs := []) (by kernel_rfl) ?_
    refine AllR.cons ?_ AllR.nil
    refine A_op0 (ls' := #[true, true, true, true, false]) rfl (by kernel_rfl) (T_storeN (vs := [(Value.bool (!(vLast L).gone)), (Value.int .i64 0), (Value.int .i64 0), (Value.int .i64 0), (Value.int .i64 0), (Value.int .i64 0), (Value.slice none 0 0), (Value.int .i64 0), (Value.int .i64 0), (Value.slice none 0 0)]) rfl rfl z43 rfl (by simp [Value.oneCell']) H139_ 2 rfl (Nat.le_of_ble_eq_true (by rfl)) ?_)
    intro w141_ S143_ H142_
    have S144_ := Same.trans (Same.trans S89_ (Same.drew _)) S143_
    refine ⟨⟨Holds.rd H142_ 1 rfl, (Holds.ro_at H142_ 0 rfl)⟩, ?_⟩
    have hq145_ := And.intro (Holds.rd H142_ 1 rfl) ((Holds.ro_at H142_ 0 rfl))
    refine A_tk 4 (v := (Value.bool true)) rfl (by kernel_rfl) (fun w hS => x_assign rfl) hq145_ ?_
    refine A_done (by kernel_rfl) ?_
    refine (X_then (hK138_ _ _ ?_))
    clear hK138_
    refine C_ret ?_
    refine R_any (v := (Value.tuple #[v, (Value.agg #[(Value.bool (!(vLast L).gone)), (Value.int .i64 0), (Value.int .i64 0), (Value.int .i64 0), (Value.int .i64 0), (Value.int .i64 0), (Value.slice none 0 0), (Value.int .i64 0), (Value.int .i64 0), (Value.slice none 0 0)]), (Value.bool true)])) (run_results3 rfl rfl ⟨_, rfl, load_resN Try.underlying43 rfl z43 rfl (vs := [(Value.bool (!(vLast L).gone)), (Value.int .i64 0), (Value.int .i64 0), (Value.int .i64 0), (Value.int .i64 0), (Value.int .i64 0), (Value.slice none 0 0), (Value.int .i64 0), (Value.int .i64 0), (Value.slice none 0 0)]) (Holds.cl_cells H142_ 2 rfl 0 rfl)⟩ rfl) ?_
    have H146_ : Holds w141_ (ro R :: F) := (Holds.pkF H142_ [0] 3 :)
    exact ⟨R, _, _, rfl, (Sub.rfl' _), (.inl ⟨v, (Value.slice none 0 0), !(vLast L).gone, 0, 0, 0, 0, 0, (L), (([] : List RV)), (congrArg (fun l => Value.tuple (List.toArray l)) (lcons rfl (lcons (congrArg (fun l => Value.agg (List.toArray l)) (lcons rfl (lcons rfl (lcons rfl (lcons rfl (lcons rfl (lcons rfl (lcons (rfl : (Value.slice none 0 0) = ((Value.slice none 0 0))) rfl)))))))) rfl))), rfl, (by rw [c91_f]; exact kDo_endGone c77_tp (by simpa using c91_f)), (hL), (RS.nil _ _)⟩), S144_, H146_⟩
  ·have c77_fp : ¬ (o.kind = 2) := of_decide_eq_false c77_f
   refine C_seq (fun K147_ hK147_ => ?_)
   refine C_reg ?_
   refine S_list (T_val (v := (Value.bool (decide (o.kind = 5)))) (x_bin rfl rfl rfl) ?_)
   refine S_list (T_val (v := (Value.bool (decide (o.kind = 5)))) (x_assign rfl) ?_)
   refine wpList_nil ?_
   refine (X_then (hK147_ _ _ ?_))
   clear hK147_
   refine C_cond (b := decide (o.kind = 5)) rfl (fun c148_t => ?_) (fun c148_f => ?_)
   ·have c148_tp : o.kind = 5 := of_decide_eq_true c148_t
    refine C_seq (fun K149_ hK149_ => ?_)
    refine C_reg ?_
    refine S_list (T_val (v := v) (x_move rfl) ?_)
    refine S_list (T_val (v := (Value.pointer (some ⟨b2_, 6, none⟩))) (by kernel_rfl) ?_)
    refine S_list (T_val (v := (Value.int .i64 o.at_)) (x_load1 rfl Try.underlying2 rfl ((Holds.rd H15_ 2 rfl) 6 (Value.int .i64 o.at_) rfl)) ?_)
    have H151_ := ((Holds.bring H15_ 3 rfl) :)
    refine S_list (T_call (al := [v, (Value.int .i64 o.at_)]) (pre := []) rfl rfl cb29 (kHolds R v L o.at_ hL (by first | assumption | omega)) H151_ ?_)
    rintro v150_ p155_ w152_ ⟨rfl, rfl⟩ S154_ H153_
    have S156_ := Same.trans S17_ S154_
    refine S_list (T_val (v := (Value.tuple #[(Value.agg #[(Value.int .i64 ((vHold L o.at_).rev_Main)), (Value.int .i64 ((vHold L o.at_).rev_Sub)), (Value.int .i64 ((vHold L o.at_).created_Main)), (Value.int .i64 ((vHold L o.at_).created_Sub)), (Value.int .i64 ((vHold L o.at_).ver)), (Value.bool ((vHold L o.at_).gone))]), (Value.bool (vHoldB L o.at_))])) (x_move rfl) ?_)
    refine S_list (T_val (v := (Value.agg #[(Value.int .i64 ((vHold L o.at_).rev_Main)), (Value.int .i64 ((vHold L o.at_).rev_Sub)), (Value.int .i64 ((vHold L o.at_).created_Main)), (Value.int .i64 ((vHold L o.at_).created_Sub)), (Value.int .i64 ((vHold L o.at_).ver)), (Value.bool ((vHold L o.at_).gone))])) (by kernel_rfl) ?_)
    refine S_list (T_val (v := (Value.bool (vHoldB L o.at_))) (by kernel_rfl) ?_)
    refine S_list (T_alloc z66 H153_ ?_)
    intro b157_ w158_ S160_ H159_
    replace H159_ : Holds w158_ (cl b157_ 66 [(Value.int .i64 0), (Value.int .i64 0), (Value.int .i64 0), (Value.int .i64 0), (Value.int .i64 0), (Value.bool false)] :: ro R :: cl b13_ 43 [(Value.bool false), (Value.int .i64 0), (Value.int .i64 0), (Value.int .i64 0), (Value.int .i64 0), (Value.int .i64 0), (Value.slice none 0 0), (Value.int .i64 0), (Value.int .i64 0), (Value.slice none 0 0)] :: cl b7_ 43 [(Value.bool false), (Value.int .i64 0), (Value.int .i64 0), (Value.int .i64 0), (Value.int .i64 0), (Value.int .i64 0), (Value.slice none 0 0), (Value.int .i64 0), (Value.int .i64 0), (Value.slice none 0 0)] :: cl b2_ 39 [(Value.int .i64 o.kind), (Value.int .i64 o.rev_Main), (Value.int .i64 o.rev_Sub), (Value.int .i64 o.created_Main), (Value.int .i64 o.created_Sub), (Value.int .i64 o.ver), (Value.int .i64 o.at_)] :: F) := H159_
    have S161_ := Same.trans S156_ S160_
    refine S_list0 (T_storeN (vs := [(Value.int .i64 ((vHold L o.at_).rev_Main)), (Value.int .i64 ((vHold L o.at_).rev_Sub)), (Value.int .i64 ((vHold L o.at_).created_Main)), (Value.int .i64 ((vHold L o.at_).created_Sub)), (Value.int .i64 ((vHold L o.at_).ver)), (Value.bool ((vHold L o.at_).gone))]) rfl rfl z66 rfl (by simp [Value.oneCell']) H159_ 0 rfl (Nat.le_of_ble_eq_true (by rfl)) ?_)
    intro w162_ S164_ H163_
    have S165_ := Same.trans S161_ S164_
    refine S_list (T_val (v := (Value.bool (vHoldB L o.at_))) (x_assign rfl) ?_)
    refine wpList_nil ?_
    refine (X_then (hK149_ _ _ ?_))
    clear hK149_
    refine C_reg ?_
    refine S_list (T_val (v := (Value.bool (vHoldB L o.at_))) (x_move rfl) ?_)
    refine S_list (T_val (v := (Value.pointer (some ⟨b157_, 0, none⟩))) (by kernel_rfl) ?_)
    refine S_list (T_val (v := (Value.agg #[(Value.int .i64 ((vHold L o.at_).rev_Main)), (Value.int .i64 ((vHold L o.at_).rev_Sub))])) (x_loadN (vs := [(Value.int .i64 ((vHold L o.at_).rev_Main)), (Value.int .i64 ((vHold L o.at_).rev_Sub))]) rfl Try.underlying31 rfl z31 rfl (Rd.cells (Holds.rd H163_ 0 rfl) 0 rfl)) ?_)
    refine S_list (T_val (v := (Value.pointer (some ⟨b157_, 2, none⟩))) (by kernel_rfl) ?_)
    refine S_list (T_val (v := (Value.agg #[(Value.int .i64 ((vHold L o.at_).created_Main)), (Value.int .i64 ((vHold L o.at_).created_Sub))])) (x_loadN (vs := [(Value.int .i64 ((vHold L o.at_).created_Main)), (Value.int .i64 ((vHold L o.at_).created_Sub))]) rfl Try.underlying31 rfl z31 rfl (Rd.cells (Holds.rd H163_ 0 rfl) 2 rfl)) ?_)
    refine S_list (T_val (v := (Value.pointer (some ⟨b157_, 4, none⟩))) (by kernel_rfl) ?_)
    refine S_list (T_val (v := (Value.int .i64 ((vHold L o.at_).ver))) (x_load1 rfl Try.underlying2 rfl ((Holds.rd H163_ 0 rfl) 4 (Value.int .i64 ((vHold L o.at_).ver)) rfl)) ?_)
    refine S_list (T_val (v := (Value.agg #[(Value.bool (vHoldB L o.at_)), (Value.int .i64 ((vHold L o.at_).rev_Main)), (Value.int .i64 ((vHold L o.at_).rev_Sub)), (Value.int .i64 ((vHold L o.at_).created_Main)), (Value.int .i64 ((vHold L o.at_).created_Sub)), (Value.int .i64 ((vHold L o.at_).ver)), (Value.slice none 0 0), (Value.int .i64 0), (Value.int .i64 0), (Value.slice none 0 0)])) (by kernel_rfl) ?_)
    refine S_list0 (T_storeN (vs := [(Value.bool (vHoldB L o.at_)), (Value.int .i64 ((vHold L o.at_).rev_Main)), (Value.int .i64 ((vHold L o.at_).rev_Sub)), (Value.int .i64 ((vHold L o.at_).created_Main)), (Value.int .i64 ((vHold L o.at_).created_Sub)), (Value.int .i64 ((vHold L o.at_).ver)), (Value.slice none 0 0), (Value.int .i64 0), (Value.int .i64 0), (Value.slice none 0 0)]) rfl rfl z43 rfl (by simp [Value.oneCell']) H163_ 2 rfl (Nat.le_of_ble_eq_true (by rfl)) ?_)
    intro w166_ S168_ H167_
    have S169_ := Same.trans S165_ S168_
    refine wpList_nil ?_
    refine (X_blkN (X_then (hK18_ _ _ ?_)))
    clear hK18_
    refine C_seq (fun K170_ hK170_ => ?_)
    refine A_start (S := fun w => Rd b13_ [(Value.bool (vHoldB L o.at_)), (Value.int .i64 ((vHold L o.at_).rev_Main)), (Value.int .i64 ((vHold L o.at_).rev_Sub)), (Value.int .i64 ((vHold L o.at_).created_Main)), (Value.int .i64 ((vHold L o.at_).created_Sub)), (Value.int .i64 ((vHold L o.at_).ver)), (Value.slice none 0 0), (Value.int .i64 0), (Value.int .i64 0), (Value.slice none 0 0)] w ∧ Sub R (hp w)) (N := 5) foll rfl rfl ?_
    have H171_ := Holds.drew_ H167_
    have hq172_ := And.intro (Holds.rd H171_ 2 rfl) ((Holds.ro_at H171_ 1 rfl))
    refine A_tk 0 (v := v) rfl (by kernel_rfl) (fun w hS => x_move rfl) hq172_ ?_
    refine A_tk 1 (v := (Value.agg #[(Value.bool (vHoldB L o.at_)), (Value.int .i64 ((vHold L o.at_).rev_Main)), (Value.int .i64 ((vHold L o.at_).rev_Sub)), (Value.int .i64 ((vHold L o.at_).created_Main)), (Value.int .i64 ((vHold L o.at_).created_Sub)), (Value.int .i64 ((vHold L o.at_).ver)), (Value.slice none 0 0), (Value.int .i64 0), (Value.int .i64 0), (Value.slice none 0 0)])) rfl (by kernel_rfl) (fun w hS => x_loadN (vs := [(Value.bool (vHoldB L o.at_)), (Value.int .i64 ((vHold L o.at_).rev_Main)), (Value.int .i64 ((vHold L o.at_).rev_Sub)), (Value.int .i64 ((vHold L o.at_).created_Main)), (Value.int .i64 ((vHold L o.at_).created_Sub)), (Value.int .i64 ((vHold L o.at_).ver)), (Value.slice none 0 0), (Value.int .i64 0), (Value.int .i64 0), (Value.slice none 0 0)]) rfl Try.underlying43 rfl z43 rfl (Rd.cells hS.1 0 rfl)) hq172_ ?_
    refine A_tk 2 (v := v) rfl (by kernel_rfl) (fun w hS => x_assign rfl) hq172_ ?_
    refine A_ready (i := 3) (rs := []) (by kernel_rfl) ?_
    refine AllR.cons ?_ AllR.nil
    refine A_op0 (ls' := #[true, true, true, true, false]) rfl (by kernel_rfl) (T_storeN (vs := [(Value.bool (vHoldB L o.at_)), (Value.int .i64 ((vHold L o.at_).rev_Main)), (Value.int .i64 ((vHold L o.at_).rev_Sub)), (Value.int .i64 ((vHold L o.at_).created_Main)), (Value.int .i64 ((vHold L o.at_).created_Sub)), (Value.int .i64 ((vHold L o.at_).ver)), (Value.slice none 0 0), (Value.int .i64 0), (Value.int .i64 0), (Value.slice none 0 0)]) rfl rfl z43 rfl (by simp [Value.oneCell']) H171_ 3 rfl (Nat.le_of_ble_eq_true (by rfl)) ?_)
    intro w173_ S175_ H174_
    replace H174_ : Holds w173_ (cl b157_ 66 [(Value.int .i64 ((vHold L o.at_).rev_Main)), (Value.int .i64 ((vHold L o.at_).rev_Sub)), (Value.int .i64 ((vHold L o.at_).created_Main)), (Value.int .i64 ((vHold L o.at_).created_Sub)), (Value.int .i64 ((vHold L o.at_).ver)), (Value.bool ((vHold L o.at_).gone))] :: ro R :: cl b13_ 43 [(Value.bool (vHoldB L o.at_)), (Value.int .i64 ((vHold L o.at_).rev_Main)), (Value.int .i64 ((vHold L o.at_).rev_Sub)), (Value.int .i64 ((vHold L o.at_).created_Main)), (Value.int .i64 ((vHold L o.at_).created_Sub)), (Value.int .i64 ((vHold L o.at_).ver)), (Value.slice none 0 0), (Value.int .i64 0), (Value.int .i64 0), (Value.slice none 0 0)] :: cl b7_ 43 [(Value.bool (vHoldB L o.at_)), (Value.int .i64 ((vHold L o.at_).rev_Main)), (Value.int .i64 ((vHold L o.at_).rev_Sub)), (Value.int .i64 ((vHold L o.at_).created_Main)), (Value.int .i64 ((vHold L o.at_).created_Sub)), (Value.int .i64 ((vHold L o.at_).ver)), (Value.slice none 0 0), (Value.int .i64 0), (Value.int .i64 0), (Value.slice none 0 0)] :: cl b2_ 39 [(Value.int .i64 o.kind), (Value.int .i64 o.rev_Main), (Value.int .i64 o.rev_Sub), (Value.int .i64 o.created_Main), (Value.int .i64 o.created_Sub), (Value.int .i64 o.ver), (Value.int .i64 o.at_)] :: F) := H174_
    have S176_ := Same.trans (Same.trans S169_ (Same.drew _)) S175_
    refine ⟨⟨Holds.rd H174_ 2 rfl, (Holds.ro_at H174_ 1 rfl)⟩, ?_⟩
    have hq177_ := And.intro (Holds.rd H174_ 2 rfl) ((Holds.ro_at H174_ 1 rfl))
    refine A_tk 4 (v := (Value.bool true)) rfl (by kernel_rfl) (fun w hS => x_assign rfl) hq177_ ?_
    refine A_done (by kernel_rfl) ?_
    refine (X_then (hK170_ _ _ ?_))
    clear hK170_
    refine C_ret ?_
    refine R_any (v := (Value.tuple #[v, (Value.agg #[(Value.bool (vHoldB L o.at_)), (Value.int .i64 ((vHold L o.at_).rev_Main)), (Value.int .i64 ((vHold L o.at_).rev_Sub)), (Value.int .i64 ((vHold L o.at_).created_Main)), (Value.int .i64 ((vHold L o.at_).created_Sub)), (Value.int .i64 ((vHold L o.at_).ver)), (Value.slice none 0 0), (Value.int .i64 0), (Value.int .i64 0), (Value.slice none 0 0)]), (Value.bool true)])) (run_results3 rfl rfl ⟨_, rfl, load_resN Try.underlying43 rfl z43 rfl (vs := [(Value.bool (vHoldB L o.at_)), (Value.int .i64 ((vHold L o.at_).rev_Main)), (Value.int .i64 ((vHold L o.at_).rev_Sub)), (Value.int .i64 ((vHold L o.at_).created_Main)), (Value.int .i64 ((vHold L o.at_).created_Sub)), (Value.int .i64 ((vHold L o.at_).ver)), (Value.slice none 0 0), (Value.int .i64 0), (Value.int .i64 0), (Value.slice none 0 0)]) (Holds.cl_cells H174_ 3 rfl 0 rfl)⟩ rfl) ?_
    have H178_ : Holds w173_ (ro R :: F) := (Holds.pkF H174_ [1] 4 :)
    exact ⟨R, _, _, rfl, (Sub.rfl' _), (.inl ⟨v, (Value.slice none 0 0), vHoldB L o.at_, (vHold L o.at_).rev_Main, (vHold L o.at_).rev_Sub, (vHold L o.at_).created_Main, (vHold L o.at_).created_Sub, (vHold L o.at_).ver, (L), (([] : List RV)), (congrArg (fun l => Value.tuple (List.toArray l)) (lcons rfl (lcons (congrArg (fun l => Value.agg (List.toArray l)) (lcons rfl (lcons rfl (lcons rfl (lcons rfl (lcons rfl (lcons rfl (lcons (rfl : (Value.slice none 0 0) = ((Value.slice none 0 0))) rfl)))))))) rfl))), rfl, (kDo_get c148_tp), (hL), (RS.nil _ _)⟩), S176_, H178_⟩
   ·have c148_fp : ¬ (o.kind = 5) := of_decide_eq_false c148_f
    refine C_seq (fun K179_ hK179_ => ?_)
    refine C_reg ?_
    refine S_list (T_val (v := (Value.bool (decide (o.kind = 6)))) (x_bin rfl rfl rfl) ?_)
    refine S_list (T_val (v := (Value.bool (decide (o.kind = 6)))) (x_assign rfl) ?_)
    refine wpList_nil ?_
    refine (X_then (hK179_ _ _ ?_))
    clear hK179_
    refine C_cond (b := decide (o.kind = 6)) rfl (fun c180_t => ?_) (fun c180_f => ?_)
    ·have c180_tp : o.kind = 6 := of_decide_eq_true c180_t
     refine C_reg ?_
     refine S_list (T_val (v := v) (x_move rfl) ?_)
     refine S_list (T_val (v := (Value.pointer (some ⟨b2_, 6, none⟩))) (by kernel_rfl) ?_)
     refine S_list (T_val (v := (Value.int .i64 o.at_)) (x_load1 rfl Try.underlying2 rfl ((Holds.rd H15_ 2 rfl) 6 (Value.int .i64 o.at_) rfl)) ?_)
     have H182_ := ((Holds.bring H15_ 3 rfl) :)
     refine S_list (T_call (al := [v, (Value.int .i64 o.at_)]) (pre := []) rfl rfl cb12 (kSince R v L o.at_ hL (by first | assumption | omega)) H182_ ?_)
     rintro v181_ p186_ w183_ ⟨_, rfl, rfl⟩ S185_ H184_
     have S187_ := Same.trans S17_ S185_
     refine S_list (T_val (v := (Value.pointer (some ⟨b13_, 6, none⟩))) (by kernel_rfl) ?_)
     refine S_list0 (T_store1 (v := v181_) rfl rfl z41 (Holds.sl_one H184_ 1 rfl) H184_ 2 rfl (Nat.le_of_ble_eq_true (by rfl)) ?_)
     intro w188_ S190_ H189_
     replace H189_ : Holds w188_ (ro R :: sl 31 2 v181_ (List.length ((vSieve L (vSinceP L o.at_) L.length).map VR.rv)) (((vSieve L (vSinceP L o.at_) L.length).map VR.rv).flatMap RV.cells) :: cl b13_ 43 [(Value.bool false), (Value.int .i64 0), (Value.int .i64 0), (Value.int .i64 0), (Value.int .i64 0), (Value.int .i64 0), v181_, (Value.int .i64 0), (Value.int .i64 0), (Value.slice none 0 0)] :: cl b7_ 43 [(Value.bool false), (Value.int .i64 0), (Value.int .i64 0), (Value.int .i64 0), (Value.int .i64 0), (Value.int .i64 0), (Value.slice none 0 0), (Value.int .i64 0), (Value.int .i64 0), (Value.slice none 0 0)] :: cl b2_ 39 [(Value.int .i64 o.kind), (Value.int .i64 o.rev_Main), (Value.int .i64 o.rev_Sub), (Value.int .i64 o.created_Main), (Value.int .i64 o.created_Sub), (Value.int .i64 o.ver), (Value.int .i64 o.at_)] :: F) := H189_
     have S191_ := Same.trans S187_ S190_
     refine wpList_nil ?_
     refine (X_blkN (X_then (hK18_ _ _ ?_)))
     clear hK18_
     refine C_seq (fun K192_ hK192_ => ?_)
     refine A_start (S := fun w => SlRd v181_ (((vSieve L (vSinceP L o.at_) L.length).map VR.rv).flatMap RV.cells) w ∧ Rd b13_ [(Value.bool false), (Value.int .i64 0), (Value.int .i64 0), (Value.int .i64 0), (Value.int .i64 0), (Value.int .i64 0), v181_, (Value.int .i64 0), (Value.int .i64 0), (Value.slice none 0 0)] w ∧ Sub R (hp w)) (N := 5) foll rfl rfl ?_
     have H193_ := Holds.drew_ H189_
     have hq194_ := And.intro (Holds.slrd H193_ 1 rfl) (And.intro (Holds.rd H193_ 2 rfl) ((Holds.ro_at H193_ 0 rfl)))
     refine A_tk 0 (v := v) rfl (by kernel_rfl) (fun w hS => x_move rfl) hq194_ ?_
     refine A_tk 1 (v := (Value.agg #[(Value.bool false), (Value.int .i64 0), (Value.int .i64 0), (Value.int .i64 0), (Value.int .i64 0), (Value.int .i64 0), v181_, (Value.int .i64 0), (Value.int .i64 0), (Value.slice none 0 0)])) rfl (by kernel_rfl) (fun w hS => x_loadN (vs := [(Value.bool false), (Value.int .i64 0), (Value.int .i64 0), (Value.int .i64 0), (Value.int .i64 0), (Value.int .i64 0), v181_, (Value.int .i64 0), (Value.int .i64 0), (Value.slice none 0 0)]) rfl Try.underlying43 rfl z43 rfl (Rd.cells hS.2.1 0 rfl)) hq194_ ?_
     refine A_tk 2 (v := v) rfl (by kernel_rfl) (fun w hS => x_assign rfl) hq194_ ?_
     refine A_ready (i := 3) (rs := []) (by kernel_rfl) ?_
     refine AllR.cons ?_ AllR.nil
     refine A_op0 (ls' := #[true, true, true, true, false]) rfl (by kernel_rfl) (T_storeN (vs := [(Value.bool false), (Value.int .i64 0), (Value.int .i64 0), (Value.int .i64 0), (Value.int .i64 0), (Value.int .i64 0), v181_, (Value.int .i64 0), (Value.int .i64 0), (Value.slice none 0 0)]) rfl rfl z43 rfl (List.forall_mem_cons.2 ⟨rfl, (List.forall_mem_cons.2 ⟨rfl, (List.forall_mem_cons.2 ⟨rfl, (List.forall_mem_cons.2 ⟨rfl, (List.forall_mem_cons.2 ⟨rfl, (List.forall_mem_cons.2 ⟨rfl, (List.forall_mem_cons.2 ⟨(Holds.sl_one H193_ 1 rfl), (List.forall_mem_cons.2 ⟨rfl, (List.forall_mem_cons.2 ⟨rfl, (List.forall_mem_cons.2 ⟨rfl, (fun _ h__ => by cases h__)⟩)⟩)⟩)⟩)⟩)⟩)⟩)⟩)⟩)⟩) H193_ 3 rfl (Nat.le_of_ble_eq_true (by rfl)) ?_)
     intro w195_ S197_ H196_
     have S198_ := Same.trans (Same.trans S191_ (Same.drew _)) S197_
     refine ⟨⟨Holds.slrd H196_ 1 rfl, Holds.rd H196_ 2 rfl, (Holds.ro_at H196_ 0 rfl)⟩, ?_⟩
     have hq199_ := And.intro (Holds.slrd H196_ 1 rfl) (And.intro (Holds.rd H196_ 2 rfl) ((Holds.ro_at H196_ 0 rfl)))
     refine A_tk 4 (v := (Value.bool true)) rfl (by kernel_rfl) (fun w hS => x_assign rfl) hq199_ ?_
     refine A_done (by kernel_rfl) ?_
     refine (X_then (hK192_ _ _ ?_))
     clear hK192_
     refine C_ret ?_
     refine R_any (v := (Value.tuple #[v, (Value.agg #[(Value.bool false), (Value.int .i64 0), (Value.int .i64 0), (Value.int .i64 0), (Value.int .i64 0), (Value.int .i64 0), v181_, (Value.int .i64 0), (Value.int .i64 0), (Value.slice none 0 0)]), (Value.bool true)])) (run_results3 rfl rfl ⟨_, rfl, load_resN Try.underlying43 rfl z43 rfl (vs := [(Value.bool false), (Value.int .i64 0), (Value.int .i64 0), (Value.int .i64 0), (Value.int .i64 0), (Value.int .i64 0), v181_, (Value.int .i64 0), (Value.int .i64 0), (Value.slice none 0 0)]) (Holds.cl_cells H196_ 3 rfl 0 rfl)⟩ rfl) ?_
     obtain ⟨R200_, hs201_, ⟨R202_, ha203_, hs204_⟩, H205_⟩ := Holds.gift H196_
     have hr206_ : RS R200_ 2 v181_ (List.length ((vSieve L (vSinceP L o.at_) L.length).map VR.rv)) (((vSieve L (vSinceP L o.at_) L.length).map VR.rv).flatMap RV.cells) := (sl_RS ha203_ (Sub.rfl' _)).mono hs204_
     have H207_ : Holds w195_ (ro R200_ :: F) := (Holds.pkF H205_ [0] 3 :)
     exact ⟨R200_, _, _, rfl, hs201_, (.inl ⟨v, v181_, false, 0, 0, 0, 0, 0, (L), (vSince L o.at_), rfl, rfl, (kDo_since c180_tp), ((RS.mono hL hs201_)), (hr206_)⟩), S198_, H207_⟩
    ·have c180_fp : ¬ (o.kind = 6) := of_decide_eq_false c180_f
     refine C_seq (fun K208_ hK208_ => ?_)
     refine C_reg ?_
     refine S_list (T_val (v := (Value.bool (decide (o.kind = 7)))) (x_bin rfl rfl rfl) ?_)
     refine S_list (T_val (v := (Value.bool (decide (o.kind = 7)))) (x_assign rfl) ?_)
     refine wpList_nil ?_
     refine (X_then (hK208_ _ _ ?_))
     clear hK208_
     refine C_cond (b := decide (o.kind = 7)) rfl (fun c209_t => ?_) (fun c209_f => ?_)
     ·have c209_tp : o.kind = 7 := of_decide_eq_true c209_t
      refine C_seq (fun K210_ hK210_ => ?_)
      refine C_reg ?_
      refine S_list (T_val (v := v) (x_move rfl) ?_)
      refine S_list (T_val (v := (Value.pointer (some ⟨b2_, 6, none⟩))) (by kernel_rfl) ?_)
      refine S_list (T_val (v := (Value.int .i64 o.at_)) (x_load1 rfl Try.underlying2 rfl ((Holds.rd H15_ 2 rfl) 6 (Value.int .i64 o.at_) rfl)) ?_)
      have H212_ := ((Holds.bring H15_ 3 rfl) :)
      refine S_list (T_call (al := [v, (Value.int .i64 o.at_), (Value.bool true)]) (pre := []) rfl rfl cb30 (kKept R v L o.at_ true hL (by first | assumption | omega)) H212_ ?_)
      rintro v211_ p216_ w213_ ⟨_, rfl, rfl⟩ S215_ H214_
      have S217_ := Same.trans S17_ S215_
      refine S_list (T_val (v := (Value.pointer (some ⟨b13_, 6, none⟩))) (by kernel_rfl) ?_)
      refine S_list0 (T_store1 (v := v211_) rfl rfl z41 (Holds.sl_one H214_ 1 rfl) H214_ 2 rfl (Nat.le_of_ble_eq_true (by rfl)) ?_)
      intro w218_ S220_ H219_
      replace H219_ : Holds w218_ (ro R :: sl 31 2 v211_ (List.length ((vSieve L (fun i v => decide (v.rev_Main ≤ o.at_) && vStay L o.at_ i v && (true || !v.gone)) L.length).map VR.rv)) (((vSieve L (fun i v => decide (v.rev_Main ≤ o.at_) && vStay L o.at_ i v && (true || !v.gone)) L.length).map VR.rv).flatMap RV.cells) :: cl b13_ 43 [(Value.bool false), (Value.int .i64 0), (Value.int .i64 0), (Value.int .i64 0), (Value.int .i64 0), (Value.int .i64 0), v211_, (Value.int .i64 0), (Value.int .i64 0), (Value.slice none 0 0)] :: cl b7_ 43 [(Value.bool false), (Value.int .i64 0), (Value.int .i64 0), (Value.int .i64 0), (Value.int .i64 0), (Value.int .i64 0), (Value.slice none 0 0), (Value.int .i64 0), (Value.int .i64 0), (Value.slice none 0 0)] :: cl b2_ 39 [(Value.int .i64 o.kind), (Value.int .i64 o.rev_Main), (Value.int .i64 o.rev_Sub), (Value.int .i64 o.created_Main), (Value.int .i64 o.created_Sub), (Value.int .i64 o.ver), (Value.int .i64 o.at_)] :: F) := H219_
      have S221_ := Same.trans S217_ S220_
      refine wpList_nil ?_
      refine (X_then (hK210_ _ _ ?_))
      clear hK210_
      refine C_reg ?_
      refine S_list (T_val (v := v) (x_move rfl) ?_)
      refine S_list (T_val (v := (Value.pointer (some ⟨b2_, 6, none⟩))) (by kernel_rfl) ?_)
      refine S_list (T_val (v := (Value.int .i64 o.at_)) (x_load1 rfl Try.underlying2 rfl ((Holds.rd H219_ 4 rfl) 6 (Value.int .i64 o.at_) rfl)) ?_)
      refine S_list (T_call (al := [v, (Value.int .i64 o.at_)]) (pre := []) rfl rfl cb31 (kCompacted R v L o.at_ hL (by first | assumption | omega)) H219_ ?_)
      rintro v222_ p226_ w223_ ⟨_, rfl, rfl⟩ S225_ H224_
      have S227_ := Same.trans S221_ S225_
      refine S_list (T_val (v := v222_) (x_assign rfl) ?_)
      refine wpList_nil ?_
      refine (X_blkN (X_then (hK18_ _ _ ?_)))
      clear hK18_
      refine C_seq (fun K228_ hK228_ => ?_)
      refine A_start (S := fun w => SlRd v222_ ((vSieve L (vStay L o.at_) L.length).flatMap VR.cells) w ∧ SlRd v211_ (((vSieve L (fun i v => decide (v.rev_Main ≤ o.at_) && vStay L o.at_ i v && (true || !v.gone)) L.length).map VR.rv).flatMap RV.cells) w ∧ Rd b13_ [(Value.bool false), (Value.int .i64 0), (Value.int .i64 0), (Value.int .i64 0), (Value.int .i64 0), (Value.int .i64 0), v211_, (Value.int .i64 0), (Value.int .i64 0), (Value.slice none 0 0)] w ∧ Sub R (hp w)) (N := 5) foll rfl rfl ?_
      have H229_ := Holds.drew_ H224_
      have hq230_ := And.intro (Holds.slrd H229_ 1 rfl) (And.intro (Holds.slrd H229_ 2 rfl) (And.intro (Holds.rd H229_ 3 rfl) ((Holds.ro_at H229_ 0 rfl))))
      refine A_tk 0 (v := v222_) rfl (by kernel_rfl) (fun w hS => x_move rfl) hq230_ ?_
      refine A_tk 1 (v := (Value.agg #[(Value.bool false), (Value.int .i64 0), (Value.int .i64 0), (Value.int .i64 0), (Value.int .i64 0), (Value.int .i64 0), v211_, (Value.int .i64 0), (Value.int .i64 0), (Value.slice none 0 0)])) rfl (by kernel_rfl) (fun w hS => x_loadN (vs := [(Value.bool false), (Value.int .i64 0), (Value.int .i64 0), (Value.int .i64 0), (Value.int .i64 0), (Value.int .i64 0), v211_, (Value.int .i64 0), (Value.int .i64 0), (Value.slice none 0 0)]) rfl Try.underlying43 rfl z43 rfl (Rd.cells hS.2.2.1 0 rfl)) hq230_ ?_
      refine A_tk 2 (v := v222_) rfl (by kernel_rfl) (fun w hS => x_assign rfl) hq230_ ?_
      refine A_ready (i := 3) (rs := []) (by kernel_rfl) ?_
      refine AllR.cons ?_ AllR.nil
      refine A_op0 (ls' := #[true, true, true, true, false]) rfl (by kernel_rfl) (T_storeN (vs := [(Value.bool false), (Value.int .i64 0), (Value.int .i64 0), (Value.int .i64 0), (Value.int .i64 0), (Value.int .i64 0), v211_, (Value.int .i64 0), (Value.int .i64 0), (Value.slice none 0 0)]) rfl rfl z43 rfl (List.forall_mem_cons.2 ⟨rfl, (List.forall_mem_cons.2 ⟨rfl, (List.forall_mem_cons.2 ⟨rfl, (List.forall_mem_cons.2 ⟨rfl, (List.forall_mem_cons.2 ⟨rfl, (List.forall_mem_cons.2 ⟨rfl, (List.forall_mem_cons.2 ⟨(Holds.sl_one H229_ 2 rfl), (List.forall_mem_cons.2 ⟨rfl, (List.forall_mem_cons.2 ⟨rfl, (List.forall_mem_cons.2 ⟨rfl, (fun _ h__ => by cases h__)⟩)⟩)⟩)⟩)⟩)⟩)⟩)⟩)⟩)⟩) H229_ 4 rfl (Nat.le_of_ble_eq_true (by rfl)) ?_)
      intro w231_ S233_ H232_
      have S234_ := Same.trans (Same.trans S227_ (Same.drew _)) S233_
      refine ⟨⟨Holds.slrd H232_ 1 rfl, Holds.slrd H232_ 2 rfl, Holds.rd H232_ 3 rfl, (Holds.ro_at H232_ 0 rfl)⟩, ?_⟩
      have hq235_ := And.intro (Holds.slrd H232_ 1 rfl) (And.intro (Holds.slrd H232_ 2 rfl) (And.intro (Holds.rd H232_ 3 rfl) ((Holds.ro_at H232_ 0 rfl))))
      refine A_tk 4 (v := (Value.bool true)) rfl (by kernel_rfl) (fun w hS => x_assign rfl) hq235_ ?_
      refine A_done (by kernel_rfl) ?_
      refine (X_then (hK228_ _ _ ?_))
      clear hK228_
      refine C_ret ?_
      refine R_any (v := (Value.tuple #[v222_, (Value.agg #[(Value.bool false), (Value.int .i64 0), (Value.int .i64 0), (Value.int .i64 0), (Value.int .i64 0), (Value.int .i64 0), v211_, (Value.int .i64 0), (Value.int .i64 0), (Value.slice none 0 0)]), (Value.bool true)])) (run_results3 rfl rfl ⟨_, rfl, load_resN Try.underlying43 rfl z43 rfl (vs := [(Value.bool false), (Value.int .i64 0), (Value.int .i64 0), (Value.int .i64 0), (Value.int .i64 0), (Value.int .i64 0), v211_, (Value.int .i64 0), (Value.int .i64 0), (Value.slice none 0 0)]) (Holds.cl_cells H232_ 4 rfl 0 rfl)⟩ rfl) ?_
      obtain ⟨R236_, hs237_, ⟨R238_, ha239_, hs240_⟩, H241_⟩ := Holds.gift H232_
      replace H241_ : Holds w231_ (ro R236_ :: sl 31 2 v211_ (List.length ((vSieve L (fun i v => decide (v.rev_Main ≤ o.at_) && vStay L o.at_ i v && (true || !v.gone)) L.length).map VR.rv)) (((vSieve L (fun i v => decide (v.rev_Main ≤ o.at_) && vStay L o.at_ i v && (true || !v.gone)) L.length).map VR.rv).flatMap RV.cells) :: cl b13_ 43 [(Value.bool false), (Value.int .i64 0), (Value.int .i64 0), (Value.int .i64 0), (Value.int .i64 0), (Value.int .i64 0), v211_, (Value.int .i64 0), (Value.int .i64 0), (Value.slice none 0 0)] :: cl b7_ 43 [(Value.bool false), (Value.int .i64 0), (Value.int .i64 0), (Value.int .i64 0), (Value.int .i64 0), (Value.int .i64 0), v211_, (Value.int .i64 0), (Value.int .i64 0), (Value.slice none 0 0)] :: cl b2_ 39 [(Value.int .i64 o.kind), (Value.int .i64 o.rev_Main), (Value.int .i64 o.rev_Sub), (Value.int .i64 o.created_Main), (Value.int .i64 o.created_Sub), (Value.int .i64 o.ver), (Value.int .i64 o.at_)] :: F) := H241_
      have hr242_ : RS R236_ 6 v222_ (List.length (vSieve L (vStay L o.at_) L.length)) ((vSieve L (vStay L o.at_) L.length).flatMap VR.cells) := (sl_RS ha239_ (Sub.rfl' _)).mono hs240_
      obtain ⟨R243_, hs244_, ⟨R245_, ha246_, hs247_⟩, H248_⟩ := Holds.gift H241_
      have hz_R_R243_ := Sub.trans' hs237_ hs244_
      have hr249_ : RS R243_ 2 v211_ (List.length ((vSieve L (fun i v => decide (v.rev_Main ≤ o.at_) && vStay L o.at_ i v && (true || !v.gone)) L.length).map VR.rv)) (((vSieve L (fun i v => decide (v.rev_Main ≤ o.at_) && vStay L o.at_ i v && (true || !v.gone)) L.length).map VR.rv).flatMap RV.cells) := (sl_RS ha246_ (Sub.rfl' _)).mono hs247_
      have H250_ : Holds w231_ (ro R243_ :: F) := (Holds.pkF H248_ [0] 3 :)
      exact ⟨R243_, _, _, rfl, hz_R_R243_, (.inl ⟨v222_, v211_, false, 0, 0, 0, 0, 0, (vCompact L o.at_), (vKept L o.at_ true), rfl, rfl, (kDo_compact c209_tp), ((RS.mono hr242_ hs244_)), (hr249_)⟩), S234_, H250_⟩
     ·have c209_fp : ¬ (o.kind = 7) := of_decide_eq_false c209_f
      refine C_seq (fun K251_ hK251_ => ?_)
      refine C_reg ?_
      refine S_list (T_val (v := (Value.bool (decide (o.kind = 8)))) (x_bin rfl rfl rfl) ?_)
      refine S_list (T_val (v := (Value.bool (decide (o.kind = 8)))) (x_assign rfl) ?_)
      refine wpList_nil ?_
      refine (X_then (hK251_ _ _ ?_))
      clear hK251_
      refine C_cond (b := decide (o.kind = 8)) rfl (fun c252_t => ?_) (fun c252_f => ?_)
      ·have c252_tp : o.kind = 8 := of_decide_eq_true c252_t
       refine C_reg ?_
       refine S_list (T_val (v := v) (x_move rfl) ?_)
       refine S_list (T_val (v := (Value.pointer (some ⟨b2_, 6, none⟩))) (by kernel_rfl) ?_)
       refine S_list (T_val (v := (Value.int .i64 o.at_)) (x_load1 rfl Try.underlying2 rfl ((Holds.rd H15_ 2 rfl) 6 (Value.int .i64 o.at_) rfl)) ?_)
       have H254_ := ((Holds.bring H15_ 3 rfl) :)
       refine S_list (T_call (al := [v, (Value.int .i64 o.at_), (Value.bool false)]) (pre := []) rfl rfl cb30 (kKept R v L o.at_ false hL (by first | assumption | omega)) H254_ ?_)
       rintro v253_ p258_ w255_ ⟨_, rfl, rfl⟩ S257_ H256_
       have S259_ := Same.trans S17_ S257_
       refine S_list (T_val (v := (Value.pointer (some ⟨b13_, 6, none⟩))) (by kernel_rfl) ?_)
       refine S_list0 (T_store1 (v := v253_) rfl rfl z41 (Holds.sl_one H256_ 1 rfl) H256_ 2 rfl (Nat.le_of_ble_eq_true (by rfl)) ?_)
       intro w260_ S262_ H261_
       replace H261_ : Holds w260_ (ro R :: sl 31 2 v253_ (List.length ((vSieve L (fun i v => decide (v.rev_Main ≤ o.at_) && vStay L o.at_ i v && (false || !v.gone)) L.length).map VR.rv)) (((vSieve L (fun i v => decide (v.rev_Main ≤ o.at_) && vStay L o.at_ i v && (false || !v.gone)) L.length).map VR.rv).flatMap RV.cells) :: cl b13_ 43 [(Value.bool false), (Value.int .i64 0), (Value.int .i64 0), (Value.int .i64 0), (Value.int .i64 0), (Value.int .i64 0), v253_, (Value.int .i64 0), (Value.int .i64 0), (Value.slice none 0 0)] :: cl b7_ 43 [(Value.bool false), (Value.int .i64 0), (Value.int .i64 0), (Value.int .i64 0), (Value.int .i64 0), (Value.int .i64 0), (Value.slice none 0 0), (Value.int .i64 0), (Value.int .i64 0), (Value.slice none 0 0)] :: cl b2_ 39 [(Value.int .i64 o.kind), (Value.int .i64 o.rev_Main), (Value.int .i64 o.rev_Sub), (Value.int .i64 o.created_Main), (Value.int .i64 o.created_Sub), (Value.int .i64 o.ver), (Value.int .i64 o.at_)] :: F) := H261_
       have S263_ := Same.trans S259_ S262_
       refine wpList_nil ?_
       refine (X_blkN (X_then (hK18_ _ _ ?_)))
       clear hK18_
       refine C_seq (fun K264_ hK264_ => ?_)
       refine A_start (S := fun w => SlRd v253_ (((vSieve L (fun i v => decide (v.rev_Main ≤ o.at_) && vStay L o.at_ i v && (false || !v.gone)) L.length).map VR.rv).flatMap RV.cells) w ∧ Rd b13_ [(Value.bool false), (Value.int .i64 0), (Value.int .i64 0), (Value.int .i64 0), (Value.int .i64 0), (Value.int .i64 0), v253_, (Value.int .i64 0), (Value.int .i64 0), (Value.slice none 0 0)] w ∧ Sub R (hp w)) (N := 5) foll rfl rfl ?_
       have H265_ := Holds.drew_ H261_
       have hq266_ := And.intro (Holds.slrd H265_ 1 rfl) (And.intro (Holds.rd H265_ 2 rfl) ((Holds.ro_at H265_ 0 rfl)))
       refine A_tk 0 (v := v) rfl (by kernel_rfl) (fun w hS => x_move rfl) hq266_ ?_
       refine A_tk 1 (v := (Value.agg #[(Value.bool false), (Value.int .i64 0), (Value.int .i64 0), (Value.int .i64 0), (Value.int .i64 0), (Value.int .i64 0), v253_, (Value.int .i64 0), (Value.int .i64 0), (Value.slice none 0 0)])) rfl (by kernel_rfl) (fun w hS => x_loadN (vs := [(Value.bool false), (Value.int .i64 0), (Value.int .i64 0), (Value.int .i64 0), (Value.int .i64 0), (Value.int .i64 0), v253_, (Value.int .i64 0), (Value.int .i64 0), (Value.slice none 0 0)]) rfl Try.underlying43 rfl z43 rfl (Rd.cells hS.2.1 0 rfl)) hq266_ ?_
       refine A_tk 2 (v := v) rfl (by kernel_rfl) (fun w hS => x_assign rfl) hq266_ ?_
       refine A_ready (i := 3) (rs := []) (by kernel_rfl) ?_
       refine AllR.cons ?_ AllR.nil
       refine A_op0 (ls' := #[true, true, true, true, false]) rfl (by kernel_rfl) (T_storeN (vs := [(Value.bool false), (Value.int .i64 0), (Value.int .i64 0), (Value.int .i64 0), (Value.int .i64 0), (Value.int .i64 0), v253_, (Value.int .i64 0), (Value.int .i64 0), (Value.slice none 0 0)]) rfl rfl z43 rfl (List.forall_mem_cons.2 ⟨rfl, (List.forall_mem_cons.2 ⟨rfl, (List.forall_mem_cons.2 ⟨rfl, (List.forall_mem_cons.2 ⟨rfl, (List.forall_mem_cons.2 ⟨rfl, (List.forall_mem_cons.2 ⟨rfl, (List.forall_mem_cons.2 ⟨(Holds.sl_one H265_ 1 rfl), (List.forall_mem_cons.2 ⟨rfl, (List.forall_mem_cons.2 ⟨rfl, (List.forall_mem_cons.2 ⟨rfl, (fun _ h__ => by cases h__)⟩)⟩)⟩)⟩)⟩)⟩)⟩)⟩)⟩)⟩) H265_ 3 rfl (Nat.le_of_ble_eq_true (by rfl)) ?_)
       intro w267_ S269_ H268_
       have S270_ := Same.trans (Same.trans S263_ (Same.drew _)) S269_
       refine ⟨⟨Holds.slrd H268_ 1 rfl, Holds.rd H268_ 2 rfl, (Holds.ro_at H268_ 0 rfl)⟩, ?_⟩
       have hq271_ := And.intro (Holds.slrd H268_ 1 rfl) (And.intro (Holds.rd H268_ 2 rfl) ((Holds.ro_at H268_ 0 rfl)))
       refine A_tk 4 (v := (Value.bool true)) rfl (by kernel_rfl) (fun w hS => x_assign rfl) hq271_ ?_
       refine A_done (by kernel_rfl) ?_
       refine (X_then (hK264_ _ _ ?_))
       clear hK264_
       refine C_ret ?_
       refine R_any (v := (Value.tuple #[v, (Value.agg #[(Value.bool false), (Value.int .i64 0), (Value.int .i64 0), (Value.int .i64 0), (Value.int .i64 0), (Value.int .i64 0), v253_, (Value.int .i64 0), (Value.int .i64 0), (Value.slice none 0 0)]), (Value.bool true)])) (run_results3 rfl rfl ⟨_, rfl, load_resN Try.underlying43 rfl z43 rfl (vs := [(Value.bool false), (Value.int .i64 0), (Value.int .i64 0), (Value.int .i64 0), (Value.int .i64 0), (Value.int .i64 0), v253_, (Value.int .i64 0), (Value.int .i64 0), (Value.slice none 0 0)]) (Holds.cl_cells H268_ 3 rfl 0 rfl)⟩ rfl) ?_
       obtain ⟨R272_, hs273_, ⟨R274_, ha275_, hs276_⟩, H277_⟩ := Holds.gift H268_
       have hr278_ : RS R272_ 2 v253_ (List.length ((vSieve L (fun i v => decide (v.rev_Main ≤ o.at_) && vStay L o.at_ i v && (false || !v.gone)) L.length).map VR.rv)) (((vSieve L (fun i v => decide (v.rev_Main ≤ o.at_) && vStay L o.at_ i v && (false || !v.gone)) L.length).map VR.rv).flatMap RV.cells) := (sl_RS ha275_ (Sub.rfl' _)).mono hs276_
       have H279_ : Holds w267_ (ro R272_ :: F) := (Holds.pkF H277_ [0] 3 :)
       exact ⟨R272_, _, _, rfl, hs273_, (.inl ⟨v, v253_, false, 0, 0, 0, 0, 0, (L), (vKept L o.at_ false), rfl, rfl, (kDo_keep c252_tp), ((RS.mono hL hs273_)), (hr278_)⟩), S270_, H279_⟩
      ·have c252_fp : ¬ (o.kind = 8) := of_decide_eq_false c252_f
       refine C_skip (X_blkN (X_then (hK18_ _ _ ?_)))
       clear hK18_
       refine C_seq (fun K280_ hK280_ => ?_)
       refine A_start (S := fun w => Rd b13_ [(Value.bool false), (Value.int .i64 0), (Value.int .i64 0), (Value.int .i64 0), (Value.int .i64 0), (Value.int .i64 0), (Value.slice none 0 0), (Value.int .i64 0), (Value.int .i64 0), (Value.slice none 0 0)] w ∧ Sub R (hp w)) (N := 5) foll rfl rfl ?_
       have H281_ := Holds.drew_ H15_
       have hq282_ := And.intro (Holds.rd H281_ 0 rfl) ((Holds.ro_at H281_ 3 rfl))
       refine A_tk 0 (v := v) rfl (by kernel_rfl) (fun w hS => x_move rfl) hq282_ ?_
       refine A_tk 1 (v := (Value.agg #[(Value.bool false), (Value.int .i64 0), (Value.int .i64 0), (Value.int .i64 0), (Value.int .i64 0), (Value.int .i64 0), (Value.slice none 0 0), (Value.int .i64 0), (Value.int .i64 0), (Value.slice none 0 0)])) rfl (by kernel_rfl) (fun w hS => x_loadN (vs := [(Value.bool false), (Value.int .i64 0), (Value.int .i64 0), (Value.int .i64 0), (Value.int .i64 0), (Value.int .i64 0), (Value.slice none 0 0), (Value.int .i64 0), (Value.int .i64 0), (Value.slice none 0 0)]) rfl Try.underlying43 rfl z43 rfl (Rd.cells hS.1 0 rfl)) hq282_ ?_
       refine A_tk 2 (v := v) rfl (by kernel_rfl) (fun w hS => x_assign rfl) hq282_ ?_
       refine A_ready (i := 3) (rs := []) (by kernel_rfl) ?_
       refine AllR.cons ?_ AllR.nil
       refine A_op0 (ls' := #[true, true, true, true, false]) rfl (by kernel_rfl) (T_storeN (vs := [(Value.bool false), (Value.int .i64 0), (Value.int .i64 0), (Value.int .i64 0), (Value.int .i64 0), (Value.int .i64 0), (Value.slice none 0 0), (Value.int .i64 0), (Value.int .i64 0), (Value.slice none 0 0)]) rfl rfl z43 rfl (by simp [Value.oneCell']) H281_ 1 rfl (Nat.le_of_ble_eq_true (by rfl)) ?_)
       intro w283_ S285_ H284_
       have S286_ := Same.trans (Same.trans S17_ (Same.drew _)) S285_
       refine ⟨⟨Holds.rd H284_ 0 rfl, (Holds.ro_at H284_ 3 rfl)⟩, ?_⟩
       have hq287_ := And.intro (Holds.rd H284_ 0 rfl) ((Holds.ro_at H284_ 3 rfl))
       refine A_tk 4 (v := (Value.bool true)) rfl (by kernel_rfl) (fun w hS => x_assign rfl) hq287_ ?_
       refine A_done (by kernel_rfl) ?_
       refine (X_then (hK280_ _ _ ?_))
       clear hK280_
       refine C_ret ?_
       refine R_any (v := (Value.tuple #[v, (Value.agg #[(Value.bool false), (Value.int .i64 0), (Value.int .i64 0), (Value.int .i64 0), (Value.int .i64 0), (Value.int .i64 0), (Value.slice none 0 0), (Value.int .i64 0), (Value.int .i64 0), (Value.slice none 0 0)]), (Value.bool true)])) (run_results3 rfl rfl ⟨_, rfl, load_resN Try.underlying43 rfl z43 rfl (vs := [(Value.bool false), (Value.int .i64 0), (Value.int .i64 0), (Value.int .i64 0), (Value.int .i64 0), (Value.int .i64 0), (Value.slice none 0 0), (Value.int .i64 0), (Value.int .i64 0), (Value.slice none 0 0)]) (Holds.cl_cells H284_ 1 rfl 0 rfl)⟩ rfl) ?_
       have H288_ : Holds w283_ (ro R :: F) := (Holds.pkF H284_ [3] 3 :)
       exact ⟨R, _, _, rfl, (Sub.rfl' _), (.inl ⟨v, (Value.slice none 0 0), false, 0, 0, 0, 0, 0, (L), (([] : List RV)), (congrArg (fun l => Value.tuple (List.toArray l)) (lcons rfl (lcons (congrArg (fun l => Value.agg (List.toArray l)) (lcons rfl (lcons rfl (lcons rfl (lcons rfl (lcons rfl (lcons rfl (lcons (rfl : (Value.slice none 0 0) = ((Value.slice none 0 0))) rfl)))))))) rfl))), rfl, (kDo_else c21_fp c77_fp c148_fp c180_fp c209_fp c252_fp), (hL), (RS.nil _ _)⟩), S286_, H288_⟩
end Go.Proofs.Ytiblemgccgbhoaa
