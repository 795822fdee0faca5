/- Words, and proved steps, on which the proof leans. -/
import Derived.Test.YtlnihndjepjagaaTu6
set_option linter.unusedVariables false
set_option linter.unusedSimpArgs false
namespace Go.Proofs.Ytlnihndjepjagaa
open Go Go.RowKit Gw Try
open Go.Value renaming int → vI, bool → vB, slice → vS, pointer → vP, agg → vA, tuple → vT

set_option maxHeartbeats 8000000 in
theorem lwProp (R : HP) (ord : Int) (o : TO) (hs : o.sn.in__Begin.size ≤ 2147483647) (hk : o.kind ≠ 8 ∧ o.kind ≠ 9) :
    Tri Try.prog 34 #[(vI .i64 ord), (vA #[(vI .i64 o.kind), (Value.string o.in__In_Begin), (Value.string o.in__In_End), (vB o.in__In_Point), (vI .i64 o.in__From), (vI .i64 o.in__Till), (vI .i64 o.val), (vI .i64 o.n), (vS none 0 0), (vS none 0 0)])] R [] (fun v__ post__ => v__ = (vB (spanB ord o.sn)) ∧ post__ = []) := by
 have hl1_ : (List.length [o.sn]) = 1 := rfl
 refine Tri.into (n := 44) (al := [(vI .i64 ord), (vA #[(vI .i64 o.kind), (Value.string o.in__In_Begin), (Value.string o.in__In_End), (vB o.in__In_Point), (vI .i64 o.in__From), (vI .i64 o.in__Till), (vI .i64 o.val), (vI .i64 o.n), (vS none 0 0), (vS none 0 0)])]) func34 rfl ntmps34 rfl rfl fun w F H => ?_
 refine cr fun _ hK1_ => ?_
 refine S_list (T_box (v := (vA #[(vI .i64 o.kind), (Value.string o.in__In_Begin), (Value.string o.in__In_End), (vB o.in__In_Point), (vI .i64 o.in__From), (vI .i64 o.in__Till), (vI .i64 o.val), (vI .i64 o.n), (vS none 0 0), (vS none 0 0)])) rfl H ?_)
 intro b2_ w3_ S5_ H4_
 have S6_ := Same.trans (Same.refl w) S5_
 refine sv (v := (vB false)) (x_assign rfl) ?_
 refine wn (hK1_ _ _ ?_)
 refine C_seq (fun _ hK7_ => ?_)
 refine cr fun _ hK8_ => ?_
 refine sv (v := (vP (some ⟨b2_, 8, none⟩))) (by kernel_rfl) ?_
 refine sv (v := (vS none 0 0)) (x_load1 rfl underlying30 rfl ((Holds.rd H4_ 0 rfl) 8 (vS none 0 0) rfl)) ?_
 refine sv (v := (vI .i64 0)) (x_lenS rfl underlying30) ?_
 refine sv (v := (vB false)) (x_bin rfl rfl rfl) ?_
 refine sm (vB false) ?_
 refine S_yes (j := 4) (dj := 11) (b := false) rfl rfl rfl (T_val (v := (vP (some ⟨b2_, 9, none⟩))) (by kernel_rfl) ?_)
 refine S_yes (j := 4) (dj := 11) (b := false) rfl rfl rfl (T_val (v := (vS none 0 0)) (x_load1 rfl underlying35 rfl ((Holds.rd H4_ 0 rfl) 9 (vS none 0 0) rfl)) ?_)
 refine S_yes (j := 4) (dj := 11) (b := false) rfl rfl rfl (T_val (v := (vI .i64 0)) (x_lenS rfl underlying35) ?_)
 refine S_yes (j := 4) (dj := 11) (b := false) rfl rfl rfl (T_val (v := (vP (some ⟨b2_, 8, none⟩))) (by kernel_rfl) ?_)
 refine S_yes (j := 4) (dj := 11) (b := false) rfl rfl rfl (T_val (v := (vS none 0 0)) (x_load1 rfl underlying30 rfl ((Holds.rd H4_ 0 rfl) 8 (vS none 0 0) rfl)) ?_)
 refine S_yes (j := 4) (dj := 11) (b := false) rfl rfl rfl (T_val (v := (vI .i64 0)) (x_lenS rfl underlying30) ?_)
 refine S_yes (j := 4) (dj := 11) (b := false) rfl rfl rfl (T_val (v := (vB false)) (x_bin rfl rfl rfl) ?_)
 refine S_list (T_pickF (v := (vB false)) rfl rfl ?_)
 refine wn (hK8_ _ _ ?_)
 refine C_condF rfl ?_
 refine C_skip (X_then (hK7_ _ _ ?_))
 refine C_seq (fun _ hK9_ => ?_)
 refine cr fun _ hK10_ => ?_
 refine sv (v := (vQ b2_)) (by kernel_rfl) ?_
 refine sv (v := (vI .i64 o.kind)) (x_load1 rfl underlying3 rfl ((Holds.rd H4_ 0 rfl) 0 (vI .i64 o.kind) rfl)) ?_
 refine sv (v := (vB (decide (o.kind = 8)))) (x_bin rfl rfl rfl) ?_
 refine sm (vB (decide (o.kind = 8))) ?_
 rcases Bool.eq_false_or_eq_true (decide (o.kind = 8)) with c11_t | c11_f
 ·have c11_tp : o.kind = 8 := of_decide_eq_true c11_t
  omega
 ·have c11_fp : ¬ (o.kind = 8) := of_decide_eq_false c11_f
  refine S_yes (j := 3) (dj := 23) (b := false) rfl rfl (congrArg vB c11_f) (T_val (v := (vQ b2_)) (by kernel_rfl) ?_)
  refine S_yes (j := 3) (dj := 23) (b := false) rfl rfl (congrArg vB c11_f) (T_val (v := (vI .i64 o.kind)) (x_load1 rfl underlying3 rfl ((Holds.rd H4_ 0 rfl) 0 (vI .i64 o.kind) rfl)) ?_)
  refine S_yes (j := 3) (dj := 23) (b := false) rfl rfl (congrArg vB c11_f) (T_val (v := (vB (decide (o.kind = 9)))) (x_bin rfl rfl rfl) ?_)
  refine S_list (T_pickF (v := (vB (decide (o.kind = 9)))) (congrArg vB c11_f) rfl ?_)
  refine wn (hK10_ _ _ ?_)
  refine C_cond (b := decide (o.kind = 9)) rfl (fun c12_t => ?_) (fun c12_f => ?_)
  ·have c12_tp : o.kind = 9 := of_decide_eq_true c12_t
   omega
  ·have c12_fp : ¬ (o.kind = 9) := of_decide_eq_false c12_f
   refine C_skip (X_then (hK9_ _ _ ?_))
   refine C_seq (fun _ hK13_ => ?_)
   refine cr fun _ hK14_ => ?_
   refine sv (v := (vP (some ⟨b2_, 1, none⟩))) (by kernel_rfl) ?_
   refine sv (v := (vA #[(Value.string o.in__In_Begin), (Value.string o.in__In_End), (vB o.in__In_Point), (vI .i64 o.in__From), (vI .i64 o.in__Till)])) (x_loadN (vs := [(Value.string o.in__In_Begin), (Value.string o.in__In_End), (vB o.in__In_Point), (vI .i64 o.in__From), (vI .i64 o.in__Till)]) rfl underlying44 rfl z44 rfl (Rd.cells (Holds.rd H4_ 0 rfl) 1 rfl)) ?_
   refine S_list (T_new (obj := .cells #[(Value.string o.in__In_Begin), (Value.string o.in__In_End), (vB o.in__In_Point), (vI .i64 o.in__From), (vI .i64 o.in__Till)] 44) (f := fun b__ => .slice (some ⟨b__, 0, none⟩) 1 1) (A := fun b__ => cl b__ 44 [(Value.string o.in__In_Begin), (Value.string o.in__In_End), (vB o.in__In_Point), (vI .i64 o.in__From), (vI .i64 o.in__Till)]) (by kernel_rfl) (fun l h => h.alloc _ _) H4_ ?_)
   intro b15_ w16_ S18_ H17_
   have S19_ := Same.trans S6_ S18_
   refine sv (v := (vP (some ⟨b2_, 8, none⟩))) (by kernel_rfl) ?_
   refine sv (v := (vS none 0 0)) (x_load1 rfl underlying30 rfl ((Holds.rd H17_ 1 rfl) 8 (vS none 0 0) rfl)) ?_
   have H20_ : Holds w16_ (cl b15_ 44 ([] ++ [(Value.string o.in__In_Begin), (Value.string o.in__In_End), (vB o.in__In_Point), (vI .i64 o.in__From), (vI .i64 o.in__Till)] ++ []) :: cl b2_ 63 [(vI .i64 o.kind), (Value.string o.in__In_Begin), (Value.string o.in__In_End), (vB o.in__In_Point), (vI .i64 o.in__From), (vI .i64 o.in__Till), (vI .i64 o.val), (vI .i64 o.n), (vS none 0 0), (vS none 0 0)] :: ro R :: F) := cast1 (P := fun (c__ : List Value) => Holds w16_ (cl b15_ 44 c__ :: cl b2_ 63 [(vI .i64 o.kind), (Value.string o.in__In_Begin), (Value.string o.in__In_End), (vB o.in__In_Point), (vI .i64 o.in__From), (vI .i64 o.in__Till), (vI .i64 o.val), (vI .i64 o.n), (vS none 0 0), (vS none 0 0)] :: ro R :: F)) (by kernel_rfl : [(Value.string o.in__In_Begin), (Value.string o.in__In_End), (vB o.in__In_Point), (vI .i64 o.in__From), (vI .i64 o.in__Till)] = [] ++ [(Value.string o.in__In_Begin), (Value.string o.in__In_End), (vB o.in__In_Point), (vI .i64 o.in__From), (vI .i64 o.in__Till)] ++ []) H17_
   have H21_ : Holds w16_ (sl 44 5 (vS (some ⟨b15_, 0, none⟩) 1 1) 1 [(Value.string o.in__In_Begin), (Value.string o.in__In_End), (vB o.in__In_Point), (vI .i64 o.in__From), (vI .i64 o.in__Till)] :: cl b2_ 63 [(vI .i64 o.kind), (Value.string o.in__In_Begin), (Value.string o.in__In_End), (vB o.in__In_Point), (vI .i64 o.in__From), (vI .i64 o.in__Till), (vI .i64 o.val), (vI .i64 o.n), (vS none 0 0), (vS none 0 0)] :: ro R :: F) := Holds.to_sl H20_ 0 [] [] (xs := [(Value.string o.in__In_Begin), (Value.string o.in__In_End), (vB o.in__In_Point), (vI .i64 o.in__From), (vI .i64 o.in__Till)]) (m := 1) (cap := 1) (sz := 5) rfl (by kernel_rfl) (by kernel_rfl) (by omega)
   refine S_list (T_append rfl rfl underlying30 z44 rfl (by decide) H21_ 0 rfl (RS.src (RS.nil R 5) (Holds.ro_at H21_ 2 rfl) underlying30 (by simp)) (by first | omega | (simp only [List.length_append, List.length_cons, List.length_nil]; omega)) ?_)
   intro v22_ w23_ S25_ H24_
   have S26_ := Same.trans S19_ S25_
   refine sv (v := (vI .i64 1)) (x_lenSl rfl H24_ 0 rfl underlying30) ?_
   refine sm (vI .i64 0) ?_
   refine wn (hK14_ _ _ ?_)
   refine C_block ?_
   have H27_ := Holds.resl H24_ 0 rfl (rfl : [(Value.string o.in__In_Begin), (Value.string o.in__In_End), (vB o.in__In_Point), (vI .i64 o.in__From), (vI .i64 o.in__Till)] ++ [] = [o.sn].flatMap SN.cells) (rfl : 1 = (List.length [o.sn]))
   have H28_ := ((Holds.bring H27_ 2 rfl) :)
   obtain ⟨R29_, hs30_, ⟨R31_, ha32_, hs33_⟩, H34_⟩ := Holds.gift H28_
   have hr35_ : RS R29_ 5 v22_ (List.length [o.sn]) ([o.sn].flatMap SN.cells) := (sl_RS ha32_ (Sub.rfl' _)).mono hs33_
   refine C_loop (γ := Nat × Bool) (fun x__ a__ w1__ => match x__ with | ⟨k, t4_v⟩ => ∃ h : Env, a__ = mkA 44 (upd (upd (upd (upd (upd h 0 (vI .i64 ord)) 4 (vB t4_v)) 33 v22_) 34 (vI .i64 1)) 35 (vI .i64 (k : Int))) [] ∧ Holds w1__ (ro R29_ :: cl b2_ 63 [(vI .i64 o.kind), (Value.string o.in__In_Begin), (Value.string o.in__In_End), (vB o.in__In_Point), (vI .i64 o.in__From), (vI .i64 o.in__Till), (vI .i64 o.val), (vI .i64 o.n), (vS none 0 0), (vS none 0 0)] :: F) ∧ Same w w1__ ∧ (k ≤ (List.length [o.sn])) ∧ (0 < k → spanB ord o.sn = true)) (fun x__ => match x__ with | ⟨k, t4_v⟩ => (List.length [o.sn]) - k) (⟨0, false⟩) ⟨_, congrArg (fun e => mkA 44 e []) (ch (ch (ch (ch (ch rfl rfl) rfl) rfl) rfl) (congrArg (vI .i64) ((by first | rfl | omega | (simp; done) | (simp; omega)) : 0 = (0 : Int)))), H34_, S26_, (Nat.zero_le _), (fun h => by omega)⟩ ?_
   rintro ⟨k, t4_v⟩ _ w36_ ⟨h, rfl, H37_, S38_, hkk, hsp⟩
   refine cr fun _ hK39_ => ?_
   refine sv (v := (vB (decide ((k : Int) < 1)))) (x_bin rfl rfl rfl) ?_
   refine wn (hK39_ _ _ ?_)
   refine C_seq (fun _ hK40_ => ?_)
   refine C_cond (b := decide ((k : Int) < 1)) rfl (fun c41_t => ?_) (fun c41_f => ?_)
   ·have c41_tp : (k : Int) < 1 := of_decide_eq_true c41_t
    refine C_skip (X_then (hK40_ _ _ ?_))
    refine C_seq (fun _ hK42_ => ?_)
    refine C_block ?_
    refine cr fun _ hK43_ => ?_
    obtain ⟨x44_, hx45_, hm46_⟩ := elem_at [o.sn] k (by omega)
    have hxe_ : x44_ = o.sn := List.mem_singleton.1 hm46_
    have hxs_ : x44_.in__Begin.size ≤ 2147483647 := by rw [hxe_]; exact hs
    refine sv (v := (vP (some ⟨(sb v22_), so v22_ + (k * 5 + 0), none⟩))) (x_idxRS (v := v22_) rfl hr35_ rfl underlying30 z44 (by omega) (by omega) (by omega : _ = k) rfl) ?_
    refine sv (v := (vA #[(Value.string x44_.in__Begin), (Value.string x44_.in__End), (vB x44_.in__Point), (vI .i64 x44_.from_), (vI .i64 x44_.till)])) (x_loadN (vs := [(Value.string x44_.in__Begin), (Value.string x44_.in__End), (vB x44_.in__Point), (vI .i64 x44_.from_), (vI .i64 x44_.till)]) rfl underlying44 rfl z44 rfl (RC.cells (RS.rc hr35_) (Holds.ro_at H37_ 0 rfl) (k * 5 + 0) (fm_cells SN.len hx45_ (i := 0) rfl))) ?_
    refine S_list (T_alloc z44 H37_ ?_)
    intro b47_ w48_ S50_ H49_
    have S51_ := Same.trans S38_ S50_
    refine S_list0 (T_storeN (vs := [(Value.string x44_.in__Begin), (Value.string x44_.in__End), (vB x44_.in__Point), (vI .i64 x44_.from_), (vI .i64 x44_.till)]) rfl rfl z44 rfl (by simp [Value.oneCell']) H49_ 0 rfl (Nat.le_of_ble_eq_true (by rfl)) ?_)
    intro w52_ S54_ H53_
    have S55_ := Same.trans S51_ S54_
    refine wn (hK43_ _ _ ?_)
    refine cr fun _ hK56_ => ?_
    refine sm (vI .i64 ord) ?_
    refine sv (v := (vA #[(Value.string x44_.in__Begin), (Value.string x44_.in__End), (vB x44_.in__Point), (vI .i64 x44_.from_), (vI .i64 x44_.till)])) (x_loadN (vs := [(Value.string x44_.in__Begin), (Value.string x44_.in__End), (vB x44_.in__Point), (vI .i64 x44_.from_), (vI .i64 x44_.till)]) rfl underlying44 rfl z44 rfl (Rd.cells (Holds.rd H53_ 0 rfl) 0 rfl)) ?_
    have H58_ := ((Holds.bring H53_ 1 rfl) :)
    refine S_list (T_call (al := [(vI .i64 ord), (vA #[(Value.string x44_.in__Begin), (Value.string x44_.in__End), (vB x44_.in__Point), (vI .i64 x44_.from_), (vI .i64 x44_.till)])]) (pre := []) rfl rfl cb60 (lwSpan R29_ ord x44_ (hxs_)) H58_ ?_)
    rintro v57_ p62_ w59_ ⟨rfl, rfl⟩ S61_ H60_
    have S63_ := Same.trans S55_ S61_
    refine sv (v := (vB (!(spanB ord x44_)))) (x_not rfl) ?_
    refine wn (hK56_ _ _ ?_)
    refine C_cond (b := !(spanB ord x44_)) rfl (fun c64_t => ?_) (fun c64_f => ?_)
    ·skip
     refine cr fun _ hK65_ => ?_
     refine sv (v := (vB false)) (x_assign rfl) ?_
     refine wn (hK65_ _ _ ?_)
     refine C_ret (X_blkR (X_thenR (X_thenR (X_blkR (X_thenR ?_)))))
     refine R_any (v := (vB false)) (run_results1 rfl rfl) ?_
     have H66_ : Holds w59_ (ro R :: cl b47_ 44 [(Value.string x44_.in__Begin), (Value.string x44_.in__End), (vB x44_.in__Point), (vI .i64 x44_.from_), (vI .i64 x44_.till)] :: cl b2_ 63 [(vI .i64 o.kind), (Value.string o.in__In_Begin), (Value.string o.in__In_End), (vB o.in__In_Point), (vI .i64 o.in__From), (vI .i64 o.in__Till), (vI .i64 o.val), (vI .i64 o.n), (vS none 0 0), (vS none 0 0)] :: F) := Holds.ro_less H60_ hs30_
     have H67_ := Holds.pkF H66_ [0] 2
     exact ⟨_, _, rfl, ⟨(congrArg vB ((by rw [← hxe_]; simpa using c64_t) : false = (spanB ord o.sn))), rfl⟩, S63_, H67_⟩
    ·skip
     refine C_skip (X_blkN (X_then (hK42_ _ _ ?_)))
     refine C_reg ?_
     refine sv (v := (vI .i64 ((k : Int) + 1))) (x_bin rfl rfl (ib_add (IntWalk.i64_in _ (by omega)))) ?_
     refine sm (vI .i64 ((k : Int) + 1)) ?_
     refine wpList_nil (X_then ?_)
     have H68_ := Holds.pkF H60_ [0, 1] 1
     exact ⟨⟨k + 1, t4_v⟩, ⟨_, congrArg (fun e => mkA 44 e []) (ch (ch (ch (ch (ch rfl rfl) rfl) rfl) rfl) (congrArg (vI .i64) ((by first | rfl | omega | (simp; done) | (simp; omega)) : (k : Int) + 1 = ((k + 1 : Nat) : Int)))), H68_, S63_, (by first | assumption | omega | exact rfl), (fun _ => by rw [← hxe_]; simpa using c64_f)⟩, by first | omega | (dsimp only; omega) | (simp; omega)⟩
   ·have c41_fp : ¬ ((k : Int) < 1) := of_decide_eq_false c41_f
    refine C_exit (X_thenX (X_thenX (X_blkHit ?_)))
    refine (X_then (hK13_ _ _ ?_))
    refine cr fun _ hK69_ => ?_
    refine sv (v := (vB true)) (x_assign rfl) ?_
    refine wn (hK69_ _ _ ?_)
    refine C_ret ?_
    refine R_any (v := (vB true)) (run_results1 rfl rfl) ?_
    have H70_ : Holds w36_ (ro R :: cl b2_ 63 [(vI .i64 o.kind), (Value.string o.in__In_Begin), (Value.string o.in__In_End), (vB o.in__In_Point), (vI .i64 o.in__From), (vI .i64 o.in__Till), (vI .i64 o.val), (vI .i64 o.n), (vS none 0 0), (vS none 0 0)] :: F) := Holds.ro_less H37_ hs30_
    have H71_ := Holds.pkF H70_ [0] 1
    exact ⟨_, _, rfl, ⟨(congrArg vB ((hsp (by omega)).symm : true = (spanB ord o.sn))), rfl⟩, S38_, H71_⟩

set_option maxHeartbeats 1600000 in
theorem lwFits36 (R : HP) (s : SN) :
    Tri Try.prog 29 #[(vA #[(Value.string s.in__Begin), (Value.string s.in__End), (vB s.in__Point), (vI .i64 s.from_), (vI .i64 s.till)])] R [] (fun v__ post__ => ∃ (b : Bool), v__ = (vB b) ∧ post__ = [] ∧ (b = true → SSz s)) := by
 refine Tri.into (n := 7) (al := [(vA #[(Value.string s.in__Begin), (Value.string s.in__End), (vB s.in__Point), (vI .i64 s.from_), (vI .i64 s.till)])]) func29 rfl ntmps29 rfl rfl fun w F H => ?_
 refine cr fun _ hK1_ => ?_
 refine S_list (T_box (v := (vA #[(Value.string s.in__Begin), (Value.string s.in__End), (vB s.in__Point), (vI .i64 s.from_), (vI .i64 s.till)])) rfl H ?_)
 intro b2_ w3_ S5_ H4_
 have S6_ := Same.trans (Same.refl w) S5_
 refine sv (v := (vB false)) (x_assign rfl) ?_
 refine wn (hK1_ _ _ ?_)
 refine C_seq (fun _ hK7_ => ?_)
 refine cr fun _ hK8_ => ?_
 refine sv (v := (vQ b2_)) (by kernel_rfl) ?_
 refine sv (v := (vA #[(Value.string s.in__Begin), (Value.string s.in__End), (vB s.in__Point)])) (x_loadN (vs := [(Value.string s.in__Begin), (Value.string s.in__End), (vB s.in__Point)]) rfl underlying42 rfl z42 rfl (Rd.cells (Holds.rd H4_ 0 rfl) 0 rfl)) ?_
 refine S_list (T_callW (al := [(vA #[(Value.string s.in__Begin), (Value.string s.in__End), (vB s.in__Point)])]) rfl rfl cb58 (Calls.into (n := 11) func58 rfl ntmps58 rfl rfl ?_))
 refine cr fun _ hK9_ => ?_
 refine S_list (T_box (v := (vA #[(Value.string s.in__Begin), (Value.string s.in__End), (vB s.in__Point)])) rfl H4_ ?_)
 intro b10_ w11_ S13_ H12_
 have S14_ := Same.trans S6_ S13_
 refine sv (v := (vB false)) (x_assign rfl) ?_
 refine wn (hK9_ _ _ ?_)
 refine C_seq (fun _ hK15_ => ?_)
 refine cr fun _ hK16_ => ?_
 refine sv (v := (vQ b10_)) (by kernel_rfl) ?_
 refine sv (v := (Value.string s.in__Begin)) (x_load1 rfl underlying9 rfl ((Holds.rd H12_ 0 rfl) 0 (Value.string s.in__Begin) rfl)) ?_
 refine sv (v := (vI .i64 (s.in__Begin.size : Int))) (x_lenT rfl underlying9) ?_
 refine sv (v := (vB (decide (2147483647 < (s.in__Begin.size : Int))))) (x_bin rfl rfl rfl) ?_
 refine wn (hK16_ _ _ ?_)
 refine C_cond (b := decide (2147483647 < (s.in__Begin.size : Int))) rfl (fun c17_t => ?_) (fun c17_f => ?_)
 ·have c17_tp : 2147483647 < (s.in__Begin.size : Int) := of_decide_eq_true c17_t
  refine cr fun _ hK18_ => ?_
  refine sv (v := (vB false)) (x_assign rfl) ?_
  refine wn (hK18_ _ _ ?_)
  refine C_ret (X_thenR ?_)
  refine R_any (v := (vB false)) (run_results1 rfl rfl) ⟨_, rfl, ?_⟩
  refine sv (v := (vB true)) (x_cast (x_not (b := false) rfl) rfl) ?_
  refine wn (hK8_ _ _ ?_)
  refine C_condT rfl ?_
  refine cr fun _ hK19_ => ?_
  refine sv (v := (vB false)) (x_assign rfl) ?_
  refine wn (hK19_ _ _ ?_)
  refine C_ret (X_thenR ?_)
  refine R_any (v := (vB false)) (run_results1 rfl rfl) ?_
  have H20_ := Holds.pkF H12_ [2] 2
  exact ⟨_, _, rfl, ⟨false, rfl, rfl, (fun h => by cases h)⟩, S14_, H20_⟩
 ·have c17_fp : ¬ (2147483647 < (s.in__Begin.size : Int)) := of_decide_eq_false c17_f
  refine C_skip (X_then (hK15_ _ _ ?_))
  refine C_seq (fun _ hK21_ => ?_)
  refine cr fun _ hK22_ => ?_
  refine sv (v := (vP (some ⟨b10_, 1, none⟩))) (by kernel_rfl) ?_
  refine sv (v := (Value.string s.in__End)) (x_load1 rfl underlying9 rfl ((Holds.rd H12_ 0 rfl) 1 (Value.string s.in__End) rfl)) ?_
  refine sv (v := (vI .i64 (s.in__End.size : Int))) (x_lenT rfl underlying9) ?_
  refine sv (v := (vB (decide (2147483647 < (s.in__End.size : Int))))) (x_bin rfl rfl rfl) ?_
  refine wn (hK22_ _ _ ?_)
  refine C_cond (b := decide (2147483647 < (s.in__End.size : Int))) rfl (fun c23_t => ?_) (fun c23_f => ?_)
  ·have c23_tp : 2147483647 < (s.in__End.size : Int) := of_decide_eq_true c23_t
   refine cr fun _ hK24_ => ?_
   refine sv (v := (vB false)) (x_assign rfl) ?_
   refine wn (hK24_ _ _ ?_)
   refine C_ret (X_thenR ?_)
   refine R_any (v := (vB false)) (run_results1 rfl rfl) ⟨_, rfl, ?_⟩
   refine sv (v := (vB true)) (x_cast (x_not (b := false) rfl) rfl) ?_
   refine wn (hK8_ _ _ ?_)
   refine C_condT rfl ?_
   refine cr fun _ hK25_ => ?_
   refine sv (v := (vB false)) (x_assign rfl) ?_
   refine wn (hK25_ _ _ ?_)
   refine C_ret (X_thenR ?_)
   refine R_any (v := (vB false)) (run_results1 rfl rfl) ?_
   have H26_ := Holds.pkF H12_ [2] 2
   exact ⟨_, _, rfl, ⟨false, rfl, rfl, (fun h => by cases h)⟩, S14_, H26_⟩
  ·have c23_fp : ¬ (2147483647 < (s.in__End.size : Int)) := of_decide_eq_false c23_f
   refine C_skip (X_then (hK21_ _ _ ?_))
   refine cr fun _ hK27_ => ?_
   refine sv (v := (vB true)) (x_assign rfl) ?_
   refine wn (hK27_ _ _ ?_)
   refine C_ret ?_
   refine R_any (v := (vB true)) (run_results1 rfl rfl) ⟨_, rfl, ?_⟩
   refine sv (v := (vB false)) (x_cast (x_not (b := true) rfl) rfl) ?_
   refine wn (hK8_ _ _ ?_)
   refine C_condF rfl ?_
   refine C_skip (X_then (hK7_ _ _ ?_))
   refine cr fun _ hK28_ => ?_
   refine sv (v := (vB true)) (x_assign rfl) ?_
   refine wn (hK28_ _ _ ?_)
   refine C_ret ?_
   refine R_any (v := (vB true)) (run_results1 rfl rfl) ?_
   have H29_ := Holds.pkF H12_ [2] 2
   exact ⟨_, _, rfl, ⟨true, rfl, rfl, (fun _ => ⟨by omega, by omega⟩)⟩, S14_, H29_⟩

set_option maxHeartbeats 1600000 in
theorem lwFits38 (R : HP) (v : Value) (l : List SN) (hv : RS R 5 v (List.length l) (l.flatMap SN.cells)) :
    Tri Try.prog 28 #[v] R [] (fun v__ post__ => ∃ (b : Bool), v__ = (vB b) ∧ post__ = [] ∧ (b = true → l.length ≤ 2147483647 ∧ ∀ s ∈ l, SSz s)) := by
 refine Tri.into (n := 18) (al := [v]) func28 rfl ntmps28 rfl rfl fun w F H => ?_
 refine cr fun _ hK1_ => ?_
 refine sv (v := (vB false)) (x_assign rfl) ?_
 refine wn (hK1_ _ _ ?_)
 refine C_seq (fun _ hK2_ => ?_)
 refine cr fun _ hK3_ => ?_
 refine sv (v := v) (x_move rfl) ?_
 refine sv (v := (vI .i64 ((List.length l) : Int))) (x_lenRS rfl hv underlying30) ?_
 refine sv (v := (vB (decide (2147483647 < ((List.length l) : Int))))) (x_bin rfl rfl rfl) ?_
 refine wn (hK3_ _ _ ?_)
 refine C_cond (b := decide (2147483647 < ((List.length l) : Int))) rfl (fun c4_t => ?_) (fun c4_f => ?_)
 ·have c4_tp : 2147483647 < ((List.length l) : Int) := of_decide_eq_true c4_t
  refine cr fun _ hK5_ => ?_
  refine sv (v := (vB false)) (x_assign rfl) ?_
  refine wn (hK5_ _ _ ?_)
  refine C_ret (X_thenR ?_)
  refine R_any (v := (vB false)) (run_results1 rfl rfl) ?_
  exact ⟨_, _, rfl, ⟨false, rfl, rfl, (fun h => by cases h)⟩, (Same.refl w), H⟩
 ·have c4_fp : ¬ (2147483647 < ((List.length l) : Int)) := of_decide_eq_false c4_f
  refine C_skip (X_then (hK2_ _ _ ?_))
  refine C_seq (fun _ hK6_ => ?_)
  refine cr fun _ hK7_ => ?_
  refine sv (v := v) (x_move rfl) ?_
  refine sv (v := (vI .i64 ((List.length l) : Int))) (x_lenRS rfl hv underlying30) ?_
  refine sm (vI .i64 0) ?_
  refine wn (hK7_ _ _ ?_)
  refine C_block ?_
  refine C_loop (γ := Nat × Bool) (fun x__ a__ w1__ => match x__ with | ⟨k, t2_v⟩ => ∃ h : Env, a__ = mkA 18 (upd (upd (upd (upd h 2 (vB t2_v)) 8 v) 9 (vI .i64 ((List.length l) : Int))) 10 (vI .i64 (k : Int))) [] ∧ Holds w1__ (ro R :: F) ∧ Same w w1__ ∧ (k ≤ l.length) ∧ (∀ s ∈ l.take k, SSz s)) (fun x__ => match x__ with | ⟨k, t2_v⟩ => l.length - k) (⟨0, false⟩) ⟨_, congrArg (fun e => mkA 18 e []) (ch (ch (ch (ch rfl rfl) rfl) rfl) (congrArg (vI .i64) ((by first | rfl | omega | (simp; done) | (simp; omega)) : 0 = (0 : Int)))), H, (Same.refl w), (by first | assumption | omega | exact rfl), (fun s h => by simp at h)⟩ ?_
  rintro ⟨k, t2_v⟩ _ w8_ ⟨h, rfl, H9_, S10_, hkk, hok⟩
  refine cr fun _ hK11_ => ?_
  refine sv (v := (vB (decide ((k : Int) < ((List.length l) : Int))))) (x_bin rfl rfl rfl) ?_
  refine wn (hK11_ _ _ ?_)
  refine C_seq (fun _ hK12_ => ?_)
  refine C_cond (b := decide ((k : Int) < ((List.length l) : Int))) rfl (fun c13_t => ?_) (fun c13_f => ?_)
  ·have c13_tp : (k : Int) < ((List.length l) : Int) := of_decide_eq_true c13_t
   refine C_skip (X_then (hK12_ _ _ ?_))
   refine C_seq (fun _ hK14_ => ?_)
   refine C_block ?_
   refine cr fun _ hK15_ => ?_
   obtain ⟨x16_, hx17_, hm18_⟩ := elem_at l k (by omega)
   refine sv (v := (vP (some ⟨(sb v), so v + (k * 5 + 0), none⟩))) (x_idxRS (v := v) rfl hv rfl underlying30 z44 (by omega) (by omega) (by omega : _ = k) rfl) ?_
   refine sv (v := (vA #[(Value.string x16_.in__Begin), (Value.string x16_.in__End), (vB x16_.in__Point), (vI .i64 x16_.from_), (vI .i64 x16_.till)])) (x_loadN (vs := [(Value.string x16_.in__Begin), (Value.string x16_.in__End), (vB x16_.in__Point), (vI .i64 x16_.from_), (vI .i64 x16_.till)]) rfl underlying44 rfl z44 rfl (RC.cells (RS.rc hv) (Holds.ro_at H9_ 0 rfl) (k * 5 + 0) (fm_cells SN.len hx17_ (i := 0) rfl))) ?_
   refine S_list (T_alloc z44 H9_ ?_)
   intro b19_ w20_ S22_ H21_
   have S23_ := Same.trans S10_ S22_
   refine S_list0 (T_storeN (vs := [(Value.string x16_.in__Begin), (Value.string x16_.in__End), (vB x16_.in__Point), (vI .i64 x16_.from_), (vI .i64 x16_.till)]) rfl rfl z44 rfl (by simp [Value.oneCell']) H21_ 0 rfl (Nat.le_of_ble_eq_true (by rfl)) ?_)
   intro w24_ S26_ H25_
   have S27_ := Same.trans S23_ S26_
   refine wn (hK15_ _ _ ?_)
   refine cr fun _ hK28_ => ?_
   refine sv (v := (vA #[(Value.string x16_.in__Begin), (Value.string x16_.in__End), (vB x16_.in__Point), (vI .i64 x16_.from_), (vI .i64 x16_.till)])) (x_loadN (vs := [(Value.string x16_.in__Begin), (Value.string x16_.in__End), (vB x16_.in__Point), (vI .i64 x16_.from_), (vI .i64 x16_.till)]) rfl underlying44 rfl z44 rfl (Rd.cells (Holds.rd H25_ 0 rfl) 0 rfl)) ?_
   have H32_ := ((Holds.bring H25_ 1 rfl) :)
   refine S_list (T_call (al := [(vA #[(Value.string x16_.in__Begin), (Value.string x16_.in__End), (vB x16_.in__Point), (vI .i64 x16_.from_), (vI .i64 x16_.till)])]) (pre := []) rfl rfl cb29 (lwFits36 R x16_) H32_ ?_)
   rintro v29_ p36_ w33_ ⟨b30_, rfl, rfl, he31_⟩ S35_ H34_
   have S37_ := Same.trans S27_ S35_
   refine sv (v := (vB (!b30_))) (x_not rfl) ?_
   refine wn (hK28_ _ _ ?_)
   refine C_cond (b := !b30_) rfl (fun c38_t => ?_) (fun c38_f => ?_)
   ·skip
    refine cr fun _ hK39_ => ?_
    refine sv (v := (vB false)) (x_assign rfl) ?_
    refine wn (hK39_ _ _ ?_)
    refine C_ret (X_blkR (X_thenR (X_thenR (X_blkR (X_thenR ?_)))))
    refine R_any (v := (vB false)) (run_results1 rfl rfl) ?_
    have H40_ := Holds.pkF H34_ [0] 1
    exact ⟨_, _, rfl, ⟨false, rfl, rfl, (fun h => by cases h)⟩, S37_, H40_⟩
   ·skip
    refine C_skip (X_blkN (X_then (hK14_ _ _ ?_)))
    refine C_reg ?_
    refine sv (v := (vI .i64 ((k : Int) + 1))) (x_bin rfl rfl (ib_add (IntWalk.i64_in _ (by omega)))) ?_
    refine sm (vI .i64 ((k : Int) + 1)) ?_
    refine wpList_nil (X_then ?_)
    have H41_ := Holds.pkF H34_ [0] 1
    exact ⟨⟨k + 1, t2_v⟩, ⟨_, congrArg (fun e => mkA 18 e []) (ch (ch (ch (ch rfl rfl) rfl) rfl) (congrArg (vI .i64) ((by first | rfl | omega | (simp; done) | (simp; omega)) : (k : Int) + 1 = ((k + 1 : Nat) : Int)))), H41_, S37_, (by first | assumption | omega | exact rfl), (all_snoc (Q := SSz) hok hx17_ (he31_ (by simpa using c38_f)))⟩, by first | omega | (dsimp only; omega) | (simp; omega)⟩
  ·have c13_fp : ¬ ((k : Int) < ((List.length l) : Int)) := of_decide_eq_false c13_f
   refine C_exit (X_thenX (X_thenX (X_blkHit ?_)))
   refine (X_then (hK6_ _ _ ?_))
   refine cr fun _ hK42_ => ?_
   refine sv (v := (vB true)) (x_assign rfl) ?_
   refine wn (hK42_ _ _ ?_)
   refine C_ret ?_
   refine R_any (v := (vB true)) (run_results1 rfl rfl) ?_
   exact ⟨_, _, rfl, ⟨true, rfl, rfl, (fun _ => ⟨by omega, fun s hm => hok s (by rw [List.take_of_length_le (by omega)]; exact hm)⟩)⟩, S10_, H9_⟩

end Go.Proofs.Ytlnihndjepjagaa
set_option linter.unusedVariables false
set_option linter.unusedSimpArgs false
namespace Go.Proofs.Ytlnihndjepjagaa
open Go Go.RowKit Gw Try
open Go.Value renaming int → vI, bool → vB, slice → vS, pointer → vP, agg → vA, tuple → vT

def TO.bare (o : TO) : TX := ⟨⟨o.kind, o.in__In_Begin, o.in__In_End, o.in__In_Point, o.in__From, o.in__Till, o.val, o.n, .slice none 0 0, .slice none 0 0⟩, [], []⟩
theorem Fil.ops {ord : Int} {R : HP} {O : List TX} {P : List PN} {y : TX} (h : Fil ord O P) (ho : 0 ≤ ord ∧ ord ≤ 3) (hl : O.length ≤ 100000) (hy : OpOk ord R (tdoAll ord O) y) : ∀ k x, (O ++ [y])[k]? = some x → OpOk ord R (tdoAll ord ((O ++ [y]).take k)) x := by
  intro k x hx
  by_cases hk : k < O.length
  · rw [List.getElem?_append_left hk] at hx
    rw [List.take_append_of_le_length (by omega)]
    exact h.op ho hl k x hx
  · have hk2 : k = O.length := by
      have := (List.getElem?_eq_some_iff.1 hx).1
      rw [List.length_append] at this; simp at this; omega
    subst hk2
    rw [List.getElem?_append_right (Nat.le_refl _), Nat.sub_self] at hx
    have : y = x := by simpa using hx
    subst this
    rw [List.take_append_of_le_length (Nat.le_refl _), List.take_length]
    exact hy
theorem Fil.mlen {ord : Int} {O : List TX} {P : List PN} (h : Fil ord O P) (hl : P.length ≤ 200) : (tdoAll ord O).length ≤ 10000000 := by
  rw [h.t, List.length_map]; omega
theorem AnsTo.last {ord : Int} {R : HP} {O : List TX} {y : TX} {A : List TA} {a : TA} (h : AnsTo ord R (O ++ [y]) A) (ha : A[O.length]? = some a) : AnsAt R a (tdoX ord (tdoAll ord O) y) := by
  have := h O.length a y ha (by rw [List.getElem?_append_right (Nat.le_refl _), Nat.sub_self]; rfl)
  rw [List.take_append_of_le_length (Nat.le_refl _), List.take_length] at this
  exact this


end Go.Proofs.Ytlnihndjepjagaa
set_option linter.unusedVariables false
set_option linter.unusedSimpArgs false
namespace Go.Proofs.Ytlnihndjepjagaa
open Go Go.RowKit Gw Try
open Go.Value renaming int → vI, bool → vB, slice → vS, pointer → vP, agg → vA, tuple → vT

def liveS : SN := ⟨⟨#[97]⟩, ⟨#[99]⟩, false, 0, 0⟩
def liveL : List TX := [insOp liveS 4, TO.bare ⟨3, ⟨#[97]⟩, ⟨#[99]⟩, false, 0, 0, 0, 0, .slice none 0 0, .slice none 0 0⟩]
def liveX : TAx := ⟨true, 0, [ekSpan (liveS.lo 1) (liveS.hi 1)], [4]⟩
theorem liveSn : SnOk 1 liveS := ⟨⟨by decide, by decide⟩, by decide, by decide, fun h => by cases h⟩
theorem liveM : tdoAll 1 (liveL.take 1) = [⟨liveS.lo 1, liveS.hi 1, 4⟩] := rfl
theorem liveU : UniqK [⟨liveS.lo 1, liveS.hi 1, 4⟩] := fun e he e' he' _ _ => by rw [List.mem_singleton.1 he, List.mem_singleton.1 he']
theorem liveOk (R : HP) : ∀ k x, liveL[k]? = some x → OpOk 1 R (tdoAll 1 (liveL.take k)) x := by
  intro k x hx
  match k with
  | 0 =>
    have : insOp liveS 4 = x := Option.some.inj hx
    subst this
    exact ⟨.inl rfl, liveSn, Nat.zero_le _, (fun h => by cases h), (fun h => by cases h), (fun h => by cases h)⟩
  | 1 =>
    have : TO.bare ⟨3, ⟨#[97]⟩, ⟨#[99]⟩, false, 0, 0, 0, 0, .slice none 0 0, .slice none 0 0⟩ = x := Option.some.inj hx
    subst this
    rw [liveM]
    exact ⟨(by refine .inr ?_; first | rfl | exact .inl rfl), liveSn, (by show 1 ≤ 10000000; decide), (fun _ => liveU), (fun h => by cases h), (fun h => by cases h)⟩
  | k + 2 => cases hx
theorem liveAns : findX 1 [⟨liveS.lo 1, liveS.hi 1, 4⟩] (liveS.lo 1) (liveS.hi 1) = liveX := findX_hit liveU (List.mem_singleton.2 rfl) rfl rfl
theorem liveTo {R : HP} {A : List TA} {a : TA} (h : AnsTo 1 R liveL A) (ha : A[1]? = some a) : AnsAt R a liveX := by
  have := h 1 a _ ha rfl
  rw [liveM] at this
  rw [← liveAns]
  exact this


set_option maxHeartbeats 8000000 in
theorem lwLive (R : HP) :
    Tri Try.prog 32 #[] R [] (fun v__ post__ => v__ = (vB true) ∧ post__ = []) := by
 refine Tri.into (n := 37) (al := []) func32 rfl ntmps32 rfl rfl fun w F H => ?_
 refine cr fun _ hK1_ => ?_
 refine sv (v := (vB false)) (x_assign rfl) ?_
 refine wn (hK1_ _ _ ?_)
 refine cr fun _ hK2_ => ?_
 refine sv (v := (vA #[(Value.string (ByteArray.mk #[97])), (Value.string (ByteArray.mk #[99])), (vB false)])) (by kernel_rfl) ?_
 refine sv (v := (vA #[(Value.string (ByteArray.mk #[97])), (Value.string (ByteArray.mk #[99])), (vB false), (vI .i64 0), (vI .i64 0)])) (by kernel_rfl) ?_
 refine S_list (T_alloc z44 H ?_)
 intro b3_ w4_ S6_ H5_
 have S7_ := Same.trans (Same.refl w) S6_
 refine S_list0 (T_storeN (vs := [(Value.string (ByteArray.mk #[97])), (Value.string (ByteArray.mk #[99])), (vB false), (vI .i64 0), (vI .i64 0)]) rfl rfl z44 rfl (by simp [Value.oneCell']) H5_ 0 rfl (Nat.le_of_ble_eq_true (by rfl)) ?_)
 intro w8_ S10_ H9_
 have S11_ := Same.trans S7_ S10_
 refine wn (hK2_ _ _ ?_)
 refine cr fun _ hK12_ => ?_
 refine sv (v := (vA #[(Value.string (ByteArray.mk #[97])), (Value.string (ByteArray.mk #[99])), (vB false), (vI .i64 0), (vI .i64 0)])) (x_loadN (vs := [(Value.string (ByteArray.mk #[97])), (Value.string (ByteArray.mk #[99])), (vB false), (vI .i64 0), (vI .i64 0)]) rfl underlying44 rfl z44 rfl (Rd.cells (Holds.rd H9_ 0 rfl) 0 rfl)) ?_
 refine sv (v := (vA #[(vI .i64 1), (Value.string (ByteArray.mk #[97])), (Value.string (ByteArray.mk #[99])), (vB false), (vI .i64 0), (vI .i64 0), (vI .i64 4), (vI .i64 0), (vS none 0 0), (vS none 0 0)])) (by kernel_rfl) ?_
 refine sv (v := (vA #[(Value.string (ByteArray.mk #[97])), (Value.string (ByteArray.mk #[99])), (vB false), (vI .i64 0), (vI .i64 0)])) (x_loadN (vs := [(Value.string (ByteArray.mk #[97])), (Value.string (ByteArray.mk #[99])), (vB false), (vI .i64 0), (vI .i64 0)]) rfl underlying44 rfl z44 rfl (Rd.cells (Holds.rd H9_ 0 rfl) 0 rfl)) ?_
 refine sv (v := (vA #[(vI .i64 3), (Value.string (ByteArray.mk #[97])), (Value.string (ByteArray.mk #[99])), (vB false), (vI .i64 0), (vI .i64 0), (vI .i64 0), (vI .i64 0), (vS none 0 0), (vS none 0 0)])) (by kernel_rfl) ?_
 refine S_list (T_new (obj := .cells #[(vI .i64 1), (Value.string (ByteArray.mk #[97])), (Value.string (ByteArray.mk #[99])), (vB false), (vI .i64 0), (vI .i64 0), (vI .i64 4), (vI .i64 0), (vS none 0 0), (vS none 0 0), (vI .i64 3), (Value.string (ByteArray.mk #[97])), (Value.string (ByteArray.mk #[99])), (vB false), (vI .i64 0), (vI .i64 0), (vI .i64 0), (vI .i64 0), (vS none 0 0), (vS none 0 0)] 63) (f := fun b__ => .slice (some ⟨b__, 0, none⟩) 2 2) (A := fun b__ => cl b__ 63 [(vI .i64 1), (Value.string (ByteArray.mk #[97])), (Value.string (ByteArray.mk #[99])), (vB false), (vI .i64 0), (vI .i64 0), (vI .i64 4), (vI .i64 0), (vS none 0 0), (vS none 0 0), (vI .i64 3), (Value.string (ByteArray.mk #[97])), (Value.string (ByteArray.mk #[99])), (vB false), (vI .i64 0), (vI .i64 0), (vI .i64 0), (vI .i64 0), (vS none 0 0), (vS none 0 0)]) (by kernel_rfl) (fun l h => h.alloc _ _) H9_ ?_)
 intro b13_ w14_ S16_ H15_
 have S17_ := Same.trans S11_ S16_
 have H18_ := ((Holds.bring H15_ 2 rfl) :)
 obtain ⟨R19_, hs20_, ⟨R21_, ha22_, hs23_⟩, H24_⟩ := Holds.gift H18_
 have hr25_ : RS R19_ 10 (vS (some ⟨b13_, 0, none⟩) 2 2) 2 (liveL.flatMap TX.cells) := (RS.set_ (cl_RSn (sz := 10) ha22_ (Sub.rfl' _) (by rfl) (by omega)) rfl rfl).mono hs23_
 refine S_list (T_callG (al := [(vI .i64 1), ((vS (some ⟨b13_, 0, none⟩) 2 2))]) (pre := []) rfl (lcons rfl (lcons (rfl : (vS (some ⟨b13_, 0, none⟩) 2 2) = ((vS (some ⟨b13_, 0, none⟩) 2 2))) rfl)) cb35 (tdTree R19_ 1 (vS (some ⟨b13_, 0, none⟩) 2 2) liveL (RS.set_ hr25_ rfl (by first | rfl | omega | (simp; done) | (simp; omega))) (by decide) (liveOk R19_)) H24_ ?_)
 rintro R27_ v28_ p36_ w33_ hs26_ ⟨_, A29_, rfl, rfl, he30_, he31_, he32_⟩ S35_ H34_
 have S37_ := Same.trans S17_ S35_
 have hz_R_R27_ := Sub.trans' hs20_ hs26_
 have hAl_ := he31_
 have hll_ : liveL.length = 2 := rfl
 have hlv_ : liveX.V.length = 1 := rfl
 refine sv (v := v28_) (x_assign rfl) ?_
 refine wn (hK12_ _ _ ?_)
 refine cr fun _ hK38_ => ?_
 refine sv (v := v28_) (x_move rfl) ?_
 refine sv (v := (vI .i64 ((List.length A29_) : Int))) (x_lenRS rfl he30_ underlying71) ?_
 refine sv (v := (vB (decide (((List.length A29_) : Int) = 2)))) (x_bin rfl rfl rfl) ?_
 refine sv (v := (vB (decide (((List.length A29_) : Int) = 2)))) (x_move rfl) ?_
 rcases Bool.eq_false_or_eq_true (decide (((List.length A29_) : Int) = 2)) with c39_t | c39_f
 ·have c39_tp : ((List.length A29_) : Int) = 2 := of_decide_eq_true c39_t
  refine S_yes (j := 3) (dj := 14) (b := true) rfl rfl (congrArg vB c39_t) (T_val (v := v28_) (x_move rfl) ?_)
  obtain ⟨x40_, hx41_, hm42_⟩ := elem_at A29_ 1 (by omega)
  have hAa43_ := liveTo (he32_) hx41_
  have hoa_ : x40_.oK = true := hAa43_.1
  refine S_yes (j := 3) (dj := 14) (b := true) rfl rfl (congrArg vB c39_t) (T_val (v := (vP (some ⟨(sb v28_), so v28_ + (5 + 0), none⟩))) (x_idxRS (v := v28_) rfl he30_ rfl underlying71 z59 (by omega) (by omega) (by omega : _ = 1) rfl) ?_)
  refine S_yes (j := 3) (dj := 14) (b := true) rfl rfl (congrArg vB c39_t) (T_val (v := (vP (some ⟨(sb v28_), so v28_ + (5 + 0), none⟩))) (by kernel_rfl) ?_)
  refine S_yes (j := 3) (dj := 14) (b := true) rfl rfl (congrArg vB c39_t) (T_val (v := (vB x40_.oK)) (x_load1 rfl underlying4 rfl (RC.cell (RS.rc he30_) (Holds.ro_at H34_ 0 rfl) (j := 5 + 0) (u := (vB x40_.oK)) (fm_cell TA.len hx41_ (i := 0) rfl))) ?_)
  refine S_list (T_pickT (v := (vB x40_.oK)) (congrArg vB c39_t) rfl ?_)
  refine sm (vB x40_.oK) ?_
  rcases Bool.eq_false_or_eq_true (x40_.oK) with c44_t | c44_f
  ·skip
   refine S_yes (j := 9) (dj := 20) (b := true) rfl rfl (congrArg vB c44_t) (T_val (v := v28_) (x_move rfl) ?_)
   refine S_yes (j := 9) (dj := 20) (b := true) rfl rfl (congrArg vB c44_t) (T_val (v := (vP (some ⟨(sb v28_), so v28_ + (5 + 0), none⟩))) (x_idxRS (v := v28_) rfl he30_ rfl underlying71 z59 (by omega) (by omega) (by omega : _ = 1) rfl) ?_)
   refine S_yes (j := 9) (dj := 20) (b := true) rfl rfl (congrArg vB c44_t) (T_val (v := (vP (some ⟨(sb v28_), so v28_ + (5 + 4), none⟩))) (by kernel_rfl) ?_)
   refine S_yes (j := 9) (dj := 20) (b := true) rfl rfl (congrArg vB c44_t) (T_val (v := x40_.vals) (x_load1 rfl underlying35 rfl (RC.cell (RS.rc he30_) (Holds.ro_at H34_ 0 rfl) (j := 5 + 4) (u := x40_.vals) (fm_cell TA.len hx41_ (i := 4) rfl))) ?_)
   refine S_yes (j := 9) (dj := 20) (b := true) rfl rfl (congrArg vB c44_t) (T_val (v := (vI .i64 ((List.length liveX.V) : Int))) (x_lenRS rfl (hAa43_.2.2.2) underlying35) ?_)
   refine S_yes (j := 9) (dj := 20) (b := true) rfl rfl (congrArg vB c44_t) (T_val (v := (vB (decide (((List.length liveX.V) : Int) = 1)))) (x_bin rfl rfl rfl) ?_)
   refine S_list (T_pickT (v := (vB (decide (((List.length liveX.V) : Int) = 1)))) (congrArg vB c44_t) rfl ?_)
   refine sv (v := (vB (decide (((List.length liveX.V) : Int) = 1)))) (x_move rfl) ?_
   rcases Bool.eq_false_or_eq_true (decide (((List.length liveX.V) : Int) = 1)) with c45_t | c45_f
   ·have c45_tp : ((List.length liveX.V) : Int) = 1 := of_decide_eq_true c45_t
    refine S_yes (j := 17) (dj := 28) (b := true) rfl rfl (congrArg vB c45_t) (T_val (v := v28_) (x_move rfl) ?_)
    refine S_yes (j := 17) (dj := 28) (b := true) rfl rfl (congrArg vB c45_t) (T_val (v := (vP (some ⟨(sb v28_), so v28_ + (5 + 0), none⟩))) (x_idxRS (v := v28_) rfl he30_ rfl underlying71 z59 (by omega) (by omega) (by omega : _ = 1) rfl) ?_)
    refine S_yes (j := 17) (dj := 28) (b := true) rfl rfl (congrArg vB c45_t) (T_val (v := (vP (some ⟨(sb v28_), so v28_ + (5 + 4), none⟩))) (by kernel_rfl) ?_)
    refine S_yes (j := 17) (dj := 28) (b := true) rfl rfl (congrArg vB c45_t) (T_val (v := x40_.vals) (x_load1 rfl underlying35 rfl (RC.cell (RS.rc he30_) (Holds.ro_at H34_ 0 rfl) (j := 5 + 4) (u := x40_.vals) (fm_cell TA.len hx41_ (i := 4) rfl))) ?_)
    obtain ⟨x46_, hx47_, hm48_⟩ := elem_at liveX.V 0 (by omega)
    have hv4_ : x46_ = 4 := (Option.some.inj hx47_).symm
    refine S_yes (j := 17) (dj := 28) (b := true) rfl rfl (congrArg vB c45_t) (T_val (v := (vP (some ⟨(sb x40_.vals), so x40_.vals + 0, none⟩))) (x_idxRS (v := x40_.vals) rfl (hAa43_.2.2.2) rfl underlying35 z3 (by omega) (by omega) (by omega : _ = 0) (by rw [Nat.mul_one])) ?_)
    refine S_yes (j := 17) (dj := 28) (b := true) rfl rfl (congrArg vB c45_t) (T_val (v := (vI .i64 x46_)) (x_load1 rfl underlying3 rfl (RC.cell (RS.rc (hAa43_.2.2.2)) (Holds.ro_at H34_ 0 rfl) (j := 0) (u := (vI .i64 x46_)) ((map_at hx47_)))) ?_)
    refine S_yes (j := 17) (dj := 28) (b := true) rfl rfl (congrArg vB c45_t) (T_val (v := (vB (decide (x46_ = 4)))) (x_bin rfl rfl rfl) ?_)
    refine S_list (T_pickT (v := (vB (decide (x46_ = 4)))) (congrArg vB c45_t) rfl ?_)
    refine sv (v := (vB (decide (x46_ = 4)))) (x_assign rfl) ?_
    refine wn (hK38_ _ _ ?_)
    refine C_ret ?_
    refine R_any (v := (vB (decide (x46_ = 4)))) (run_results1 rfl rfl) ?_
    have H49_ : Holds w33_ (ro R :: cl b3_ 44 [(Value.string (ByteArray.mk #[97])), (Value.string (ByteArray.mk #[99])), (vB false), (vI .i64 0), (vI .i64 0)] :: F) := Holds.ro_less H34_ hz_R_R27_
    have H50_ := Holds.pkF H49_ [0] 1
    exact ⟨_, _, rfl, ⟨(congrArg vB ((by have h__ := hv4_; rw [h__]; rfl) : (decide (x46_ = 4)) = true)), rfl⟩, S37_, H50_⟩
   ·have c45_fp : ¬ (((List.length liveX.V) : Int) = 1) := of_decide_eq_false c45_f
    omega
  ·skip
   exact absurd hoa_ (by rw [c44_f]; decide)
 ·have c39_fp : ¬ (((List.length A29_) : Int) = 2) := of_decide_eq_false c39_f
  omega

end Go.Proofs.Ytlnihndjepjagaa
set_option linter.unusedVariables false
set_option linter.unusedSimpArgs false
namespace Go.Proofs.Ytlnihndjepjagaa
open Go Go.RowKit Gw Try
open Go.Value renaming int → vI, bool → vB, slice → vS, pointer → vP, agg → vA, tuple → vT

theorem all_ins {ord : Int} : ∀ (l : List TX) (M : List IE), (∀ x ∈ l, x.q.kind = 1) → l.foldl (tdoM ord) M = insAll ord M (ieL ord (l.map (fun x => x.q.sn)) (l.map (fun x => x.q.val)))
  | [], M, _ => rfl
  | x :: l, M, h => by
    show l.foldl (tdoM ord) (tdoM ord M x) = insAll ord (insK ord ⟨x.q.sn.lo ord, x.q.sn.hi ord, x.q.val⟩ M) (ieL ord (l.map (fun x => x.q.sn)) (l.map (fun x => x.q.val)))
    rw [all_ins l _ (fun y hy => h y (by simp [hy]))]
    unfold tdoM
    rw [if_pos (h x (by simp))]
def zeroOp : TX := TO.bare ⟨8, ⟨#[]⟩, ⟨#[]⟩, false, 0, 0, 0, 0, .slice none 0 0, .slice none 0 0⟩
def uniOp (s : SN) (uo uv : Value) (O2 : List TX) : TX := ⟨⟨10, s.in__Begin, s.in__End, s.in__Point, s.from_, s.till, 0, 0, uo, uv⟩, O2.map (fun x => x.q.sn), O2.map (fun x => x.q.val)⟩
theorem zero_sn (ord : Int) (ho : 0 ≤ ord ∧ ord ≤ 3) : SnOk ord zeroOp.q.sn := ⟨ho, Nat.zero_le _, Nat.zero_le _, fun _ => ⟨rfl, by decide, by decide, by decide, by decide⟩⟩
theorem uni_at {α : Type} {O : List α} {u z x : α} {k : Nat} (h : (O ++ [u, z])[k]? = some x) : (k < O.length ∧ O[k]? = some x) ∨ (k = O.length ∧ x = u) ∨ (k = O.length + 1 ∧ x = z) := by
  by_cases hk : k < O.length
  · rw [List.getElem?_append_left hk] at h
    exact .inl ⟨hk, h⟩
  · rw [List.getElem?_append_right (by omega)] at h
    match hd : k - O.length with
    | 0 => rw [hd] at h; exact .inr (.inl ⟨by omega, (Option.some.inj h).symm⟩)
    | 1 => rw [hd] at h; exact .inr (.inr ⟨by omega, (Option.some.inj h).symm⟩)
    | j + 2 => rw [hd] at h; cases h
theorem take_u {α : Type} {O : List α} {u z : α} : (O ++ [u, z]).take O.length = O := by rw [List.take_append_of_le_length (Nat.le_refl _), List.take_length]
theorem take_z {α : Type} {O : List α} {u z : α} : (O ++ [u, z]).take (O.length + 1) = O ++ [u] := by
  rw [show O ++ [u, z] = (O ++ [u]) ++ [z] by simp, List.take_append_of_le_length (by simp), List.take_of_length_le (by simp)]
theorem uni_M {ord : Int} {O O2 : List TX} {P P2 : List PN} {s : SN} {uo uv : Value} (h : Fil ord O P) (h2 : Fil ord O2 P2) : tdoAll ord (O ++ [uniOp s uo uv O2]) = insAll ord (P.map (PN.ie ord)) ((P2.filter (fun x => sMeet ord x.sn s)).map (PN.ie ord)) := by
  have e1 : insAll ord [] (ieL ord (O2.map (fun x => x.q.sn)) (O2.map (fun x => x.q.val))) = P2.map (PN.ie ord) := by
    rw [← all_ins O2 [] (fun x hx => (h2.o x hx).1)]
    exact h2.t
  have e2 : (P2.map (PN.ie ord)).filter (meetK ord (s.lo ord) (s.hi ord)) = (P2.filter (fun x => sMeet ord x.sn s)).map (PN.ie ord) := by
    rw [List.filter_map]
    congr 1
    congr 1
    funext x
    unfold meetK sMeet PN.ie
    rfl
  unfold tdoAll
  rw [List.foldl_append]
  show tdoM ord (tdoAll ord O) (uniOp s uo uv O2) = _
  rw [h.t]
  show insAll ord (P.map (PN.ie ord)) (List.filter (meetK ord (s.lo ord) (s.hi ord)) (insAll ord [] (ieL ord (O2.map (fun x => x.q.sn)) (O2.map (fun x => x.q.val))))) = _
  rw [e1, e2]
theorem uni_ok {ord : Int} {R : HP} {O O2 : List TX} {P P2 : List PN} {s : SN} {uo uv : Value} (h : Fil ord O P) (h2 : Fil ord O2 P2) (ho : 0 ≤ ord ∧ ord ≤ 3) (hl : P.length ≤ 200) (hl2 : P2.length ≤ 200) (hb : spanB ord s = true) (hz : SSz s)
    (hu : RS R 5 uo (List.length (O2.map (fun x => x.q.sn))) ((O2.map (fun x => x.q.sn)).flatMap SN.cells)) (hv : RS R 1 uv (List.length (O2.map (fun x => x.q.val))) ((O2.map (fun x => x.q.val)).map (vI .i64))) :
    ∀ k x, (O ++ [uniOp s uo uv O2, zeroOp])[k]? = some x → OpOk ord R (tdoAll ord ((O ++ [uniOp s uo uv O2, zeroOp]).take k)) x := by
  intro k x hx
  have hol := h.len
  have hol2 := h2.len
  rcases uni_at hx with ⟨hk, h1⟩ | ⟨hk, h1⟩ | ⟨hk, h1⟩
  · rw [List.take_append_of_le_length (by omega)]
    exact h.op ho (by omega) k x h1
  · subst hk; subst h1
    rw [take_u]
    have hs : ∀ t ∈ O2.map (fun x => x.q.sn), SnOk ord t ∧ ecm ord (t.lo ord) (t.hi ord) < 0 := by
      intro t ht
      obtain ⟨y, hy, rfl⟩ := List.mem_map.1 ht
      obtain ⟨_, h3, h4⟩ := h2.o y hy
      exact ⟨spanB_ok h3 ho h4.1 h4.2, spanB_prp h3⟩
    exact ⟨(by have h__ : (uniOp s uo uv O2).q.kind = 10 := rfl; omega), spanB_ok hb ho hz.1 hz.2, h.mlen hl, (fun h => by cases h), (fun h => by cases h), fun _ => ⟨hu, hv, ⟨by show (O2.map _).length = (O2.map _).length; simp, by show (O2.map _).length ≤ 1000; simp; omega⟩, (fun t ht => (hs t ht).1), (fun t ht => (hs t ht).2), spanB_prp hb⟩⟩
  · subst hk; subst h1
    rw [take_z, uni_M h h2]
    have h5 := List.length_filter_le (fun x : PN => sMeet ord x.sn s) P2
    exact ⟨(by have h__ : zeroOp.q.kind = 8 := rfl; omega), zero_sn ord ho, by rw [insAll_len, List.length_map, List.length_map]; omega, (fun h => by cases h), (fun h => by cases h), (fun h => by cases h)⟩
theorem uni_ans {ord : Int} {R : HP} {O O2 : List TX} {P P2 : List PN} {s : SN} {uo uv : Value} {A : List TA} {a : TA} (h : Fil ord O P) (h2 : Fil ord O2 P2) (hA : AnsTo ord R (O ++ [uniOp s uo uv O2, zeroOp]) A) (ha : A[O.length + 1]? = some a) :
    a.n = (P.length : Int) + ((P2.filter (fun x => sMeet ord x.sn s)).length : Int) := by
  have hx : (O ++ [uniOp s uo uv O2, zeroOp])[O.length + 1]? = some zeroOp := by
    rw [List.getElem?_append_right (by omega), show O.length + 1 - O.length = 1 by omega]; rfl
  have := (hA (O.length + 1) a zeroOp ha hx).2.1
  rw [take_z, uni_M h h2] at this
  rw [this]
  show ((insAll ord (P.map (PN.ie ord)) ((P2.filter (fun x => sMeet ord x.sn s)).map (PN.ie ord))).length : Int) = _
  rw [insAll_len, List.length_map, List.length_map]
  rfl

theorem ones_fil {ord : Int} {O : List TX} {P : List PN} (h : Fil ord O P) : ∀ u ∈ O.flatMap TX.cells, u.oneCell' = true := by
  intro u hu
  obtain ⟨x, hx, h1⟩ := List.mem_flatMap.1 hu
  obtain ⟨h2, h3⟩ := h.n x hx
  have h4 : u ∈ x.q.cells := h1
  unfold TO.cells at h4
  rw [h2, h3] at h4
  simp only [List.mem_cons, List.not_mem_nil, or_false] at h4
  rcases h4 with h | h | h | h | h | h | h | h | h | h <;> subst h <;> rfl


set_option maxHeartbeats 16000000 in
theorem fnTreeUnion (R : HP) (ord : Int) (v v2 : Value) (l l2 : List SN) (q : SN) (hv : RS R 5 v (List.length l) (l.flatMap SN.cells)) (hv2 : RS R 5 v2 (List.length l2) (l2.flatMap SN.cells)) :
    Tri Try.prog 8 #[(vI .i64 ord), v, v2, (vA #[(Value.string q.in__Begin), (Value.string q.in__End), (vB q.in__Point), (vI .i64 q.from_), (vI .i64 q.till)])] R [] (fun v__ post__ => v__ = (vB true) ∧ post__ = []) := by
 refine Tri.into (n := 121) (al := [(vI .i64 ord), v, v2, (vA #[(Value.string q.in__Begin), (Value.string q.in__End), (vB q.in__Point), (vI .i64 q.from_), (vI .i64 q.till)])]) func8 rfl ntmps8 rfl rfl fun w F H => ?_
 refine cr fun _ hK1_ => ?_
 refine S_list (T_box (v := (vA #[(Value.string q.in__Begin), (Value.string q.in__End), (vB q.in__Point), (vI .i64 q.from_), (vI .i64 q.till)])) rfl H ?_)
 intro b2_ w3_ S5_ H4_
 have S6_ := Same.trans (Same.refl w) S5_
 refine sv (v := (vB false)) (x_assign rfl) ?_
 refine wn (hK1_ _ _ ?_)
 refine C_seq (fun _ hK7_ => ?_)
 refine cr fun _ hK8_ => ?_
 refine sv (v := v) (x_move rfl) ?_
 have H12_ := ((Holds.bring H4_ 1 rfl) :)
 refine S_list (T_call (al := [v]) (pre := []) rfl rfl cb28 (lwFits38 R v l hv) H12_ ?_)
 rintro v9_ p16_ w13_ ⟨b10_, rfl, rfl, he11_⟩ S15_ H14_
 have S17_ := Same.trans S6_ S15_
 refine sv (v := (vB (!b10_))) (x_not rfl) ?_
 refine sm (vB (!b10_)) ?_
 rcases Bool.eq_false_or_eq_true (!b10_) with c18_t | c18_f
 ·skip
  refine S_no (j := 3) (dj := 23) (b := true) rfl rfl (congrArg vB c18_t) (by decide) ?_
  refine S_no (j := 3) (dj := 23) (b := true) rfl rfl (congrArg vB c18_t) (by decide) ?_
  refine S_no (j := 3) (dj := 23) (b := true) rfl rfl (congrArg vB c18_t) (by decide) ?_
  refine S_list (T_pickT (v := (vB true)) (congrArg vB c18_t) rfl ?_)
  refine sm (vB true) ?_
  refine S_no (j := 8) (dj := 28) (b := true) rfl rfl rfl (by decide) ?_
  refine S_no (j := 8) (dj := 28) (b := true) rfl rfl rfl (by decide) ?_
  refine S_no (j := 8) (dj := 28) (b := true) rfl rfl rfl (by decide) ?_
  refine S_list (T_pickT (v := (vB true)) rfl rfl ?_)
  refine wn (hK8_ _ _ ?_)
  refine C_condT rfl ?_
  refine cr fun _ hK19_ => ?_
  refine sv (v := (vB true)) (x_assign rfl) ?_
  refine wn (hK19_ _ _ ?_)
  refine C_ret (X_thenR ?_)
  refine R_any (v := (vB true)) (run_results1 rfl rfl) ?_
  have H20_ := Holds.pkF H14_ [0] 1
  exact ⟨_, _, rfl, ⟨rfl, rfl⟩, S17_, H20_⟩
 ·skip
  refine S_yes (j := 3) (dj := 23) (b := false) rfl rfl (congrArg vB c18_f) (T_val (v := v2) (x_move rfl) ?_)
  refine S_yes (j := 3) (dj := 23) (b := false) rfl rfl (congrArg vB c18_f) (T_call (al := [v2]) (pre := []) rfl rfl cb28 (lwFits38 R v2 l2 hv2) H14_ ?_)
  rintro v21_ p27_ w24_ ⟨b22_, rfl, rfl, he23_⟩ S26_ H25_
  have S28_ := Same.trans S17_ S26_
  refine S_yes (j := 3) (dj := 23) (b := false) rfl rfl (congrArg vB c18_f) (T_val (v := (vB (!b22_))) (x_not rfl) ?_)
  refine S_list (T_pickF (v := (vB (!b22_))) (congrArg vB c18_f) rfl ?_)
  refine sm (vB (!b22_)) ?_
  rcases Bool.eq_false_or_eq_true (!b22_) with c29_t | c29_f
  ·skip
   refine S_no (j := 8) (dj := 28) (b := true) rfl rfl (congrArg vB c29_t) (by decide) ?_
   refine S_no (j := 8) (dj := 28) (b := true) rfl rfl (congrArg vB c29_t) (by decide) ?_
   refine S_no (j := 8) (dj := 28) (b := true) rfl rfl (congrArg vB c29_t) (by decide) ?_
   refine S_list (T_pickT (v := (vB true)) (congrArg vB c29_t) rfl ?_)
   refine wn (hK8_ _ _ ?_)
   refine C_condT rfl ?_
   refine cr fun _ hK30_ => ?_
   refine sv (v := (vB true)) (x_assign rfl) ?_
   refine wn (hK30_ _ _ ?_)
   refine C_ret (X_thenR ?_)
   refine R_any (v := (vB true)) (run_results1 rfl rfl) ?_
   have H31_ := Holds.pkF H25_ [0] 1
   exact ⟨_, _, rfl, ⟨rfl, rfl⟩, S28_, H31_⟩
  ·skip
   refine S_yes (j := 8) (dj := 28) (b := false) rfl rfl (congrArg vB c29_f) (T_val (v := (vA #[(Value.string q.in__Begin), (Value.string q.in__End), (vB q.in__Point), (vI .i64 q.from_), (vI .i64 q.till)])) (x_loadN (vs := [(Value.string q.in__Begin), (Value.string q.in__End), (vB q.in__Point), (vI .i64 q.from_), (vI .i64 q.till)]) rfl underlying44 rfl z44 rfl (Rd.cells (Holds.rd H25_ 1 rfl) 0 rfl)) ?_)
   refine S_yes (j := 8) (dj := 28) (b := false) rfl rfl (congrArg vB c29_f) (T_call (al := [(vA #[(Value.string q.in__Begin), (Value.string q.in__End), (vB q.in__Point), (vI .i64 q.from_), (vI .i64 q.till)])]) (pre := []) rfl rfl cb29 (lwFits36 R q) H25_ ?_)
   rintro v32_ p38_ w35_ ⟨b33_, rfl, rfl, he34_⟩ S37_ H36_
   have S39_ := Same.trans S28_ S37_
   refine S_yes (j := 8) (dj := 28) (b := false) rfl rfl (congrArg vB c29_f) (T_val (v := (vB (!b33_))) (x_not rfl) ?_)
   refine S_list (T_pickF (v := (vB (!b33_))) (congrArg vB c29_f) rfl ?_)
   refine wn (hK8_ _ _ ?_)
   refine C_cond (b := !b33_) rfl (fun c40_t => ?_) (fun c40_f => ?_)
   ·skip
    refine cr fun _ hK41_ => ?_
    refine sv (v := (vB true)) (x_assign rfl) ?_
    refine wn (hK41_ _ _ ?_)
    refine C_ret (X_thenR ?_)
    refine R_any (v := (vB true)) (run_results1 rfl rfl) ?_
    have H42_ := Holds.pkF H36_ [0] 1
    exact ⟨_, _, rfl, ⟨rfl, rfl⟩, S39_, H42_⟩
   ·skip
    refine C_skip (X_then (hK7_ _ _ ?_))
    refine cr fun _ hK43_ => ?_
    refine sm (vI .i64 ord) ?_
    refine sv (v := v) (x_move rfl) ?_
    have hf80_ := he11_ (by simpa using c18_f)
    refine S_list (T_callG (al := [(vI .i64 ord), v]) (pre := []) rfl rfl cb33 (lwFill R ord v l hv (hf80_.2) (hf80_.1)) H36_ ?_)
    rintro R45_ v46_ p61_ w58_ hs44_ hq62_ S60_ H59_
    rcases hq62_ with ⟨rfl, rfl⟩ | ⟨oa47_, oc48_, O49_, pb50_, pv51_, P52_, b53_, rfl, rfl, he54_, he55_, he56_, he57_⟩
    ·skip
     have S63_ := Same.trans S39_ S60_
     refine sm (vT #[(vS none 0 0), (vP none), (vB false)]) ?_
     refine sv (v := (vS none 0 0)) (by kernel_rfl) ?_
     refine sv (v := (vP none)) (by kernel_rfl) ?_
     refine sv (v := (vB false)) (by kernel_rfl) ?_
     refine sv (v := (vS none 0 0)) (x_assign rfl) ?_
     refine sv (v := (vP none)) (x_assign rfl) ?_
     refine sv (v := (vB false)) (x_assign rfl) ?_
     refine wn (hK43_ _ _ ?_)
     refine cr fun _ hK65_ => ?_
     refine sm (vI .i64 ord) ?_
     refine sv (v := v2) (x_move rfl) ?_
     have hf81_ := he23_ (by simpa using c29_f)
     have hf6_ := he34_ (by simpa using c40_f)
     refine S_list (T_callG (al := [(vI .i64 ord), v2]) (pre := []) rfl rfl cb33 (lwFill R45_ ord v2 l2 (RS.mono hv2 hs44_) (hf81_.2) (hf81_.1)) H59_ ?_)
     rintro R67_ v68_ p83_ w80_ hs66_ hq84_ S82_ H81_
     rcases hq84_ with ⟨rfl, rfl⟩ | ⟨oa69_, oc70_, O71_, pb72_, pv73_, P74_, b75_, rfl, rfl, he76_, he77_, he78_, he79_⟩
     ·skip
      have S85_ := Same.trans S63_ S82_
      have hz_R_R67_ := Sub.trans' hs44_ hs66_
      refine sm (vT #[(vS none 0 0), (vP none), (vB false)]) ?_
      refine sv (v := (vS none 0 0)) (by kernel_rfl) ?_
      refine sv (v := (vP none)) (by kernel_rfl) ?_
      refine sv (v := (vB false)) (by kernel_rfl) ?_
      refine sv (v := (vS none 0 0)) (x_assign rfl) ?_
      refine sv (v := (vP none)) (x_assign rfl) ?_
      refine sv (v := (vB false)) (x_assign rfl) ?_
      refine wn (hK65_ _ _ ?_)
      refine C_seq (fun _ hK87_ => ?_)
      refine cr fun _ hK88_ => ?_
      refine sm (vB false) ?_
      refine sv (v := (vB true)) (x_cast (x_not (b := false) rfl) rfl) ?_
      refine sm (vB true) ?_
      refine S_no (j := 2) (dj := 49) (b := true) rfl rfl rfl (by decide) ?_
      refine S_no (j := 2) (dj := 49) (b := true) rfl rfl rfl (by decide) ?_
      refine S_list (T_pickT (v := (vB true)) rfl rfl ?_)
      refine sm (vB true) ?_
      refine S_no (j := 6) (dj := 53) (b := true) rfl rfl rfl (by decide) ?_
      refine S_no (j := 6) (dj := 53) (b := true) rfl rfl rfl (by decide) ?_
      refine S_no (j := 6) (dj := 53) (b := true) rfl rfl rfl (by decide) ?_
      refine S_no (j := 6) (dj := 53) (b := true) rfl rfl rfl (by decide) ?_
      refine S_no (j := 6) (dj := 53) (b := true) rfl rfl rfl (by decide) ?_
      refine S_list (T_pickT (v := (vB true)) rfl rfl ?_)
      refine wn (hK88_ _ _ ?_)
      refine C_condT rfl ?_
      refine cr fun _ hK89_ => ?_
      refine S_list (T_call (al := []) (pre := []) rfl rfl cb32 (lwLive R67_) H81_ ?_)
      rintro v90_ p94_ w91_ ⟨rfl, rfl⟩ S93_ H92_
      have S95_ := Same.trans S85_ S93_
      refine sv (v := (vB true)) (x_assign rfl) ?_
      refine wn (hK89_ _ _ ?_)
      refine C_ret (X_thenR ?_)
      refine R_any (v := (vB true)) (run_results1 rfl rfl) ?_
      have H96_ : Holds w91_ (ro R :: cl b2_ 44 [(Value.string q.in__Begin), (Value.string q.in__End), (vB q.in__Point), (vI .i64 q.from_), (vI .i64 q.till)] :: F) := Holds.ro_less H92_ hz_R_R67_
      have H97_ := Holds.pkF H96_ [0] 1
      exact ⟨_, _, rfl, ⟨rfl, rfl⟩, S95_, H97_⟩
     ·skip
      have S86_ := Same.trans S63_ S82_
      have hz_R_R67_ := Sub.trans' hs44_ hs66_
      have hF1_ := he77_
      have hpl1_ := he78_
      have hrg1_ := he79_
      have hol1_ := hF1_.len
      refine sm (vT #[(vS oa69_ (List.length O71_) oc70_), (vQ pb72_), (vB b75_)]) ?_
      refine sv (v := (vS oa69_ (List.length O71_) oc70_)) (by kernel_rfl) ?_
      refine sv (v := (vQ pb72_)) (by kernel_rfl) ?_
      refine sv (v := (vB b75_)) (by kernel_rfl) ?_
      refine sv (v := (vS oa69_ (List.length O71_) oc70_)) (x_assign rfl) ?_
      refine sv (v := (vQ pb72_)) (x_assign rfl) ?_
      refine sv (v := (vB b75_)) (x_assign rfl) ?_
      refine wn (hK65_ _ _ ?_)
      refine C_seq (fun _ hK98_ => ?_)
      refine cr fun _ hK99_ => ?_
      refine sm (vB false) ?_
      refine sv (v := (vB true)) (x_cast (x_not (b := false) rfl) rfl) ?_
      refine sm (vB true) ?_
      refine S_no (j := 2) (dj := 49) (b := true) rfl rfl rfl (by decide) ?_
      refine S_no (j := 2) (dj := 49) (b := true) rfl rfl rfl (by decide) ?_
      refine S_list (T_pickT (v := (vB true)) rfl rfl ?_)
      refine sm (vB true) ?_
      refine S_no (j := 6) (dj := 53) (b := true) rfl rfl rfl (by decide) ?_
      refine S_no (j := 6) (dj := 53) (b := true) rfl rfl rfl (by decide) ?_
      refine S_no (j := 6) (dj := 53) (b := true) rfl rfl rfl (by decide) ?_
      refine S_no (j := 6) (dj := 53) (b := true) rfl rfl rfl (by decide) ?_
      refine S_no (j := 6) (dj := 53) (b := true) rfl rfl rfl (by decide) ?_
      refine S_list (T_pickT (v := (vB true)) rfl rfl ?_)
      refine wn (hK99_ _ _ ?_)
      refine C_condT rfl ?_
      refine cr fun _ hK100_ => ?_
      refine S_list (T_call (al := []) (pre := []) rfl rfl cb32 (lwLive R67_) H81_ ?_)
      rintro v101_ p105_ w102_ ⟨rfl, rfl⟩ S104_ H103_
      have S106_ := Same.trans S86_ S104_
      refine sv (v := (vB true)) (x_assign rfl) ?_
      refine wn (hK100_ _ _ ?_)
      refine C_ret (X_thenR ?_)
      refine R_any (v := (vB true)) (run_results1 rfl rfl) ?_
      have H107_ : Holds w102_ (ro R :: cl pb72_ 75 [(vI .i64 ord), pv73_] :: sl 63 10 (vS oa69_ (List.length O71_) oc70_) (List.length O71_) (O71_.flatMap TX.cells) :: cl b2_ 44 [(Value.string q.in__Begin), (Value.string q.in__End), (vB q.in__Point), (vI .i64 q.from_), (vI .i64 q.till)] :: F) := Holds.ro_less H103_ hz_R_R67_
      have H108_ := Holds.pkF H107_ [0] 3
      exact ⟨_, _, rfl, ⟨rfl, rfl⟩, S106_, H108_⟩
    ·skip
     have S64_ := Same.trans S39_ S60_
     have hF0_ := he55_
     have hpl0_ := he56_
     have hrg0_ := he57_
     have hol0_ := hF0_.len
     refine sm (vT #[(vS oa47_ (List.length O49_) oc48_), (vQ pb50_), (vB b53_)]) ?_
     refine sv (v := (vS oa47_ (List.length O49_) oc48_)) (by kernel_rfl) ?_
     refine sv (v := (vQ pb50_)) (by kernel_rfl) ?_
     refine sv (v := (vB b53_)) (by kernel_rfl) ?_
     refine sv (v := (vS oa47_ (List.length O49_) oc48_)) (x_assign rfl) ?_
     refine sv (v := (vQ pb50_)) (x_assign rfl) ?_
     refine sv (v := (vB b53_)) (x_assign rfl) ?_
     refine wn (hK43_ _ _ ?_)
     refine cr fun _ hK109_ => ?_
     refine sm (vI .i64 ord) ?_
     refine sv (v := v2) (x_move rfl) ?_
     have hf81_ := he23_ (by simpa using c29_f)
     have hf6_ := he34_ (by simpa using c40_f)
     refine S_list (T_callG (al := [(vI .i64 ord), v2]) (pre := []) rfl rfl cb33 (lwFill R45_ ord v2 l2 (RS.mono hv2 hs44_) (hf81_.2) (hf81_.1)) H59_ ?_)
     rintro R111_ v112_ p127_ w124_ hs110_ hq128_ S126_ H125_
     rcases hq128_ with ⟨rfl, rfl⟩ | ⟨oa113_, oc114_, O115_, pb116_, pv117_, P118_, b119_, rfl, rfl, he120_, he121_, he122_, he123_⟩
     ·skip
      have S129_ := Same.trans S64_ S126_
      have hz_R_R111_ := Sub.trans' hs44_ hs110_
      refine sm (vT #[(vS none 0 0), (vP none), (vB false)]) ?_
      refine sv (v := (vS none 0 0)) (by kernel_rfl) ?_
      refine sv (v := (vP none)) (by kernel_rfl) ?_
      refine sv (v := (vB false)) (by kernel_rfl) ?_
      refine sv (v := (vS none 0 0)) (x_assign rfl) ?_
      refine sv (v := (vP none)) (x_assign rfl) ?_
      refine sv (v := (vB false)) (x_assign rfl) ?_
      refine wn (hK109_ _ _ ?_)
      refine C_seq (fun _ hK131_ => ?_)
      refine cr fun _ hK132_ => ?_
      refine sm (vB b53_) ?_
      refine sv (v := (vB (!b53_))) (x_not rfl) ?_
      refine sm (vB (!b53_)) ?_
      rcases Bool.eq_false_or_eq_true (!b53_) with c133_t | c133_f
      ·skip
       refine S_no (j := 2) (dj := 49) (b := true) rfl rfl (congrArg vB c133_t) (by decide) ?_
       refine S_no (j := 2) (dj := 49) (b := true) rfl rfl (congrArg vB c133_t) (by decide) ?_
       refine S_list (T_pickT (v := (vB true)) (congrArg vB c133_t) rfl ?_)
       refine sm (vB true) ?_
       refine S_no (j := 6) (dj := 53) (b := true) rfl rfl rfl (by decide) ?_
       refine S_no (j := 6) (dj := 53) (b := true) rfl rfl rfl (by decide) ?_
       refine S_no (j := 6) (dj := 53) (b := true) rfl rfl rfl (by decide) ?_
       refine S_no (j := 6) (dj := 53) (b := true) rfl rfl rfl (by decide) ?_
       refine S_no (j := 6) (dj := 53) (b := true) rfl rfl rfl (by decide) ?_
       refine S_list (T_pickT (v := (vB true)) rfl rfl ?_)
       refine wn (hK132_ _ _ ?_)
       refine C_condT rfl ?_
       refine cr fun _ hK134_ => ?_
       refine S_list (T_call (al := []) (pre := []) rfl rfl cb32 (lwLive R111_) H125_ ?_)
       rintro v135_ p139_ w136_ ⟨rfl, rfl⟩ S138_ H137_
       have S140_ := Same.trans S129_ S138_
       refine sv (v := (vB true)) (x_assign rfl) ?_
       refine wn (hK134_ _ _ ?_)
       refine C_ret (X_thenR ?_)
       refine R_any (v := (vB true)) (run_results1 rfl rfl) ?_
       have H141_ : Holds w136_ (ro R :: cl pb50_ 75 [(vI .i64 ord), pv51_] :: sl 63 10 (vS oa47_ (List.length O49_) oc48_) (List.length O49_) (O49_.flatMap TX.cells) :: cl b2_ 44 [(Value.string q.in__Begin), (Value.string q.in__End), (vB q.in__Point), (vI .i64 q.from_), (vI .i64 q.till)] :: F) := Holds.ro_less H137_ hz_R_R111_
       have H142_ := Holds.pkF H141_ [0] 3
       exact ⟨_, _, rfl, ⟨rfl, rfl⟩, S140_, H142_⟩
      ·skip
       refine S_yes (j := 2) (dj := 49) (b := false) rfl rfl (congrArg vB c133_f) (T_val (v := (vB false)) (x_move rfl) ?_)
       refine S_yes (j := 2) (dj := 49) (b := false) rfl rfl (congrArg vB c133_f) (T_val (v := (vB true)) (x_cast (x_not (b := false) rfl) rfl) ?_)
       refine S_list (T_pickF (v := (vB true)) (congrArg vB c133_f) rfl ?_)
       refine sm (vB true) ?_
       refine S_no (j := 6) (dj := 53) (b := true) rfl rfl rfl (by decide) ?_
       refine S_no (j := 6) (dj := 53) (b := true) rfl rfl rfl (by decide) ?_
       refine S_no (j := 6) (dj := 53) (b := true) rfl rfl rfl (by decide) ?_
       refine S_no (j := 6) (dj := 53) (b := true) rfl rfl rfl (by decide) ?_
       refine S_no (j := 6) (dj := 53) (b := true) rfl rfl rfl (by decide) ?_
       refine S_list (T_pickT (v := (vB true)) rfl rfl ?_)
       refine wn (hK132_ _ _ ?_)
       refine C_condT rfl ?_
       refine cr fun _ hK143_ => ?_
       refine S_list (T_call (al := []) (pre := []) rfl rfl cb32 (lwLive R111_) H125_ ?_)
       rintro v144_ p148_ w145_ ⟨rfl, rfl⟩ S147_ H146_
       have S149_ := Same.trans S129_ S147_
       refine sv (v := (vB true)) (x_assign rfl) ?_
       refine wn (hK143_ _ _ ?_)
       refine C_ret (X_thenR ?_)
       refine R_any (v := (vB true)) (run_results1 rfl rfl) ?_
       have H150_ : Holds w145_ (ro R :: cl pb50_ 75 [(vI .i64 ord), pv51_] :: sl 63 10 (vS oa47_ (List.length O49_) oc48_) (List.length O49_) (O49_.flatMap TX.cells) :: cl b2_ 44 [(Value.string q.in__Begin), (Value.string q.in__End), (vB q.in__Point), (vI .i64 q.from_), (vI .i64 q.till)] :: F) := Holds.ro_less H146_ hz_R_R111_
       have H151_ := Holds.pkF H150_ [0] 3
       exact ⟨_, _, rfl, ⟨rfl, rfl⟩, S149_, H151_⟩
     ·skip
      have S130_ := Same.trans S64_ S126_
      have hz_R_R111_ := Sub.trans' hs44_ hs110_
      have hF1_ := he121_
      have hpl1_ := he122_
      have hrg1_ := he123_
      have hol1_ := hF1_.len
      refine sm (vT #[(vS oa113_ (List.length O115_) oc114_), (vQ pb116_), (vB b119_)]) ?_
      refine sv (v := (vS oa113_ (List.length O115_) oc114_)) (by kernel_rfl) ?_
      refine sv (v := (vQ pb116_)) (by kernel_rfl) ?_
      refine sv (v := (vB b119_)) (by kernel_rfl) ?_
      refine sv (v := (vS oa113_ (List.length O115_) oc114_)) (x_assign rfl) ?_
      refine sv (v := (vQ pb116_)) (x_assign rfl) ?_
      refine sv (v := (vB b119_)) (x_assign rfl) ?_
      refine wn (hK109_ _ _ ?_)
      refine C_seq (fun _ hK152_ => ?_)
      refine cr fun _ hK153_ => ?_
      refine sm (vB b53_) ?_
      refine sv (v := (vB (!b53_))) (x_not rfl) ?_
      refine sm (vB (!b53_)) ?_
      rcases Bool.eq_false_or_eq_true (!b53_) with c154_t | c154_f
      ·skip
       refine S_no (j := 2) (dj := 49) (b := true) rfl rfl (congrArg vB c154_t) (by decide) ?_
       refine S_no (j := 2) (dj := 49) (b := true) rfl rfl (congrArg vB c154_t) (by decide) ?_
       refine S_list (T_pickT (v := (vB true)) (congrArg vB c154_t) rfl ?_)
       refine sm (vB true) ?_
       refine S_no (j := 6) (dj := 53) (b := true) rfl rfl rfl (by decide) ?_
       refine S_no (j := 6) (dj := 53) (b := true) rfl rfl rfl (by decide) ?_
       refine S_no (j := 6) (dj := 53) (b := true) rfl rfl rfl (by decide) ?_
       refine S_no (j := 6) (dj := 53) (b := true) rfl rfl rfl (by decide) ?_
       refine S_no (j := 6) (dj := 53) (b := true) rfl rfl rfl (by decide) ?_
       refine S_list (T_pickT (v := (vB true)) rfl rfl ?_)
       refine wn (hK153_ _ _ ?_)
       refine C_condT rfl ?_
       refine cr fun _ hK155_ => ?_
       refine S_list (T_call (al := []) (pre := []) rfl rfl cb32 (lwLive R111_) H125_ ?_)
       rintro v156_ p160_ w157_ ⟨rfl, rfl⟩ S159_ H158_
       have S161_ := Same.trans S130_ S159_
       refine sv (v := (vB true)) (x_assign rfl) ?_
       refine wn (hK155_ _ _ ?_)
       refine C_ret (X_thenR ?_)
       refine R_any (v := (vB true)) (run_results1 rfl rfl) ?_
       have H162_ : Holds w157_ (ro R :: cl pb116_ 75 [(vI .i64 ord), pv117_] :: sl 63 10 (vS oa113_ (List.length O115_) oc114_) (List.length O115_) (O115_.flatMap TX.cells) :: cl pb50_ 75 [(vI .i64 ord), pv51_] :: sl 63 10 (vS oa47_ (List.length O49_) oc48_) (List.length O49_) (O49_.flatMap TX.cells) :: cl b2_ 44 [(Value.string q.in__Begin), (Value.string q.in__End), (vB q.in__Point), (vI .i64 q.from_), (vI .i64 q.till)] :: F) := Holds.ro_less H158_ hz_R_R111_
       have H163_ := Holds.pkF H162_ [0] 5
       exact ⟨_, _, rfl, ⟨rfl, rfl⟩, S161_, H163_⟩
      ·skip
       refine S_yes (j := 2) (dj := 49) (b := false) rfl rfl (congrArg vB c154_f) (T_val (v := (vB b119_)) (x_move rfl) ?_)
       refine S_yes (j := 2) (dj := 49) (b := false) rfl rfl (congrArg vB c154_f) (T_val (v := (vB (!b119_))) (x_not rfl) ?_)
       refine S_list (T_pickF (v := (vB (!b119_))) (congrArg vB c154_f) rfl ?_)
       refine sm (vB (!b119_)) ?_
       rcases Bool.eq_false_or_eq_true (!b119_) with c164_t | c164_f
       ·skip
        refine S_no (j := 6) (dj := 53) (b := true) rfl rfl (congrArg vB c164_t) (by decide) ?_
        refine S_no (j := 6) (dj := 53) (b := true) rfl rfl (congrArg vB c164_t) (by decide) ?_
        refine S_no (j := 6) (dj := 53) (b := true) rfl rfl (congrArg vB c164_t) (by decide) ?_
        refine S_no (j := 6) (dj := 53) (b := true) rfl rfl (congrArg vB c164_t) (by decide) ?_
        refine S_no (j := 6) (dj := 53) (b := true) rfl rfl (congrArg vB c164_t) (by decide) ?_
        refine S_list (T_pickT (v := (vB true)) (congrArg vB c164_t) rfl ?_)
        refine wn (hK153_ _ _ ?_)
        refine C_condT rfl ?_
        refine cr fun _ hK165_ => ?_
        refine S_list (T_call (al := []) (pre := []) rfl rfl cb32 (lwLive R111_) H125_ ?_)
        rintro v166_ p170_ w167_ ⟨rfl, rfl⟩ S169_ H168_
        have S171_ := Same.trans S130_ S169_
        refine sv (v := (vB true)) (x_assign rfl) ?_
        refine wn (hK165_ _ _ ?_)
        refine C_ret (X_thenR ?_)
        refine R_any (v := (vB true)) (run_results1 rfl rfl) ?_
        have H172_ : Holds w167_ (ro R :: cl pb116_ 75 [(vI .i64 ord), pv117_] :: sl 63 10 (vS oa113_ (List.length O115_) oc114_) (List.length O115_) (O115_.flatMap TX.cells) :: cl pb50_ 75 [(vI .i64 ord), pv51_] :: sl 63 10 (vS oa47_ (List.length O49_) oc48_) (List.length O49_) (O49_.flatMap TX.cells) :: cl b2_ 44 [(Value.string q.in__Begin), (Value.string q.in__End), (vB q.in__Point), (vI .i64 q.from_), (vI .i64 q.till)] :: F) := Holds.ro_less H168_ hz_R_R111_
        have H173_ := Holds.pkF H172_ [0] 5
        exact ⟨_, _, rfl, ⟨rfl, rfl⟩, S171_, H173_⟩
       ·skip
        refine S_yes (j := 6) (dj := 53) (b := false) rfl rfl (congrArg vB c164_f) (T_val (v := (vI .i64 ord)) (x_move rfl) ?_)
        refine S_yes (j := 6) (dj := 53) (b := false) rfl rfl (congrArg vB c164_f) (T_val (v := (vA #[(Value.string q.in__Begin), (Value.string q.in__End), (vB q.in__Point), (vI .i64 q.from_), (vI .i64 q.till)])) (x_loadN (vs := [(Value.string q.in__Begin), (Value.string q.in__End), (vB q.in__Point), (vI .i64 q.from_), (vI .i64 q.till)]) rfl underlying44 rfl z44 rfl (Rd.cells (Holds.rd H125_ 5 rfl) 0 rfl)) ?_)
        refine S_yes (j := 6) (dj := 53) (b := false) rfl rfl (congrArg vB c164_f) (T_val (v := (vA #[(vI .i64 0), (Value.string q.in__Begin), (Value.string q.in__End), (vB q.in__Point), (vI .i64 q.from_), (vI .i64 q.till), (vI .i64 0), (vI .i64 0), (vS none 0 0), (vS none 0 0)])) (by kernel_rfl) ?_)
        refine S_yes (j := 6) (dj := 53) (b := false) rfl rfl (congrArg vB c164_f) (T_call (al := [(vI .i64 ord), (vA #[(vI .i64 ((⟨0, q.in__Begin, q.in__End, q.in__Point, q.from_, q.till, 0, 0, .slice none 0 0, .slice none 0 0⟩ : TO).kind)), (Value.string ((⟨0, q.in__Begin, q.in__End, q.in__Point, q.from_, q.till, 0, 0, .slice none 0 0, .slice none 0 0⟩ : TO).in__In_Begin)), (Value.string ((⟨0, q.in__Begin, q.in__End, q.in__Point, q.from_, q.till, 0, 0, .slice none 0 0, .slice none 0 0⟩ : TO).in__In_End)), (vB ((⟨0, q.in__Begin, q.in__End, q.in__Point, q.from_, q.till, 0, 0, .slice none 0 0, .slice none 0 0⟩ : TO).in__In_Point)), (vI .i64 ((⟨0, q.in__Begin, q.in__End, q.in__Point, q.from_, q.till, 0, 0, .slice none 0 0, .slice none 0 0⟩ : TO).in__From)), (vI .i64 ((⟨0, q.in__Begin, q.in__End, q.in__Point, q.from_, q.till, 0, 0, .slice none 0 0, .slice none 0 0⟩ : TO).in__Till)), (vI .i64 ((⟨0, q.in__Begin, q.in__End, q.in__Point, q.from_, q.till, 0, 0, .slice none 0 0, .slice none 0 0⟩ : TO).val)), (vI .i64 ((⟨0, q.in__Begin, q.in__End, q.in__Point, q.from_, q.till, 0, 0, .slice none 0 0, .slice none 0 0⟩ : TO).n)), (vS none 0 0), (vS none 0 0)])]) (pre := []) rfl (lcons rfl (lcons (congrArg (fun l => vA (List.toArray l)) (lcons (congrArg (vI .i64) ((by first | rfl | omega | (simp; done) | (simp; omega)) : 0 = (⟨0, q.in__Begin, q.in__End, q.in__Point, q.from_, q.till, 0, 0, .slice none 0 0, .slice none 0 0⟩ : TO).kind)) (lcons (congrArg Value.string ((by first | rfl | omega | (simp; done) | (simp; omega)) : q.in__Begin = ((⟨0, q.in__Begin, q.in__End, q.in__Point, q.from_, q.till, 0, 0, .slice none 0 0, .slice none 0 0⟩ : TO).in__In_Begin))) (lcons (congrArg Value.string ((by first | rfl | omega | (simp; done) | (simp; omega)) : q.in__End = ((⟨0, q.in__Begin, q.in__End, q.in__Point, q.from_, q.till, 0, 0, .slice none 0 0, .slice none 0 0⟩ : TO).in__In_End))) (lcons (congrArg vB ((by first | rfl | omega | (simp; done) | (simp; omega)) : q.in__Point = ((⟨0, q.in__Begin, q.in__End, q.in__Point, q.from_, q.till, 0, 0, .slice none 0 0, .slice none 0 0⟩ : TO).in__In_Point))) (lcons (congrArg (vI .i64) ((by first | rfl | omega | (simp; done) | (simp; omega)) : q.from_ = (⟨0, q.in__Begin, q.in__End, q.in__Point, q.from_, q.till, 0, 0, .slice none 0 0, .slice none 0 0⟩ : TO).in__From)) (lcons (congrArg (vI .i64) ((by first | rfl | omega | (simp; done) | (simp; omega)) : q.till = (⟨0, q.in__Begin, q.in__End, q.in__Point, q.from_, q.till, 0, 0, .slice none 0 0, .slice none 0 0⟩ : TO).in__Till)) (lcons (congrArg (vI .i64) ((by first | rfl | omega | (simp; done) | (simp; omega)) : 0 = (⟨0, q.in__Begin, q.in__End, q.in__Point, q.from_, q.till, 0, 0, .slice none 0 0, .slice none 0 0⟩ : TO).val)) (lcons (congrArg (vI .i64) ((by first | rfl | omega | (simp; done) | (simp; omega)) : 0 = (⟨0, q.in__Begin, q.in__End, q.in__Point, q.from_, q.till, 0, 0, .slice none 0 0, .slice none 0 0⟩ : TO).n)) rfl))))))))) rfl)) cb34 (lwProp R111_ ord (⟨0, q.in__Begin, q.in__End, q.in__Point, q.from_, q.till, 0, 0, .slice none 0 0, .slice none 0 0⟩ : TO) (hf6_.1) (⟨(show (0 : Int) ≠ 8 by decide), (show (0 : Int) ≠ 9 by decide)⟩)) H125_ ?_)
        rintro v174_ p178_ w175_ ⟨rfl, rfl⟩ S177_ H176_
        have S179_ := Same.trans S130_ S177_
        refine S_yes (j := 6) (dj := 53) (b := false) rfl rfl (congrArg vB c164_f) (T_val (v := (vB (!(spanB ord (⟨0, q.in__Begin, q.in__End, q.in__Point, q.from_, q.till, 0, 0, .slice none 0 0, .slice none 0 0⟩ : TO).sn)))) (x_not rfl) ?_)
        refine S_list (T_pickF (v := (vB (!(spanB ord (⟨0, q.in__Begin, q.in__End, q.in__Point, q.from_, q.till, 0, 0, .slice none 0 0, .slice none 0 0⟩ : TO).sn)))) (congrArg vB c164_f) rfl ?_)
        refine wn (hK153_ _ _ ?_)
        refine C_cond (b := !(spanB ord (⟨0, q.in__Begin, q.in__End, q.in__Point, q.from_, q.till, 0, 0, .slice none 0 0, .slice none 0 0⟩ : TO).sn)) rfl (fun c180_t => ?_) (fun c180_f => ?_)
        ·skip
         refine cr fun _ hK181_ => ?_
         refine S_list (T_call (al := []) (pre := []) rfl rfl cb32 (lwLive R111_) H176_ ?_)
         rintro v182_ p186_ w183_ ⟨rfl, rfl⟩ S185_ H184_
         have S187_ := Same.trans S179_ S185_
         refine sv (v := (vB true)) (x_assign rfl) ?_
         refine wn (hK181_ _ _ ?_)
         refine C_ret (X_thenR ?_)
         refine R_any (v := (vB true)) (run_results1 rfl rfl) ?_
         have H188_ : Holds w183_ (ro R :: cl pb116_ 75 [(vI .i64 ord), pv117_] :: sl 63 10 (vS oa113_ (List.length O115_) oc114_) (List.length O115_) (O115_.flatMap TX.cells) :: cl pb50_ 75 [(vI .i64 ord), pv51_] :: sl 63 10 (vS oa47_ (List.length O49_) oc48_) (List.length O49_) (O49_.flatMap TX.cells) :: cl b2_ 44 [(Value.string q.in__Begin), (Value.string q.in__End), (vB q.in__Point), (vI .i64 q.from_), (vI .i64 q.till)] :: F) := Holds.ro_less H184_ hz_R_R111_
         have H189_ := Holds.pkF H188_ [0] 5
         exact ⟨_, _, rfl, ⟨rfl, rfl⟩, S187_, H189_⟩
        ·skip
         refine C_skip (X_then (hK152_ _ _ ?_))
         refine cr fun _ hK190_ => ?_
         refine sv (v := (vA #[(Value.string q.in__Begin), (Value.string q.in__End), (vB q.in__Point), (vI .i64 q.from_), (vI .i64 q.till)])) (x_loadN (vs := [(Value.string q.in__Begin), (Value.string q.in__End), (vB q.in__Point), (vI .i64 q.from_), (vI .i64 q.till)]) rfl underlying44 rfl z44 rfl (Rd.cells (Holds.rd H176_ 5 rfl) 0 rfl)) ?_
         refine sv (v := (vA #[(vI .i64 10), (Value.string q.in__Begin), (Value.string q.in__End), (vB q.in__Point), (vI .i64 q.from_), (vI .i64 q.till), (vI .i64 0), (vI .i64 0), (vS none 0 0), (vS none 0 0)])) (by kernel_rfl) ?_
         refine S_list (T_alloc z63 H176_ ?_)
         intro b191_ w192_ S194_ H193_
         have S195_ := Same.trans S179_ S194_
         refine S_list0 (T_storeN (vs := [(vI .i64 10), (Value.string q.in__Begin), (Value.string q.in__End), (vB q.in__Point), (vI .i64 q.from_), (vI .i64 q.till), (vI .i64 0), (vI .i64 0), (vS none 0 0), (vS none 0 0)]) rfl rfl z63 rfl (by simp [Value.oneCell']) H193_ 0 rfl (Nat.le_of_ble_eq_true (by rfl)) ?_)
         intro w196_ S198_ H197_
         have S199_ := Same.trans S195_ S198_
         refine wn (hK190_ _ _ ?_)
         refine C_seq (fun _ hK200_ => ?_)
         refine cr fun _ hK201_ => ?_
         refine sm (vS oa113_ (List.length O115_) oc114_) ?_
         refine sv (v := (vI .i64 ((List.length O115_) : Int))) (x_lenSl rfl H197_ 3 rfl underlying66) ?_
         refine sm (vI .i64 0) ?_
         refine wn (hK201_ _ _ ?_)
         refine C_block ?_
         have H202_ := ((Holds.bring (Holds.bring H197_ 3 rfl) 2 rfl) :)
         obtain ⟨R203_, hs204_, ⟨R205_, ha206_, hs207_⟩, H208_⟩ := Holds.gift H202_
         have hz_R_R203_ := Sub.trans' hz_R_R111_ hs204_
         have hz_R45__R203_ := Sub.trans' hs110_ hs204_
         have hr209_ : RS R203_ 10 (vS oa113_ (List.length O115_) oc114_) (List.length O115_) (O115_.flatMap TX.cells) := (sl_RS ha206_ (Sub.rfl' _)).mono hs207_
         have hor_ := hrg0_ (by simpa using c154_f)
         have hsp_ : spanB ord q = true := by have h__ := c180_f; rw [Bool.not_eq_false'] at h__; exact h__
         have H210_ : Holds w196_ (sl 44 5 (vS none 0 0) (List.length ([] : List SN)) (([] : List SN).flatMap SN.cells) :: ro R203_ :: cl b191_ 63 [(vI .i64 10), (Value.string q.in__Begin), (Value.string q.in__End), (vB q.in__Point), (vI .i64 q.from_), (vI .i64 q.till), (vI .i64 0), (vI .i64 0), (vS none 0 0), (vS none 0 0)] :: cl pb116_ 75 [(vI .i64 ord), pv117_] :: cl pb50_ 75 [(vI .i64 ord), pv51_] :: sl 63 10 (vS oa47_ (List.length O49_) oc48_) (List.length O49_) (O49_.flatMap TX.cells) :: cl b2_ 44 [(Value.string q.in__Begin), (Value.string q.in__End), (vB q.in__Point), (vI .i64 q.from_), (vI .i64 q.till)] :: F) := Holds.add_nil H208_ 44 5
         have H211_ : Holds w196_ (sl 3 1 (vS none 0 0) (List.length ([] : List Int)) (([] : List Int).map (vI .i64)) :: sl 44 5 (vS none 0 0) (List.length ([] : List SN)) (([] : List SN).flatMap SN.cells) :: ro R203_ :: cl b191_ 63 [(vI .i64 10), (Value.string q.in__Begin), (Value.string q.in__End), (vB q.in__Point), (vI .i64 q.from_), (vI .i64 q.till), (vI .i64 0), (vI .i64 0), (vS none 0 0), (vS none 0 0)] :: cl pb116_ 75 [(vI .i64 ord), pv117_] :: cl pb50_ 75 [(vI .i64 ord), pv51_] :: sl 63 10 (vS oa47_ (List.length O49_) oc48_) (List.length O49_) (O49_.flatMap TX.cells) :: cl b2_ 44 [(Value.string q.in__Begin), (Value.string q.in__End), (vB q.in__Point), (vI .i64 q.from_), (vI .i64 q.till)] :: F) := Holds.add_nil H210_ 3 1
         have H212_ := Holds.resl H211_ 0 rfl ((by first | rfl | (simp [RQ.cells, CM.cells, RT.cells, SN.cells, TO.cells, TA.cells, TX.cells, PN.cells]; done)) : ([] : List Int).map (vI .i64) = (List.map (fun x => x.q.val) (List.take 0 O115_)).map (vI .i64)) ((by first | rfl | omega | (simp; done) | (simp; omega)) : (List.length ([] : List Int)) = (List.length (List.map (fun x => x.q.val) (List.take 0 O115_))))
         have H213_ := Holds.resl H212_ 1 rfl ((by first | rfl | (simp [RQ.cells, CM.cells, RT.cells, SN.cells, TO.cells, TA.cells, TX.cells, PN.cells]; done)) : ([] : List SN).flatMap SN.cells = (List.map (fun x => x.q.sn) (List.take 0 O115_)).flatMap SN.cells) ((by first | rfl | omega | (simp; done) | (simp; omega)) : (List.length ([] : List SN)) = (List.length (List.map (fun x => x.q.sn) (List.take 0 O115_))))
         have H214_ := Holds.recl H213_ 3 rfl ((lcons rfl (lcons rfl (lcons rfl (lcons rfl (lcons rfl (lcons rfl (lcons rfl (lcons rfl (lcons (rfl : (vS none 0 0) = ((vS none 0 0))) (lcons (rfl : (vS none 0 0) = ((vS none 0 0))) rfl)))))))))) : [(vI .i64 10), (Value.string q.in__Begin), (Value.string q.in__End), (vB q.in__Point), (vI .i64 q.from_), (vI .i64 q.till), (vI .i64 0), (vI .i64 0), (vS none 0 0), (vS none 0 0)] = [(vI .i64 10), (Value.string q.in__Begin), (Value.string q.in__End), (vB q.in__Point), (vI .i64 q.from_), (vI .i64 q.till), (vI .i64 0), (vI .i64 0), ((vS none 0 0)), ((vS none 0 0))])
         refine C_loop (γ := Nat × Value × Value) (fun x__ a__ w1__ => match x__ with | ⟨k, lv, vv⟩ => ∃ h : Env, a__ = mkA 121 (upd (upd (upd (upd (upd (upd (upd (upd (upd (upd h 0 (vI .i64 ord)) 7 (vQ b2_)) 8 (vB false)) 9 (vS oa47_ (List.length O49_) oc48_)) 10 (vQ pb50_)) 13 (vQ pb116_)) 15 (vQ b191_)) 63 (vS oa113_ (List.length O115_) oc114_)) 64 (vI .i64 ((List.length O115_) : Int))) 65 (vI .i64 (k : Int))) [] ∧ Holds w1__ (sl 3 1 vv (List.length (List.map (fun x => x.q.val) (List.take k O115_))) ((List.map (fun x => x.q.val) (List.take k O115_)).map (vI .i64)) :: sl 44 5 lv (List.length (List.map (fun x => x.q.sn) (List.take k O115_))) ((List.map (fun x => x.q.sn) (List.take k O115_)).flatMap SN.cells) :: ro R203_ :: cl b191_ 63 [(vI .i64 10), (Value.string q.in__Begin), (Value.string q.in__End), (vB q.in__Point), (vI .i64 q.from_), (vI .i64 q.till), (vI .i64 0), (vI .i64 0), lv, vv] :: cl pb116_ 75 [(vI .i64 ord), pv117_] :: cl pb50_ 75 [(vI .i64 ord), pv51_] :: sl 63 10 (vS oa47_ (List.length O49_) oc48_) (List.length O49_) (O49_.flatMap TX.cells) :: cl b2_ 44 [(Value.string q.in__Begin), (Value.string q.in__End), (vB q.in__Point), (vI .i64 q.from_), (vI .i64 q.till)] :: F) ∧ Same w w1__ ∧ (k ≤ O115_.length)) (fun x__ => match x__ with | ⟨k, lv, vv⟩ => O115_.length - k) (⟨0, (vS none 0 0), (vS none 0 0)⟩) ⟨_, congrArg (fun e => mkA 121 e []) (ch (ch (ch (ch (ch (ch (ch (ch (ch (ch rfl rfl) rfl) rfl) rfl) rfl) rfl) rfl) rfl) rfl) (congrArg (vI .i64) ((by first | rfl | omega | (simp; done) | (simp; omega)) : 0 = (0 : Int)))), H214_, S199_, (by first | assumption | omega | exact rfl)⟩ ?_
         rintro ⟨k, lv, vv⟩ _ w215_ ⟨h, rfl, H216_, S217_, hkk⟩
         refine cr fun _ hK218_ => ?_
         refine sv (v := (vB (decide ((k : Int) < ((List.length O115_) : Int))))) (x_bin rfl rfl rfl) ?_
         refine wn (hK218_ _ _ ?_)
         refine C_seq (fun _ hK219_ => ?_)
         refine C_cond (b := decide ((k : Int) < ((List.length O115_) : Int))) rfl (fun c220_t => ?_) (fun c220_f => ?_)
         ·have c220_tp : (k : Int) < ((List.length O115_) : Int) := of_decide_eq_true c220_t
          refine C_skip (X_then (hK219_ _ _ ?_))
          refine C_seq (fun _ hK221_ => ?_)
          refine C_block ?_
          refine cr fun _ hK222_ => ?_
          obtain ⟨x223_, hx224_, hm225_⟩ := elem_at O115_ k (by omega)
          have hnl226_ := hF1_.n x223_ (List.mem_of_getElem? hx224_)
          refine sv (v := (vP (some ⟨(sb (vS oa113_ (List.length O115_) oc114_)), so (vS oa113_ (List.length O115_) oc114_) + (k * 10 + 0), none⟩))) (x_idxRS (v := (vS oa113_ (List.length O115_) oc114_)) rfl hr209_ rfl underlying66 z63 (by omega) (by omega) (by omega : _ = k) rfl) ?_
          refine sv (v := (vA #[(vI .i64 x223_.q.kind), (Value.string x223_.q.in__In_Begin), (Value.string x223_.q.in__In_End), (vB x223_.q.in__In_Point), (vI .i64 x223_.q.in__From), (vI .i64 x223_.q.in__Till), (vI .i64 x223_.q.val), (vI .i64 x223_.q.n), x223_.q.other, x223_.q.vals])) (x_loadN (vs := [(vI .i64 x223_.q.kind), (Value.string x223_.q.in__In_Begin), (Value.string x223_.q.in__In_End), (vB x223_.q.in__In_Point), (vI .i64 x223_.q.in__From), (vI .i64 x223_.q.in__Till), (vI .i64 x223_.q.val), (vI .i64 x223_.q.n), x223_.q.other, x223_.q.vals]) rfl underlying63 rfl z63 rfl (RC.cells (RS.rc hr209_) (Holds.ro_at H216_ 2 rfl) (k * 10 + 0) (fm_cells TX.len hx224_ (i := 0) rfl))) ?_
          refine S_list (T_alloc z63 H216_ ?_)
          intro b227_ w228_ S230_ H229_
          have S231_ := Same.trans S217_ S230_
          refine S_list0 (T_storeN (vs := [(vI .i64 x223_.q.kind), (Value.string x223_.q.in__In_Begin), (Value.string x223_.q.in__In_End), (vB x223_.q.in__In_Point), (vI .i64 x223_.q.in__From), (vI .i64 x223_.q.in__Till), (vI .i64 x223_.q.val), (vI .i64 x223_.q.n), x223_.q.other, x223_.q.vals]) rfl rfl z63 rfl (List.forall_mem_cons.2 ⟨rfl, (List.forall_mem_cons.2 ⟨rfl, (List.forall_mem_cons.2 ⟨rfl, (List.forall_mem_cons.2 ⟨rfl, (List.forall_mem_cons.2 ⟨rfl, (List.forall_mem_cons.2 ⟨rfl, (List.forall_mem_cons.2 ⟨rfl, (List.forall_mem_cons.2 ⟨rfl, (List.forall_mem_cons.2 ⟨(by rw [hnl226_.1]; rfl), (List.forall_mem_cons.2 ⟨(by rw [hnl226_.2]; rfl), (fun _ h__ => by cases h__)⟩)⟩)⟩)⟩)⟩)⟩)⟩)⟩)⟩)⟩) H229_ 0 rfl (Nat.le_of_ble_eq_true (by rfl)) ?_)
          intro w232_ S234_ H233_
          have S235_ := Same.trans S231_ S234_
          refine wn (hK222_ _ _ ?_)
          refine A_start (S := fun w => Rd b227_ [(vI .i64 x223_.q.kind), (Value.string x223_.q.in__In_Begin), (Value.string x223_.q.in__In_End), (vB x223_.q.in__In_Point), (vI .i64 x223_.q.in__From), (vI .i64 x223_.q.in__Till), (vI .i64 x223_.q.val), (vI .i64 x223_.q.n), x223_.q.other, x223_.q.vals] w ∧ Rd pb116_ [(vI .i64 ord), pv117_] w ∧ Rd pb50_ [(vI .i64 ord), pv51_] w ∧ SlRd (vS oa47_ (List.length O49_) oc48_) (O49_.flatMap TX.cells) w ∧ Rd b2_ [(Value.string q.in__Begin), (Value.string q.in__End), (vB q.in__Point), (vI .i64 q.from_), (vI .i64 q.till)] w ∧ Sub R203_ (hp w)) (N := 16) foll rfl rfl ?_
          have H236_ := Holds.drew_ H233_
          refine A_cut #[true, true, true, true, true, true, true, true, true, true, true, true, true, true, true, false] 1 (fun a__ w1__ => ∃ v243_ : Value, ∃ v254_ : Value, ∃ h : Env, a__ = mkA 121 (upd (upd (upd (upd (upd (upd (upd (upd (upd (upd (upd (upd h 0 (vI .i64 ord)) 7 (vQ b2_)) 8 (vB false)) 9 (vS oa47_ (List.length O49_) oc48_)) 10 (vQ pb50_)) 13 (vQ pb116_)) 15 (vQ b191_)) 63 (vS oa113_ (List.length O115_) oc114_)) 64 (vI .i64 ((List.length O115_) : Int))) 65 (vI .i64 (k : Int))) 80 v254_) 82 (vP (some ⟨b191_, 9, none⟩))) [] ∧ Holds w1__ (cl b227_ 63 [(vI .i64 x223_.q.kind), (Value.string x223_.q.in__In_Begin), (Value.string x223_.q.in__In_End), (vB x223_.q.in__In_Point), (vI .i64 x223_.q.in__From), (vI .i64 x223_.q.in__Till), (vI .i64 x223_.q.val), (vI .i64 x223_.q.n), x223_.q.other, x223_.q.vals] :: sl 3 1 v254_ ((List.length (List.map (fun x => x.q.val) (List.take k O115_))) + 1) (((List.map (fun x => x.q.val) (List.take k O115_)).map (vI .i64)) ++ [(vI .i64 x223_.q.val)]) :: sl 44 5 v243_ ((List.length (List.map (fun x => x.q.sn) (List.take k O115_))) + 1) (((List.map (fun x => x.q.sn) (List.take k O115_)).flatMap SN.cells) ++ [(Value.string x223_.q.in__In_Begin), (Value.string x223_.q.in__In_End), (vB x223_.q.in__In_Point), (vI .i64 x223_.q.in__From), (vI .i64 x223_.q.in__Till)]) :: ro R203_ :: cl b191_ 63 [(vI .i64 10), (Value.string q.in__Begin), (Value.string q.in__End), (vB q.in__Point), (vI .i64 q.from_), (vI .i64 q.till), (vI .i64 0), (vI .i64 0), v243_, vv] :: cl pb116_ 75 [(vI .i64 ord), pv117_] :: cl pb50_ 75 [(vI .i64 ord), pv51_] :: sl 63 10 (vS oa47_ (List.length O49_) oc48_) (List.length O49_) (O49_.flatMap TX.cells) :: cl b2_ 44 [(Value.string q.in__Begin), (Value.string q.in__End), (vB q.in__Point), (vI .i64 q.from_), (vI .i64 q.till)] :: F) ∧ Same w w1__) ?_ ?_
          ·rintro _ w388_ ⟨v243_, v254_, h, rfl, H389_, S390_⟩
           refine A_ready (i := 15) (rs := []) (by kernel_rfl) ?_
           refine AllR.cons ?_ AllR.nil
           refine A_op0 (ls' := #[true, true, true, true, true, true, true, true, true, true, true, true, true, true, true, true]) rfl (by kernel_rfl) (T_store1 (v := v254_) rfl rfl z35 (Holds.sl_one H389_ 1 rfl) H389_ 4 rfl (Nat.le_of_ble_eq_true (by rfl)) ?_)
           intro w391_ S393_ H392_
           have S394_ := Same.trans S390_ S393_
           refine ⟨⟨Holds.rd H392_ 0 rfl, Holds.rd H392_ 5 rfl, Holds.rd H392_ 6 rfl, Holds.slrd H392_ 7 rfl, Holds.rd H392_ 8 rfl, (Holds.ro_at H392_ 3 rfl)⟩, ?_⟩
           refine A_done (by kernel_rfl) ?_
           refine (X_blkN (X_then (hK221_ _ _ ?_)))
           refine C_reg ?_
           refine sv (v := (vI .i64 ((k : Int) + 1))) (x_bin rfl rfl (ib_add (IntWalk.i64_in _ (by omega)))) ?_
           refine sm (vI .i64 ((k : Int) + 1)) ?_
           refine wpList_nil (X_then ?_)
           have H395_ := Holds.resl H392_ 2 rfl (by rw [take_snoc hx224_]; simp [SN.cells, TO.sn] : ((List.map (fun x => x.q.sn) (List.take k O115_)).flatMap SN.cells) ++ [(Value.string x223_.q.in__In_Begin), (Value.string x223_.q.in__In_End), (vB x223_.q.in__In_Point), (vI .i64 x223_.q.in__From), (vI .i64 x223_.q.in__Till)] = (List.map (fun x => x.q.sn) (List.take (k + 1) O115_)).flatMap SN.cells) (by rw [take_snoc hx224_]; simp : (List.length (List.map (fun x => x.q.sn) (List.take k O115_))) + 1 = (List.length (List.map (fun x => x.q.sn) (List.take (k + 1) O115_))))
           have H396_ := Holds.resl H395_ 1 rfl (by rw [take_snoc hx224_]; simp [SN.cells, TO.sn] : ((List.map (fun x => x.q.val) (List.take k O115_)).map (vI .i64)) ++ [(vI .i64 x223_.q.val)] = (List.map (fun x => x.q.val) (List.take (k + 1) O115_)).map (vI .i64)) (by rw [take_snoc hx224_]; simp : (List.length (List.map (fun x => x.q.val) (List.take k O115_))) + 1 = (List.length (List.map (fun x => x.q.val) (List.take (k + 1) O115_))))
           have H397_ := Holds.pkF H396_ [1, 1, 1, 1, 1, 1, 1, 1] 1
           exact ⟨⟨k + 1, v243_, v254_⟩, ⟨_, congrArg (fun e => mkA 121 e []) (ch (ch (ch (ch (ch (ch (ch (ch (ch (ch rfl rfl) rfl) rfl) rfl) rfl) rfl) rfl) rfl) rfl) (congrArg (vI .i64) ((by first | rfl | omega | (simp; done) | (simp; omega)) : (k : Int) + 1 = ((k + 1 : Nat) : Int)))), H397_, S394_, (by first | assumption | omega | exact rfl)⟩, by first | omega | (dsimp only; omega) | (simp; omega)⟩
          intro hJ373
          refine A_cut #[true, true, true, true, true, true, true, true, true, true, true, true, true, false, false, false] 3 (fun a__ w1__ => ∃ v243_ : Value, ∃ v254_ : Value, ∃ h : Env, a__ = mkA 121 (upd (upd (upd (upd (upd (upd (upd (upd (upd (upd (upd (upd (upd h 0 (vI .i64 ord)) 7 (vQ b2_)) 8 (vB false)) 9 (vS oa47_ (List.length O49_) oc48_)) 10 (vQ pb50_)) 13 (vQ pb116_)) 15 (vQ b191_)) 63 (vS oa113_ (List.length O115_) oc114_)) 64 (vI .i64 ((List.length O115_) : Int))) 65 (vI .i64 (k : Int))) 74 v243_) 80 v254_) 81 (vP (some ⟨b191_, 8, none⟩))) [] ∧ Holds w1__ (cl b227_ 63 [(vI .i64 x223_.q.kind), (Value.string x223_.q.in__In_Begin), (Value.string x223_.q.in__In_End), (vB x223_.q.in__In_Point), (vI .i64 x223_.q.in__From), (vI .i64 x223_.q.in__Till), (vI .i64 x223_.q.val), (vI .i64 x223_.q.n), x223_.q.other, x223_.q.vals] :: sl 3 1 v254_ ((List.length (List.map (fun x => x.q.val) (List.take k O115_))) + 1) (((List.map (fun x => x.q.val) (List.take k O115_)).map (vI .i64)) ++ [(vI .i64 x223_.q.val)]) :: sl 44 5 v243_ ((List.length (List.map (fun x => x.q.sn) (List.take k O115_))) + 1) (((List.map (fun x => x.q.sn) (List.take k O115_)).flatMap SN.cells) ++ [(Value.string x223_.q.in__In_Begin), (Value.string x223_.q.in__In_End), (vB x223_.q.in__In_Point), (vI .i64 x223_.q.in__From), (vI .i64 x223_.q.in__Till)]) :: ro R203_ :: cl b191_ 63 [(vI .i64 10), (Value.string q.in__Begin), (Value.string q.in__End), (vB q.in__Point), (vI .i64 q.from_), (vI .i64 q.till), (vI .i64 0), (vI .i64 0), lv, vv] :: cl pb116_ 75 [(vI .i64 ord), pv117_] :: cl pb50_ 75 [(vI .i64 ord), pv51_] :: sl 63 10 (vS oa47_ (List.length O49_) oc48_) (List.length O49_) (O49_.flatMap TX.cells) :: cl b2_ 44 [(Value.string q.in__Begin), (Value.string q.in__End), (vB q.in__Point), (vI .i64 q.from_), (vI .i64 q.till)] :: F) ∧ Same w w1__) ?_ ?_
          ·rintro _ w398_ ⟨v243_, v254_, h, rfl, H399_, S400_⟩
           refine A_ready (i := 13) (rs := []) (by kernel_rfl) ?_
           refine AllR.cons ?_ AllR.nil
           refine A_op0 (ls' := #[true, true, true, true, true, true, true, true, true, true, true, true, true, true, false, false]) rfl (by kernel_rfl) (T_store1 (v := v243_) rfl rfl z30 (Holds.sl_one H399_ 2 rfl) H399_ 4 rfl (Nat.le_of_ble_eq_true (by rfl)) ?_)
           intro w401_ S403_ H402_
           have S404_ := Same.trans S400_ S403_
           refine ⟨⟨Holds.rd H402_ 0 rfl, Holds.rd H402_ 5 rfl, Holds.rd H402_ 6 rfl, Holds.slrd H402_ 7 rfl, Holds.rd H402_ 8 rfl, (Holds.ro_at H402_ 3 rfl)⟩, ?_⟩
           have hq405_ := And.intro (Holds.rd H402_ 0 rfl) (And.intro (Holds.rd H402_ 5 rfl) (And.intro (Holds.rd H402_ 6 rfl) (And.intro (Holds.slrd H402_ 7 rfl) (And.intro (Holds.rd H402_ 8 rfl) ((Holds.ro_at H402_ 3 rfl))))))
           refine A_tk 14 (v := (vP (some ⟨b191_, 9, none⟩))) rfl (by kernel_rfl) (fun w hS => by kernel_rfl) hq405_ ?_
           exact hJ373 _ _ ⟨v243_, v254_, _, congrArg (fun e => mkA 121 e []) (ch (ch (ch (ch (ch (ch (ch (ch (ch (ch (ch (ch rfl rfl) rfl) rfl) rfl) rfl) rfl) rfl) rfl) rfl) rfl) rfl) rfl), H402_, S404_⟩
          intro hJ372
          refine A_cut #[true, true, true, true, true, true, true, true, true, true, true, false, true, false, false, false] 4 (fun a__ w1__ => ∃ v243_ : Value, ∃ b249_ : Nat, ∃ h : Env, a__ = mkA 121 (upd (upd (upd (upd (upd (upd (upd (upd (upd (upd (upd (upd (upd (upd h 0 (vI .i64 ord)) 7 (vQ b2_)) 8 (vB false)) 9 (vS oa47_ (List.length O49_) oc48_)) 10 (vQ pb50_)) 13 (vQ pb116_)) 15 (vQ b191_)) 63 (vS oa113_ (List.length O115_) oc114_)) 64 (vI .i64 ((List.length O115_) : Int))) 65 (vI .i64 (k : Int))) 74 v243_) 76 vv) 79 (vS (some ⟨b249_, 0, none⟩) 1 1)) 81 (vP (some ⟨b191_, 8, none⟩))) [] ∧ Holds w1__ (cl b249_ 3 [(vI .i64 x223_.q.val)] :: cl b227_ 63 [(vI .i64 x223_.q.kind), (Value.string x223_.q.in__In_Begin), (Value.string x223_.q.in__In_End), (vB x223_.q.in__In_Point), (vI .i64 x223_.q.in__From), (vI .i64 x223_.q.in__Till), (vI .i64 x223_.q.val), (vI .i64 x223_.q.n), x223_.q.other, x223_.q.vals] :: sl 3 1 vv (List.length (List.map (fun x => x.q.val) (List.take k O115_))) ((List.map (fun x => x.q.val) (List.take k O115_)).map (vI .i64)) :: sl 44 5 v243_ ((List.length (List.map (fun x => x.q.sn) (List.take k O115_))) + 1) (((List.map (fun x => x.q.sn) (List.take k O115_)).flatMap SN.cells) ++ [(Value.string x223_.q.in__In_Begin), (Value.string x223_.q.in__In_End), (vB x223_.q.in__In_Point), (vI .i64 x223_.q.in__From), (vI .i64 x223_.q.in__Till)]) :: ro R203_ :: cl b191_ 63 [(vI .i64 10), (Value.string q.in__Begin), (Value.string q.in__End), (vB q.in__Point), (vI .i64 q.from_), (vI .i64 q.till), (vI .i64 0), (vI .i64 0), lv, vv] :: cl pb116_ 75 [(vI .i64 ord), pv117_] :: cl pb50_ 75 [(vI .i64 ord), pv51_] :: sl 63 10 (vS oa47_ (List.length O49_) oc48_) (List.length O49_) (O49_.flatMap TX.cells) :: cl b2_ 44 [(Value.string q.in__Begin), (Value.string q.in__End), (vB q.in__Point), (vI .i64 q.from_), (vI .i64 q.till)] :: F) ∧ Same w w1__) ?_ ?_
          ·rintro _ w406_ ⟨v243_, b249_, h, rfl, H407_, S408_⟩
           refine A_ready (i := 11) (rs := []) (by kernel_rfl) ?_
           refine AllR.cons ?_ AllR.nil
           refine A_op (ls' := #[true, true, true, true, true, true, true, true, true, true, true, true, true, false, false, false]) rfl (by kernel_rfl) (T_append rfl rfl underlying35 z3 rfl (by decide) H407_ 2 rfl (Holds.cl_src H407_ 0 rfl underlying35 (by simp [Value.oneCell']) rfl) (by first | omega | (simp only [List.length_map, List.length_take]; omega)) ?_)
           intro v409_ w410_ S412_ H411_
           have S413_ := Same.trans S408_ S412_
           refine ⟨⟨Holds.rd H411_ 1 rfl, Holds.rd H411_ 6 rfl, Holds.rd H411_ 7 rfl, Holds.slrd H411_ 8 rfl, Holds.rd H411_ 9 rfl, (Holds.ro_at H411_ 4 rfl)⟩, ?_⟩
           have H414_ := Holds.pkF H411_ [1, 1, 1, 1, 1, 1, 1, 1, 1] 1
           exact hJ372 _ _ ⟨v243_, v409_, _, congrArg (fun e => mkA 121 e []) (ch (ch (ch (ch (ch (ch (ch (ch (ch (ch (ch (ch (ch rfl rfl) rfl) rfl) rfl) rfl) rfl) rfl) rfl) rfl) rfl) rfl) rfl) rfl), H414_, S413_⟩
          intro hJ371
          refine A_cut #[true, true, true, true, true, true, true, true, true, true, false, false, true, false, false, false] 5 (fun a__ w1__ => ∃ v243_ : Value, ∃ h : Env, a__ = mkA 121 (upd (upd (upd (upd (upd (upd (upd (upd (upd (upd (upd (upd (upd (upd h 0 (vI .i64 ord)) 7 (vQ b2_)) 8 (vB false)) 9 (vS oa47_ (List.length O49_) oc48_)) 10 (vQ pb50_)) 13 (vQ pb116_)) 15 (vQ b191_)) 63 (vS oa113_ (List.length O115_) oc114_)) 64 (vI .i64 ((List.length O115_) : Int))) 65 (vI .i64 (k : Int))) 74 v243_) 76 vv) 78 (vI .i64 x223_.q.val)) 81 (vP (some ⟨b191_, 8, none⟩))) [] ∧ Holds w1__ (cl b227_ 63 [(vI .i64 x223_.q.kind), (Value.string x223_.q.in__In_Begin), (Value.string x223_.q.in__In_End), (vB x223_.q.in__In_Point), (vI .i64 x223_.q.in__From), (vI .i64 x223_.q.in__Till), (vI .i64 x223_.q.val), (vI .i64 x223_.q.n), x223_.q.other, x223_.q.vals] :: sl 3 1 vv (List.length (List.map (fun x => x.q.val) (List.take k O115_))) ((List.map (fun x => x.q.val) (List.take k O115_)).map (vI .i64)) :: sl 44 5 v243_ ((List.length (List.map (fun x => x.q.sn) (List.take k O115_))) + 1) (((List.map (fun x => x.q.sn) (List.take k O115_)).flatMap SN.cells) ++ [(Value.string x223_.q.in__In_Begin), (Value.string x223_.q.in__In_End), (vB x223_.q.in__In_Point), (vI .i64 x223_.q.in__From), (vI .i64 x223_.q.in__Till)]) :: ro R203_ :: cl b191_ 63 [(vI .i64 10), (Value.string q.in__Begin), (Value.string q.in__End), (vB q.in__Point), (vI .i64 q.from_), (vI .i64 q.till), (vI .i64 0), (vI .i64 0), lv, vv] :: cl pb116_ 75 [(vI .i64 ord), pv117_] :: cl pb50_ 75 [(vI .i64 ord), pv51_] :: sl 63 10 (vS oa47_ (List.length O49_) oc48_) (List.length O49_) (O49_.flatMap TX.cells) :: cl b2_ 44 [(Value.string q.in__Begin), (Value.string q.in__End), (vB q.in__Point), (vI .i64 q.from_), (vI .i64 q.till)] :: F) ∧ Same w w1__) ?_ ?_
          ·rintro _ w415_ ⟨v243_, h, rfl, H416_, S417_⟩
           refine A_ready (i := 10) (rs := []) (by kernel_rfl) ?_
           refine AllR.cons ?_ AllR.nil
           refine A_op (ls' := #[true, true, true, true, true, true, true, true, true, true, true, false, true, false, false, false]) rfl (by kernel_rfl) (T_new (obj := .cells #[(vI .i64 x223_.q.val)] 3) (f := fun b__ => .slice (some ⟨b__, 0, none⟩) 1 1) (A := fun b__ => cl b__ 3 [(vI .i64 x223_.q.val)]) (by kernel_rfl) (fun l h => h.alloc _ _) H416_ ?_)
           intro b418_ w419_ S421_ H420_
           have S422_ := Same.trans S417_ S421_
           refine ⟨⟨Holds.rd H420_ 1 rfl, Holds.rd H420_ 6 rfl, Holds.rd H420_ 7 rfl, Holds.slrd H420_ 8 rfl, Holds.rd H420_ 9 rfl, (Holds.ro_at H420_ 4 rfl)⟩, ?_⟩
           exact hJ371 _ _ ⟨v243_, b418_, _, congrArg (fun e => mkA 121 e []) (ch (ch (ch (ch (ch (ch (ch (ch (ch (ch (ch (ch (ch (ch rfl rfl) rfl) rfl) rfl) rfl) rfl) rfl) rfl) rfl) rfl) rfl) rfl) rfl) rfl), H420_, S422_⟩
          intro hJ370
          refine A_cut #[true, true, true, true, true, true, true, false, true, true, true, false, false, false, false, false] 6 (fun a__ w1__ => ∃ v243_ : Value, ∃ b268_ : Nat, ∃ h : Env, a__ = mkA 121 (upd (upd (upd (upd (upd (upd (upd (upd (upd (upd (upd (upd (upd h 0 (vI .i64 ord)) 7 (vQ b2_)) 8 (vB false)) 9 (vS oa47_ (List.length O49_) oc48_)) 10 (vQ pb50_)) 13 (vQ pb116_)) 15 (vQ b191_)) 63 (vS oa113_ (List.length O115_) oc114_)) 64 (vI .i64 ((List.length O115_) : Int))) 65 (vI .i64 (k : Int))) 74 v243_) 75 (vP (some ⟨b191_, 9, none⟩))) 79 (vS (some ⟨b268_, 0, none⟩) 1 1)) [] ∧ Holds w1__ (cl b268_ 3 [(vI .i64 x223_.q.val)] :: cl b227_ 63 [(vI .i64 x223_.q.kind), (Value.string x223_.q.in__In_Begin), (Value.string x223_.q.in__In_End), (vB x223_.q.in__In_Point), (vI .i64 x223_.q.in__From), (vI .i64 x223_.q.in__Till), (vI .i64 x223_.q.val), (vI .i64 x223_.q.n), x223_.q.other, x223_.q.vals] :: sl 3 1 vv (List.length (List.map (fun x => x.q.val) (List.take k O115_))) ((List.map (fun x => x.q.val) (List.take k O115_)).map (vI .i64)) :: sl 44 5 v243_ ((List.length (List.map (fun x => x.q.sn) (List.take k O115_))) + 1) (((List.map (fun x => x.q.sn) (List.take k O115_)).flatMap SN.cells) ++ [(Value.string x223_.q.in__In_Begin), (Value.string x223_.q.in__In_End), (vB x223_.q.in__In_Point), (vI .i64 x223_.q.in__From), (vI .i64 x223_.q.in__Till)]) :: ro R203_ :: cl b191_ 63 [(vI .i64 10), (Value.string q.in__Begin), (Value.string q.in__End), (vB q.in__Point), (vI .i64 q.from_), (vI .i64 q.till), (vI .i64 0), (vI .i64 0), lv, vv] :: cl pb116_ 75 [(vI .i64 ord), pv117_] :: cl pb50_ 75 [(vI .i64 ord), pv51_] :: sl 63 10 (vS oa47_ (List.length O49_) oc48_) (List.length O49_) (O49_.flatMap TX.cells) :: cl b2_ 44 [(Value.string q.in__Begin), (Value.string q.in__End), (vB q.in__Point), (vI .i64 q.from_), (vI .i64 q.till)] :: F) ∧ Same w w1__) ?_ ?_
          ·rintro _ w423_ ⟨v243_, b268_, h, rfl, H424_, S425_⟩
           refine A_ready (i := 7) (rs := []) (by kernel_rfl) ?_
           refine AllR.cons ?_ AllR.nil
           refine A_op (ls' := #[true, true, true, true, true, true, true, true, true, true, true, false, false, false, false, false]) rfl (by kernel_rfl) (T_val (v := vv) (x_load1 rfl underlying35 rfl ((Holds.rd H424_ 5 rfl) 9 vv rfl)) ?_)
           refine ⟨⟨Holds.rd H424_ 1 rfl, Holds.rd H424_ 6 rfl, Holds.rd H424_ 7 rfl, Holds.slrd H424_ 8 rfl, Holds.rd H424_ 9 rfl, (Holds.ro_at H424_ 4 rfl)⟩, ?_⟩
           have hq426_ := And.intro (Holds.rd H424_ 1 rfl) (And.intro (Holds.rd H424_ 6 rfl) (And.intro (Holds.rd H424_ 7 rfl) (And.intro (Holds.slrd H424_ 8 rfl) (And.intro (Holds.rd H424_ 9 rfl) ((Holds.ro_at H424_ 4 rfl))))))
           refine A_tk 12 (v := (vP (some ⟨b191_, 8, none⟩))) rfl (by kernel_rfl) (fun w hS => by kernel_rfl) hq426_ ?_
           exact hJ371 _ _ ⟨v243_, b268_, _, congrArg (fun e => mkA 121 e []) (ch (ch (ch (ch (ch (ch (ch (ch (ch (ch (ch (ch (ch (ch rfl rfl) rfl) rfl) rfl) rfl) rfl) rfl) rfl) rfl) rfl) rfl) rfl) rfl) rfl), H424_, S425_⟩
          intro hJ374
          refine A_cut #[true, true, true, true, true, false, true, true, true, true, true, false, false, false, false, false] 6 (fun a__ w1__ => ∃ b238_ : Nat, ∃ b280_ : Nat, ∃ h : Env, a__ = mkA 121 (upd (upd (upd (upd (upd (upd (upd (upd (upd (upd (upd (upd (upd (upd h 0 (vI .i64 ord)) 7 (vQ b2_)) 8 (vB false)) 9 (vS oa47_ (List.length O49_) oc48_)) 10 (vQ pb50_)) 13 (vQ pb116_)) 15 (vQ b191_)) 63 (vS oa113_ (List.length O115_) oc114_)) 64 (vI .i64 ((List.length O115_) : Int))) 65 (vI .i64 (k : Int))) 70 lv) 73 (vS (some ⟨b238_, 0, none⟩) 1 1)) 76 vv) 79 (vS (some ⟨b280_, 0, none⟩) 1 1)) [] ∧ Holds w1__ (cl b280_ 3 [(vI .i64 x223_.q.val)] :: cl b238_ 44 [(Value.string x223_.q.in__In_Begin), (Value.string x223_.q.in__In_End), (vB x223_.q.in__In_Point), (vI .i64 x223_.q.in__From), (vI .i64 x223_.q.in__Till)] :: cl b227_ 63 [(vI .i64 x223_.q.kind), (Value.string x223_.q.in__In_Begin), (Value.string x223_.q.in__In_End), (vB x223_.q.in__In_Point), (vI .i64 x223_.q.in__From), (vI .i64 x223_.q.in__Till), (vI .i64 x223_.q.val), (vI .i64 x223_.q.n), x223_.q.other, x223_.q.vals] :: sl 3 1 vv (List.length (List.map (fun x => x.q.val) (List.take k O115_))) ((List.map (fun x => x.q.val) (List.take k O115_)).map (vI .i64)) :: sl 44 5 lv (List.length (List.map (fun x => x.q.sn) (List.take k O115_))) ((List.map (fun x => x.q.sn) (List.take k O115_)).flatMap SN.cells) :: ro R203_ :: cl b191_ 63 [(vI .i64 10), (Value.string q.in__Begin), (Value.string q.in__End), (vB q.in__Point), (vI .i64 q.from_), (vI .i64 q.till), (vI .i64 0), (vI .i64 0), lv, vv] :: cl pb116_ 75 [(vI .i64 ord), pv117_] :: cl pb50_ 75 [(vI .i64 ord), pv51_] :: sl 63 10 (vS oa47_ (List.length O49_) oc48_) (List.length O49_) (O49_.flatMap TX.cells) :: cl b2_ 44 [(Value.string q.in__Begin), (Value.string q.in__End), (vB q.in__Point), (vI .i64 q.from_), (vI .i64 q.till)] :: F) ∧ Same w w1__) ?_ ?_
          ·rintro _ w427_ ⟨b238_, b280_, h, rfl, H428_, S429_⟩
           refine A_ready (i := 5) (rs := []) (by kernel_rfl) ?_
           refine AllR.cons ?_ AllR.nil
           refine A_op (ls' := #[true, true, true, true, true, true, true, true, true, true, true, false, false, false, false, false]) rfl (by kernel_rfl) (T_append rfl rfl underlying30 z44 rfl (by decide) H428_ 4 rfl (Holds.cl_src H428_ 1 rfl underlying30 (by simp [Value.oneCell']) rfl) (by first | omega | (simp only [List.length_map, List.length_take]; omega)) ?_)
           intro v430_ w431_ S433_ H432_
           have S434_ := Same.trans S429_ S433_
           refine ⟨⟨Holds.rd H432_ 2 rfl, Holds.rd H432_ 7 rfl, Holds.rd H432_ 8 rfl, Holds.slrd H432_ 9 rfl, Holds.rd H432_ 10 rfl, (Holds.ro_at H432_ 5 rfl)⟩, ?_⟩
           have hq435_ := And.intro (Holds.rd H432_ 2 rfl) (And.intro (Holds.rd H432_ 7 rfl) (And.intro (Holds.rd H432_ 8 rfl) (And.intro (Holds.slrd H432_ 9 rfl) (And.intro (Holds.rd H432_ 10 rfl) ((Holds.ro_at H432_ 5 rfl))))))
           refine A_tk 12 (v := (vP (some ⟨b191_, 8, none⟩))) rfl (by kernel_rfl) (fun w hS => by kernel_rfl) hq435_ ?_
           have H436_ := Holds.pkF H432_ [0, 1, 1, 1, 1, 1, 1, 1, 1, 1] 1
           exact hJ371 _ _ ⟨v430_, b280_, _, congrArg (fun e => mkA 121 e []) (ch (ch (ch (ch (ch (ch (ch (ch (ch (ch (ch (ch (ch (ch rfl rfl) rfl) rfl) rfl) rfl) rfl) rfl) rfl) rfl) rfl) rfl) rfl) rfl) rfl), H436_, S434_⟩
          intro hJ376
          refine A_cut #[true, true, true, true, true, true, true, false, true, true, false, false, false, false, false, false] 7 (fun a__ w1__ => ∃ v243_ : Value, ∃ h : Env, a__ = mkA 121 (upd (upd (upd (upd (upd (upd (upd (upd (upd (upd (upd (upd (upd h 0 (vI .i64 ord)) 7 (vQ b2_)) 8 (vB false)) 9 (vS oa47_ (List.length O49_) oc48_)) 10 (vQ pb50_)) 13 (vQ pb116_)) 15 (vQ b191_)) 63 (vS oa113_ (List.length O115_) oc114_)) 64 (vI .i64 ((List.length O115_) : Int))) 65 (vI .i64 (k : Int))) 74 v243_) 75 (vP (some ⟨b191_, 9, none⟩))) 78 (vI .i64 x223_.q.val)) [] ∧ Holds w1__ (cl b227_ 63 [(vI .i64 x223_.q.kind), (Value.string x223_.q.in__In_Begin), (Value.string x223_.q.in__In_End), (vB x223_.q.in__In_Point), (vI .i64 x223_.q.in__From), (vI .i64 x223_.q.in__Till), (vI .i64 x223_.q.val), (vI .i64 x223_.q.n), x223_.q.other, x223_.q.vals] :: sl 3 1 vv (List.length (List.map (fun x => x.q.val) (List.take k O115_))) ((List.map (fun x => x.q.val) (List.take k O115_)).map (vI .i64)) :: sl 44 5 v243_ ((List.length (List.map (fun x => x.q.sn) (List.take k O115_))) + 1) (((List.map (fun x => x.q.sn) (List.take k O115_)).flatMap SN.cells) ++ [(Value.string x223_.q.in__In_Begin), (Value.string x223_.q.in__In_End), (vB x223_.q.in__In_Point), (vI .i64 x223_.q.in__From), (vI .i64 x223_.q.in__Till)]) :: ro R203_ :: cl b191_ 63 [(vI .i64 10), (Value.string q.in__Begin), (Value.string q.in__End), (vB q.in__Point), (vI .i64 q.from_), (vI .i64 q.till), (vI .i64 0), (vI .i64 0), lv, vv] :: cl pb116_ 75 [(vI .i64 ord), pv117_] :: cl pb50_ 75 [(vI .i64 ord), pv51_] :: sl 63 10 (vS oa47_ (List.length O49_) oc48_) (List.length O49_) (O49_.flatMap TX.cells) :: cl b2_ 44 [(Value.string q.in__Begin), (Value.string q.in__End), (vB q.in__Point), (vI .i64 q.from_), (vI .i64 q.till)] :: F) ∧ Same w w1__) ?_ ?_
          ·rintro _ w437_ ⟨v243_, h, rfl, H438_, S439_⟩
           refine A_ready (i := 7) (rs := [10]) (by kernel_rfl) ?_
           refine AllR.cons ?_ ?_
           ·skip
            refine A_op (ls' := #[true, true, true, true, true, true, true, true, true, true, false, false, false, false, false, false]) rfl (by kernel_rfl) (T_val (v := vv) (x_load1 rfl underlying35 rfl ((Holds.rd H438_ 4 rfl) 9 vv rfl)) ?_)
            refine ⟨⟨Holds.rd H438_ 0 rfl, Holds.rd H438_ 5 rfl, Holds.rd H438_ 6 rfl, Holds.slrd H438_ 7 rfl, Holds.rd H438_ 8 rfl, (Holds.ro_at H438_ 3 rfl)⟩, ?_⟩
            have hq440_ := And.intro (Holds.rd H438_ 0 rfl) (And.intro (Holds.rd H438_ 5 rfl) (And.intro (Holds.rd H438_ 6 rfl) (And.intro (Holds.slrd H438_ 7 rfl) (And.intro (Holds.rd H438_ 8 rfl) ((Holds.ro_at H438_ 3 rfl))))))
            refine A_tk 12 (v := (vP (some ⟨b191_, 8, none⟩))) rfl (by kernel_rfl) (fun w hS => by kernel_rfl) hq440_ ?_
            exact hJ370 _ _ ⟨v243_, _, congrArg (fun e => mkA 121 e []) (ch (ch (ch (ch (ch (ch (ch (ch (ch (ch (ch (ch (ch (ch rfl rfl) rfl) rfl) rfl) rfl) rfl) rfl) rfl) rfl) rfl) rfl) rfl) rfl) rfl), H438_, S439_⟩
           refine AllR.cons ?_ AllR.nil
           refine A_op (ls' := #[true, true, true, true, true, true, true, false, true, true, true, false, false, false, false, false]) rfl (by kernel_rfl) (T_new (obj := .cells #[(vI .i64 x223_.q.val)] 3) (f := fun b__ => .slice (some ⟨b__, 0, none⟩) 1 1) (A := fun b__ => cl b__ 3 [(vI .i64 x223_.q.val)]) (by kernel_rfl) (fun l h => h.alloc _ _) H438_ ?_)
           intro b441_ w442_ S444_ H443_
           have S445_ := Same.trans S439_ S444_
           refine ⟨⟨Holds.rd H443_ 1 rfl, Holds.rd H443_ 6 rfl, Holds.rd H443_ 7 rfl, Holds.slrd H443_ 8 rfl, Holds.rd H443_ 9 rfl, (Holds.ro_at H443_ 4 rfl)⟩, ?_⟩
           exact hJ374 _ _ ⟨v243_, b441_, _, congrArg (fun e => mkA 121 e []) (ch (ch (ch (ch (ch (ch (ch (ch (ch (ch (ch (ch (ch rfl rfl) rfl) rfl) rfl) rfl) rfl) rfl) rfl) rfl) rfl) rfl) rfl) rfl), H443_, S445_⟩
          intro hJ369
          refine A_cut #[true, true, true, true, true, false, true, true, true, true, false, false, false, false, false, false] 7 (fun a__ w1__ => ∃ b238_ : Nat, ∃ h : Env, a__ = mkA 121 (upd (upd (upd (upd (upd (upd (upd (upd (upd (upd (upd (upd (upd (upd h 0 (vI .i64 ord)) 7 (vQ b2_)) 8 (vB false)) 9 (vS oa47_ (List.length O49_) oc48_)) 10 (vQ pb50_)) 13 (vQ pb116_)) 15 (vQ b191_)) 63 (vS oa113_ (List.length O115_) oc114_)) 64 (vI .i64 ((List.length O115_) : Int))) 65 (vI .i64 (k : Int))) 70 lv) 73 (vS (some ⟨b238_, 0, none⟩) 1 1)) 76 vv) 78 (vI .i64 x223_.q.val)) [] ∧ Holds w1__ (cl b238_ 44 [(Value.string x223_.q.in__In_Begin), (Value.string x223_.q.in__In_End), (vB x223_.q.in__In_Point), (vI .i64 x223_.q.in__From), (vI .i64 x223_.q.in__Till)] :: cl b227_ 63 [(vI .i64 x223_.q.kind), (Value.string x223_.q.in__In_Begin), (Value.string x223_.q.in__In_End), (vB x223_.q.in__In_Point), (vI .i64 x223_.q.in__From), (vI .i64 x223_.q.in__Till), (vI .i64 x223_.q.val), (vI .i64 x223_.q.n), x223_.q.other, x223_.q.vals] :: sl 3 1 vv (List.length (List.map (fun x => x.q.val) (List.take k O115_))) ((List.map (fun x => x.q.val) (List.take k O115_)).map (vI .i64)) :: sl 44 5 lv (List.length (List.map (fun x => x.q.sn) (List.take k O115_))) ((List.map (fun x => x.q.sn) (List.take k O115_)).flatMap SN.cells) :: ro R203_ :: cl b191_ 63 [(vI .i64 10), (Value.string q.in__Begin), (Value.string q.in__End), (vB q.in__Point), (vI .i64 q.from_), (vI .i64 q.till), (vI .i64 0), (vI .i64 0), lv, vv] :: cl pb116_ 75 [(vI .i64 ord), pv117_] :: cl pb50_ 75 [(vI .i64 ord), pv51_] :: sl 63 10 (vS oa47_ (List.length O49_) oc48_) (List.length O49_) (O49_.flatMap TX.cells) :: cl b2_ 44 [(Value.string q.in__Begin), (Value.string q.in__End), (vB q.in__Point), (vI .i64 q.from_), (vI .i64 q.till)] :: F) ∧ Same w w1__) ?_ ?_
          ·rintro _ w446_ ⟨b238_, h, rfl, H447_, S448_⟩
           refine A_ready (i := 5) (rs := [10]) (by kernel_rfl) ?_
           refine AllR.cons ?_ ?_
           ·skip
            refine A_op (ls' := #[true, true, true, true, true, true, true, true, true, true, false, false, false, false, false, false]) rfl (by kernel_rfl) (T_append rfl rfl underlying30 z44 rfl (by decide) H447_ 3 rfl (Holds.cl_src H447_ 0 rfl underlying30 (by simp [Value.oneCell']) rfl) (by first | omega | (simp only [List.length_map, List.length_take]; omega)) ?_)
            intro v449_ w450_ S452_ H451_
            have S453_ := Same.trans S448_ S452_
            refine ⟨⟨Holds.rd H451_ 1 rfl, Holds.rd H451_ 6 rfl, Holds.rd H451_ 7 rfl, Holds.slrd H451_ 8 rfl, Holds.rd H451_ 9 rfl, (Holds.ro_at H451_ 4 rfl)⟩, ?_⟩
            have hq454_ := And.intro (Holds.rd H451_ 1 rfl) (And.intro (Holds.rd H451_ 6 rfl) (And.intro (Holds.rd H451_ 7 rfl) (And.intro (Holds.slrd H451_ 8 rfl) (And.intro (Holds.rd H451_ 9 rfl) ((Holds.ro_at H451_ 4 rfl))))))
            refine A_tk 12 (v := (vP (some ⟨b191_, 8, none⟩))) rfl (by kernel_rfl) (fun w hS => by kernel_rfl) hq454_ ?_
            have H455_ := Holds.pkF H451_ [1, 1, 1, 1, 1, 1, 1, 1, 1] 1
            exact hJ370 _ _ ⟨v449_, _, congrArg (fun e => mkA 121 e []) (ch (ch (ch (ch (ch (ch (ch (ch (ch (ch (ch (ch (ch (ch rfl rfl) rfl) rfl) rfl) rfl) rfl) rfl) rfl) rfl) rfl) rfl) rfl) rfl) rfl), H455_, S453_⟩
           refine AllR.cons ?_ AllR.nil
           refine A_op (ls' := #[true, true, true, true, true, false, true, true, true, true, true, false, false, false, false, false]) rfl (by kernel_rfl) (T_new (obj := .cells #[(vI .i64 x223_.q.val)] 3) (f := fun b__ => .slice (some ⟨b__, 0, none⟩) 1 1) (A := fun b__ => cl b__ 3 [(vI .i64 x223_.q.val)]) (by kernel_rfl) (fun l h => h.alloc _ _) H447_ ?_)
           intro b456_ w457_ S459_ H458_
           have S460_ := Same.trans S448_ S459_
           refine ⟨⟨Holds.rd H458_ 2 rfl, Holds.rd H458_ 7 rfl, Holds.rd H458_ 8 rfl, Holds.slrd H458_ 9 rfl, Holds.rd H458_ 10 rfl, (Holds.ro_at H458_ 5 rfl)⟩, ?_⟩
           exact hJ376 _ _ ⟨b238_, b456_, _, congrArg (fun e => mkA 121 e []) (ch (ch (ch (ch (ch (ch (ch (ch (ch (ch (ch (ch (ch (ch rfl rfl) rfl) rfl) rfl) rfl) rfl) rfl) rfl) rfl) rfl) rfl) rfl) rfl) rfl), H458_, S460_⟩
          intro hJ375
          refine A_cut #[true, true, true, true, true, false, true, false, true, true, true, false, false, false, false, false] 7 (fun a__ w1__ => ∃ b238_ : Nat, ∃ b291_ : Nat, ∃ h : Env, a__ = mkA 121 (upd (upd (upd (upd (upd (upd (upd (upd (upd (upd (upd (upd (upd (upd h 0 (vI .i64 ord)) 7 (vQ b2_)) 8 (vB false)) 9 (vS oa47_ (List.length O49_) oc48_)) 10 (vQ pb50_)) 13 (vQ pb116_)) 15 (vQ b191_)) 63 (vS oa113_ (List.length O115_) oc114_)) 64 (vI .i64 ((List.length O115_) : Int))) 65 (vI .i64 (k : Int))) 70 lv) 73 (vS (some ⟨b238_, 0, none⟩) 1 1)) 75 (vP (some ⟨b191_, 9, none⟩))) 79 (vS (some ⟨b291_, 0, none⟩) 1 1)) [] ∧ Holds w1__ (cl b291_ 3 [(vI .i64 x223_.q.val)] :: cl b238_ 44 [(Value.string x223_.q.in__In_Begin), (Value.string x223_.q.in__In_End), (vB x223_.q.in__In_Point), (vI .i64 x223_.q.in__From), (vI .i64 x223_.q.in__Till)] :: cl b227_ 63 [(vI .i64 x223_.q.kind), (Value.string x223_.q.in__In_Begin), (Value.string x223_.q.in__In_End), (vB x223_.q.in__In_Point), (vI .i64 x223_.q.in__From), (vI .i64 x223_.q.in__Till), (vI .i64 x223_.q.val), (vI .i64 x223_.q.n), x223_.q.other, x223_.q.vals] :: sl 3 1 vv (List.length (List.map (fun x => x.q.val) (List.take k O115_))) ((List.map (fun x => x.q.val) (List.take k O115_)).map (vI .i64)) :: sl 44 5 lv (List.length (List.map (fun x => x.q.sn) (List.take k O115_))) ((List.map (fun x => x.q.sn) (List.take k O115_)).flatMap SN.cells) :: ro R203_ :: cl b191_ 63 [(vI .i64 10), (Value.string q.in__Begin), (Value.string q.in__End), (vB q.in__Point), (vI .i64 q.from_), (vI .i64 q.till), (vI .i64 0), (vI .i64 0), lv, vv] :: cl pb116_ 75 [(vI .i64 ord), pv117_] :: cl pb50_ 75 [(vI .i64 ord), pv51_] :: sl 63 10 (vS oa47_ (List.length O49_) oc48_) (List.length O49_) (O49_.flatMap TX.cells) :: cl b2_ 44 [(Value.string q.in__Begin), (Value.string q.in__End), (vB q.in__Point), (vI .i64 q.from_), (vI .i64 q.till)] :: F) ∧ Same w w1__) ?_ ?_
          ·rintro _ w461_ ⟨b238_, b291_, h, rfl, H462_, S463_⟩
           refine A_ready (i := 5) (rs := [7]) (by kernel_rfl) ?_
           refine AllR.cons ?_ ?_
           ·skip
            refine A_op (ls' := #[true, true, true, true, true, true, true, false, true, true, true, false, false, false, false, false]) rfl (by kernel_rfl) (T_append rfl rfl underlying30 z44 rfl (by decide) H462_ 4 rfl (Holds.cl_src H462_ 1 rfl underlying30 (by simp [Value.oneCell']) rfl) (by first | omega | (simp only [List.length_map, List.length_take]; omega)) ?_)
            intro v464_ w465_ S467_ H466_
            have S468_ := Same.trans S463_ S467_
            refine ⟨⟨Holds.rd H466_ 2 rfl, Holds.rd H466_ 7 rfl, Holds.rd H466_ 8 rfl, Holds.slrd H466_ 9 rfl, Holds.rd H466_ 10 rfl, (Holds.ro_at H466_ 5 rfl)⟩, ?_⟩
            have H469_ := Holds.pkF H466_ [0, 1, 1, 1, 1, 1, 1, 1, 1, 1] 1
            exact hJ374 _ _ ⟨v464_, b291_, _, congrArg (fun e => mkA 121 e []) (ch (ch (ch (ch (ch (ch (ch (ch (ch (ch (ch (ch (ch rfl rfl) rfl) rfl) rfl) rfl) rfl) rfl) rfl) rfl) rfl) rfl) rfl) rfl), H469_, S468_⟩
           refine AllR.cons ?_ AllR.nil
           refine A_op (ls' := #[true, true, true, true, true, false, true, true, true, true, true, false, false, false, false, false]) rfl (by kernel_rfl) (T_val (v := vv) (x_load1 rfl underlying35 rfl ((Holds.rd H462_ 6 rfl) 9 vv rfl)) ?_)
           refine ⟨⟨Holds.rd H462_ 2 rfl, Holds.rd H462_ 7 rfl, Holds.rd H462_ 8 rfl, Holds.slrd H462_ 9 rfl, Holds.rd H462_ 10 rfl, (Holds.ro_at H462_ 5 rfl)⟩, ?_⟩
           exact hJ376 _ _ ⟨b238_, b291_, _, congrArg (fun e => mkA 121 e []) (ch (ch (ch (ch (ch (ch (ch (ch (ch (ch (ch (ch (ch (ch rfl rfl) rfl) rfl) rfl) rfl) rfl) rfl) rfl) rfl) rfl) rfl) rfl) rfl) rfl), H462_, S463_⟩
          intro hJ377
          refine A_cut #[true, true, true, true, false, false, true, true, true, true, true, false, false, false, false, false] 7 (fun a__ w1__ => ∃ b306_ : Nat, ∃ h : Env, a__ = mkA 121 (upd (upd (upd (upd (upd (upd (upd (upd (upd (upd (upd (upd (upd (upd h 0 (vI .i64 ord)) 7 (vQ b2_)) 8 (vB false)) 9 (vS oa47_ (List.length O49_) oc48_)) 10 (vQ pb50_)) 13 (vQ pb116_)) 15 (vQ b191_)) 63 (vS oa113_ (List.length O115_) oc114_)) 64 (vI .i64 ((List.length O115_) : Int))) 65 (vI .i64 (k : Int))) 70 lv) 72 (vA #[(Value.string x223_.q.in__In_Begin), (Value.string x223_.q.in__In_End), (vB x223_.q.in__In_Point), (vI .i64 x223_.q.in__From), (vI .i64 x223_.q.in__Till)])) 76 vv) 79 (vS (some ⟨b306_, 0, none⟩) 1 1)) [] ∧ Holds w1__ (cl b306_ 3 [(vI .i64 x223_.q.val)] :: cl b227_ 63 [(vI .i64 x223_.q.kind), (Value.string x223_.q.in__In_Begin), (Value.string x223_.q.in__In_End), (vB x223_.q.in__In_Point), (vI .i64 x223_.q.in__From), (vI .i64 x223_.q.in__Till), (vI .i64 x223_.q.val), (vI .i64 x223_.q.n), x223_.q.other, x223_.q.vals] :: sl 3 1 vv (List.length (List.map (fun x => x.q.val) (List.take k O115_))) ((List.map (fun x => x.q.val) (List.take k O115_)).map (vI .i64)) :: sl 44 5 lv (List.length (List.map (fun x => x.q.sn) (List.take k O115_))) ((List.map (fun x => x.q.sn) (List.take k O115_)).flatMap SN.cells) :: ro R203_ :: cl b191_ 63 [(vI .i64 10), (Value.string q.in__Begin), (Value.string q.in__End), (vB q.in__Point), (vI .i64 q.from_), (vI .i64 q.till), (vI .i64 0), (vI .i64 0), lv, vv] :: cl pb116_ 75 [(vI .i64 ord), pv117_] :: cl pb50_ 75 [(vI .i64 ord), pv51_] :: sl 63 10 (vS oa47_ (List.length O49_) oc48_) (List.length O49_) (O49_.flatMap TX.cells) :: cl b2_ 44 [(Value.string q.in__Begin), (Value.string q.in__End), (vB q.in__Point), (vI .i64 q.from_), (vI .i64 q.till)] :: F) ∧ Same w w1__) ?_ ?_
          ·rintro _ w470_ ⟨b306_, h, rfl, H471_, S472_⟩
           refine A_ready (i := 4) (rs := []) (by kernel_rfl) ?_
           refine AllR.cons ?_ AllR.nil
           refine A_op (ls' := #[true, true, true, true, true, false, true, true, true, true, true, false, false, false, false, false]) rfl (by kernel_rfl) (T_new (obj := .cells #[(Value.string x223_.q.in__In_Begin), (Value.string x223_.q.in__In_End), (vB x223_.q.in__In_Point), (vI .i64 x223_.q.in__From), (vI .i64 x223_.q.in__Till)] 44) (f := fun b__ => .slice (some ⟨b__, 0, none⟩) 1 1) (A := fun b__ => cl b__ 44 [(Value.string x223_.q.in__In_Begin), (Value.string x223_.q.in__In_End), (vB x223_.q.in__In_Point), (vI .i64 x223_.q.in__From), (vI .i64 x223_.q.in__Till)]) (by kernel_rfl) (fun l h => h.alloc _ _) H471_ ?_)
           intro b473_ w474_ S476_ H475_
           have S477_ := Same.trans S472_ S476_
           refine ⟨⟨Holds.rd H475_ 2 rfl, Holds.rd H475_ 7 rfl, Holds.rd H475_ 8 rfl, Holds.slrd H475_ 9 rfl, Holds.rd H475_ 10 rfl, (Holds.ro_at H475_ 5 rfl)⟩, ?_⟩
           have H478_ := Holds.pkF H475_ [1, 0, 0, 0, 0, 0, 0, 0, 0, 0, 0] 0
           exact hJ376 _ _ ⟨b473_, b306_, _, congrArg (fun e => mkA 121 e []) (ch (ch (ch (ch (ch (ch (ch (ch (ch (ch (ch (ch (ch (ch rfl rfl) rfl) rfl) rfl) rfl) rfl) rfl) rfl) rfl) rfl) rfl) rfl) rfl) rfl), H478_, S477_⟩
          intro hJ379
          refine A_cut #[true, false, true, true, true, false, true, true, true, true, true, false, false, false, false, false] 7 (fun a__ w1__ => ∃ b326_ : Nat, ∃ b331_ : Nat, ∃ h : Env, a__ = mkA 121 (upd (upd (upd (upd (upd (upd (upd (upd (upd (upd (upd (upd (upd (upd h 0 (vI .i64 ord)) 7 (vQ b2_)) 8 (vB false)) 9 (vS oa47_ (List.length O49_) oc48_)) 10 (vQ pb50_)) 13 (vQ pb116_)) 15 (vQ b191_)) 63 (vS oa113_ (List.length O115_) oc114_)) 64 (vI .i64 ((List.length O115_) : Int))) 65 (vI .i64 (k : Int))) 69 (vP (some ⟨b191_, 8, none⟩))) 73 (vS (some ⟨b326_, 0, none⟩) 1 1)) 76 vv) 79 (vS (some ⟨b331_, 0, none⟩) 1 1)) [] ∧ Holds w1__ (cl b331_ 3 [(vI .i64 x223_.q.val)] :: cl b326_ 44 [(Value.string x223_.q.in__In_Begin), (Value.string x223_.q.in__In_End), (vB x223_.q.in__In_Point), (vI .i64 x223_.q.in__From), (vI .i64 x223_.q.in__Till)] :: cl b227_ 63 [(vI .i64 x223_.q.kind), (Value.string x223_.q.in__In_Begin), (Value.string x223_.q.in__In_End), (vB x223_.q.in__In_Point), (vI .i64 x223_.q.in__From), (vI .i64 x223_.q.in__Till), (vI .i64 x223_.q.val), (vI .i64 x223_.q.n), x223_.q.other, x223_.q.vals] :: sl 3 1 vv (List.length (List.map (fun x => x.q.val) (List.take k O115_))) ((List.map (fun x => x.q.val) (List.take k O115_)).map (vI .i64)) :: sl 44 5 lv (List.length (List.map (fun x => x.q.sn) (List.take k O115_))) ((List.map (fun x => x.q.sn) (List.take k O115_)).flatMap SN.cells) :: ro R203_ :: cl b191_ 63 [(vI .i64 10), (Value.string q.in__Begin), (Value.string q.in__End), (vB q.in__Point), (vI .i64 q.from_), (vI .i64 q.till), (vI .i64 0), (vI .i64 0), lv, vv] :: cl pb116_ 75 [(vI .i64 ord), pv117_] :: cl pb50_ 75 [(vI .i64 ord), pv51_] :: sl 63 10 (vS oa47_ (List.length O49_) oc48_) (List.length O49_) (O49_.flatMap TX.cells) :: cl b2_ 44 [(Value.string q.in__Begin), (Value.string q.in__End), (vB q.in__Point), (vI .i64 q.from_), (vI .i64 q.till)] :: F) ∧ Same w w1__) ?_ ?_
          ·rintro _ w479_ ⟨b326_, b331_, h, rfl, H480_, S481_⟩
           refine A_ready (i := 1) (rs := []) (by kernel_rfl) ?_
           refine AllR.cons ?_ AllR.nil
           refine A_op (ls' := #[true, true, true, true, true, false, true, true, true, true, true, false, false, false, false, false]) rfl (by kernel_rfl) (T_val (v := lv) (x_load1 rfl underlying30 rfl ((Holds.rd H480_ 6 rfl) 8 lv rfl)) ?_)
           refine ⟨⟨Holds.rd H480_ 2 rfl, Holds.rd H480_ 7 rfl, Holds.rd H480_ 8 rfl, Holds.slrd H480_ 9 rfl, Holds.rd H480_ 10 rfl, (Holds.ro_at H480_ 5 rfl)⟩, ?_⟩
           exact hJ376 _ _ ⟨b326_, b331_, _, congrArg (fun e => mkA 121 e []) (ch (ch (ch (ch (ch (ch (ch (ch (ch (ch (ch (ch (ch (ch rfl rfl) rfl) rfl) rfl) rfl) rfl) rfl) rfl) rfl) rfl) rfl) rfl) rfl) rfl), H480_, S481_⟩
          intro hJ383
          refine A_cut #[true, true, true, true, true, false, true, false, true, true, false, false, false, false, false, false] 8 (fun a__ w1__ => ∃ b238_ : Nat, ∃ h : Env, a__ = mkA 121 (upd (upd (upd (upd (upd (upd (upd (upd (upd (upd (upd (upd (upd (upd h 0 (vI .i64 ord)) 7 (vQ b2_)) 8 (vB false)) 9 (vS oa47_ (List.length O49_) oc48_)) 10 (vQ pb50_)) 13 (vQ pb116_)) 15 (vQ b191_)) 63 (vS oa113_ (List.length O115_) oc114_)) 64 (vI .i64 ((List.length O115_) : Int))) 65 (vI .i64 (k : Int))) 70 lv) 73 (vS (some ⟨b238_, 0, none⟩) 1 1)) 75 (vP (some ⟨b191_, 9, none⟩))) 78 (vI .i64 x223_.q.val)) [] ∧ Holds w1__ (cl b238_ 44 [(Value.string x223_.q.in__In_Begin), (Value.string x223_.q.in__In_End), (vB x223_.q.in__In_Point), (vI .i64 x223_.q.in__From), (vI .i64 x223_.q.in__Till)] :: cl b227_ 63 [(vI .i64 x223_.q.kind), (Value.string x223_.q.in__In_Begin), (Value.string x223_.q.in__In_End), (vB x223_.q.in__In_Point), (vI .i64 x223_.q.in__From), (vI .i64 x223_.q.in__Till), (vI .i64 x223_.q.val), (vI .i64 x223_.q.n), x223_.q.other, x223_.q.vals] :: sl 3 1 vv (List.length (List.map (fun x => x.q.val) (List.take k O115_))) ((List.map (fun x => x.q.val) (List.take k O115_)).map (vI .i64)) :: sl 44 5 lv (List.length (List.map (fun x => x.q.sn) (List.take k O115_))) ((List.map (fun x => x.q.sn) (List.take k O115_)).flatMap SN.cells) :: ro R203_ :: cl b191_ 63 [(vI .i64 10), (Value.string q.in__Begin), (Value.string q.in__End), (vB q.in__Point), (vI .i64 q.from_), (vI .i64 q.till), (vI .i64 0), (vI .i64 0), lv, vv] :: cl pb116_ 75 [(vI .i64 ord), pv117_] :: cl pb50_ 75 [(vI .i64 ord), pv51_] :: sl 63 10 (vS oa47_ (List.length O49_) oc48_) (List.length O49_) (O49_.flatMap TX.cells) :: cl b2_ 44 [(Value.string q.in__Begin), (Value.string q.in__End), (vB q.in__Point), (vI .i64 q.from_), (vI .i64 q.till)] :: F) ∧ Same w w1__) ?_ ?_
          ·rintro _ w482_ ⟨b238_, h, rfl, H483_, S484_⟩
           refine A_ready (i := 5) (rs := [7, 10]) (by kernel_rfl) ?_
           refine AllR.cons ?_ ?_
           ·skip
            refine A_op (ls' := #[true, true, true, true, true, true, true, false, true, true, false, false, false, false, false, false]) rfl (by kernel_rfl) (T_append rfl rfl underlying30 z44 rfl (by decide) H483_ 3 rfl (Holds.cl_src H483_ 0 rfl underlying30 (by simp [Value.oneCell']) rfl) (by first | omega | (simp only [List.length_map, List.length_take]; omega)) ?_)
            intro v485_ w486_ S488_ H487_
            have S489_ := Same.trans S484_ S488_
            refine ⟨⟨Holds.rd H487_ 1 rfl, Holds.rd H487_ 6 rfl, Holds.rd H487_ 7 rfl, Holds.slrd H487_ 8 rfl, Holds.rd H487_ 9 rfl, (Holds.ro_at H487_ 4 rfl)⟩, ?_⟩
            have H490_ := Holds.pkF H487_ [1, 1, 1, 1, 1, 1, 1, 1, 1] 1
            exact hJ369 _ _ ⟨v485_, _, congrArg (fun e => mkA 121 e []) (ch (ch (ch (ch (ch (ch (ch (ch (ch (ch (ch (ch (ch rfl rfl) rfl) rfl) rfl) rfl) rfl) rfl) rfl) rfl) rfl) rfl) rfl) rfl), H490_, S489_⟩
           refine AllR.cons ?_ ?_
           ·skip
            refine A_op (ls' := #[true, true, true, true, true, false, true, true, true, true, false, false, false, false, false, false]) rfl (by kernel_rfl) (T_val (v := vv) (x_load1 rfl underlying35 rfl ((Holds.rd H483_ 5 rfl) 9 vv rfl)) ?_)
            refine ⟨⟨Holds.rd H483_ 1 rfl, Holds.rd H483_ 6 rfl, Holds.rd H483_ 7 rfl, Holds.slrd H483_ 8 rfl, Holds.rd H483_ 9 rfl, (Holds.ro_at H483_ 4 rfl)⟩, ?_⟩
            exact hJ375 _ _ ⟨b238_, _, congrArg (fun e => mkA 121 e []) (ch (ch (ch (ch (ch (ch (ch (ch (ch (ch (ch (ch (ch (ch rfl rfl) rfl) rfl) rfl) rfl) rfl) rfl) rfl) rfl) rfl) rfl) rfl) rfl) rfl), H483_, S484_⟩
           refine AllR.cons ?_ AllR.nil
           refine A_op (ls' := #[true, true, true, true, true, false, true, false, true, true, true, false, false, false, false, false]) rfl (by kernel_rfl) (T_new (obj := .cells #[(vI .i64 x223_.q.val)] 3) (f := fun b__ => .slice (some ⟨b__, 0, none⟩) 1 1) (A := fun b__ => cl b__ 3 [(vI .i64 x223_.q.val)]) (by kernel_rfl) (fun l h => h.alloc _ _) H483_ ?_)
           intro b491_ w492_ S494_ H493_
           have S495_ := Same.trans S484_ S494_
           refine ⟨⟨Holds.rd H493_ 2 rfl, Holds.rd H493_ 7 rfl, Holds.rd H493_ 8 rfl, Holds.slrd H493_ 9 rfl, Holds.rd H493_ 10 rfl, (Holds.ro_at H493_ 5 rfl)⟩, ?_⟩
           exact hJ377 _ _ ⟨b238_, b491_, _, congrArg (fun e => mkA 121 e []) (ch (ch (ch (ch (ch (ch (ch (ch (ch (ch (ch (ch (ch (ch rfl rfl) rfl) rfl) rfl) rfl) rfl) rfl) rfl) rfl) rfl) rfl) rfl) rfl) rfl), H493_, S495_⟩
          intro hJ368
          refine A_cut #[true, true, true, true, false, false, true, true, true, true, false, false, false, false, false, false] 8 (fun a__ w1__ => ∃ h : Env, a__ = mkA 121 (upd (upd (upd (upd (upd (upd (upd (upd (upd (upd (upd (upd (upd (upd h 0 (vI .i64 ord)) 7 (vQ b2_)) 8 (vB false)) 9 (vS oa47_ (List.length O49_) oc48_)) 10 (vQ pb50_)) 13 (vQ pb116_)) 15 (vQ b191_)) 63 (vS oa113_ (List.length O115_) oc114_)) 64 (vI .i64 ((List.length O115_) : Int))) 65 (vI .i64 (k : Int))) 70 lv) 72 (vA #[(Value.string x223_.q.in__In_Begin), (Value.string x223_.q.in__In_End), (vB x223_.q.in__In_Point), (vI .i64 x223_.q.in__From), (vI .i64 x223_.q.in__Till)])) 76 vv) 78 (vI .i64 x223_.q.val)) [] ∧ Holds w1__ (cl b227_ 63 [(vI .i64 x223_.q.kind), (Value.string x223_.q.in__In_Begin), (Value.string x223_.q.in__In_End), (vB x223_.q.in__In_Point), (vI .i64 x223_.q.in__From), (vI .i64 x223_.q.in__Till), (vI .i64 x223_.q.val), (vI .i64 x223_.q.n), x223_.q.other, x223_.q.vals] :: sl 3 1 vv (List.length (List.map (fun x => x.q.val) (List.take k O115_))) ((List.map (fun x => x.q.val) (List.take k O115_)).map (vI .i64)) :: sl 44 5 lv (List.length (List.map (fun x => x.q.sn) (List.take k O115_))) ((List.map (fun x => x.q.sn) (List.take k O115_)).flatMap SN.cells) :: ro R203_ :: cl b191_ 63 [(vI .i64 10), (Value.string q.in__Begin), (Value.string q.in__End), (vB q.in__Point), (vI .i64 q.from_), (vI .i64 q.till), (vI .i64 0), (vI .i64 0), lv, vv] :: cl pb116_ 75 [(vI .i64 ord), pv117_] :: cl pb50_ 75 [(vI .i64 ord), pv51_] :: sl 63 10 (vS oa47_ (List.length O49_) oc48_) (List.length O49_) (O49_.flatMap TX.cells) :: cl b2_ 44 [(Value.string q.in__Begin), (Value.string q.in__End), (vB q.in__Point), (vI .i64 q.from_), (vI .i64 q.till)] :: F) ∧ Same w w1__) ?_ ?_
          ·rintro _ w496_ ⟨h, rfl, H497_, S498_⟩
           refine A_ready (i := 4) (rs := [10]) (by kernel_rfl) ?_
           refine AllR.cons ?_ ?_
           ·skip
            refine A_op (ls' := #[true, true, true, true, true, false, true, true, true, true, false, false, false, false, false, false]) rfl (by kernel_rfl) (T_new (obj := .cells #[(Value.string x223_.q.in__In_Begin), (Value.string x223_.q.in__In_End), (vB x223_.q.in__In_Point), (vI .i64 x223_.q.in__From), (vI .i64 x223_.q.in__Till)] 44) (f := fun b__ => .slice (some ⟨b__, 0, none⟩) 1 1) (A := fun b__ => cl b__ 44 [(Value.string x223_.q.in__In_Begin), (Value.string x223_.q.in__In_End), (vB x223_.q.in__In_Point), (vI .i64 x223_.q.in__From), (vI .i64 x223_.q.in__Till)]) (by kernel_rfl) (fun l h => h.alloc _ _) H497_ ?_)
            intro b499_ w500_ S502_ H501_
            have S503_ := Same.trans S498_ S502_
            refine ⟨⟨Holds.rd H501_ 1 rfl, Holds.rd H501_ 6 rfl, Holds.rd H501_ 7 rfl, Holds.slrd H501_ 8 rfl, Holds.rd H501_ 9 rfl, (Holds.ro_at H501_ 4 rfl)⟩, ?_⟩
            exact hJ375 _ _ ⟨b499_, _, congrArg (fun e => mkA 121 e []) (ch (ch (ch (ch (ch (ch (ch (ch (ch (ch (ch (ch (ch (ch rfl rfl) rfl) rfl) rfl) rfl) rfl) rfl) rfl) rfl) rfl) rfl) rfl) rfl) rfl), H501_, S503_⟩
           refine AllR.cons ?_ AllR.nil
           refine A_op (ls' := #[true, true, true, true, false, false, true, true, true, true, true, false, false, false, false, false]) rfl (by kernel_rfl) (T_new (obj := .cells #[(vI .i64 x223_.q.val)] 3) (f := fun b__ => .slice (some ⟨b__, 0, none⟩) 1 1) (A := fun b__ => cl b__ 3 [(vI .i64 x223_.q.val)]) (by kernel_rfl) (fun l h => h.alloc _ _) H497_ ?_)
           intro b504_ w505_ S507_ H506_
           have S508_ := Same.trans S498_ S507_
           refine ⟨⟨Holds.rd H506_ 1 rfl, Holds.rd H506_ 6 rfl, Holds.rd H506_ 7 rfl, Holds.slrd H506_ 8 rfl, Holds.rd H506_ 9 rfl, (Holds.ro_at H506_ 4 rfl)⟩, ?_⟩
           exact hJ379 _ _ ⟨b504_, _, congrArg (fun e => mkA 121 e []) (ch (ch (ch (ch (ch (ch (ch (ch (ch (ch (ch (ch (ch (ch rfl rfl) rfl) rfl) rfl) rfl) rfl) rfl) rfl) rfl) rfl) rfl) rfl) rfl) rfl), H506_, S508_⟩
          intro hJ378
          refine A_cut #[true, true, true, true, false, false, true, false, true, true, true, false, false, false, false, false] 8 (fun a__ w1__ => ∃ b316_ : Nat, ∃ h : Env, a__ = mkA 121 (upd (upd (upd (upd (upd (upd (upd (upd (upd (upd (upd (upd (upd (upd h 0 (vI .i64 ord)) 7 (vQ b2_)) 8 (vB false)) 9 (vS oa47_ (List.length O49_) oc48_)) 10 (vQ pb50_)) 13 (vQ pb116_)) 15 (vQ b191_)) 63 (vS oa113_ (List.length O115_) oc114_)) 64 (vI .i64 ((List.length O115_) : Int))) 65 (vI .i64 (k : Int))) 70 lv) 72 (vA #[(Value.string x223_.q.in__In_Begin), (Value.string x223_.q.in__In_End), (vB x223_.q.in__In_Point), (vI .i64 x223_.q.in__From), (vI .i64 x223_.q.in__Till)])) 75 (vP (some ⟨b191_, 9, none⟩))) 79 (vS (some ⟨b316_, 0, none⟩) 1 1)) [] ∧ Holds w1__ (cl b316_ 3 [(vI .i64 x223_.q.val)] :: cl b227_ 63 [(vI .i64 x223_.q.kind), (Value.string x223_.q.in__In_Begin), (Value.string x223_.q.in__In_End), (vB x223_.q.in__In_Point), (vI .i64 x223_.q.in__From), (vI .i64 x223_.q.in__Till), (vI .i64 x223_.q.val), (vI .i64 x223_.q.n), x223_.q.other, x223_.q.vals] :: sl 3 1 vv (List.length (List.map (fun x => x.q.val) (List.take k O115_))) ((List.map (fun x => x.q.val) (List.take k O115_)).map (vI .i64)) :: sl 44 5 lv (List.length (List.map (fun x => x.q.sn) (List.take k O115_))) ((List.map (fun x => x.q.sn) (List.take k O115_)).flatMap SN.cells) :: ro R203_ :: cl b191_ 63 [(vI .i64 10), (Value.string q.in__Begin), (Value.string q.in__End), (vB q.in__Point), (vI .i64 q.from_), (vI .i64 q.till), (vI .i64 0), (vI .i64 0), lv, vv] :: cl pb116_ 75 [(vI .i64 ord), pv117_] :: cl pb50_ 75 [(vI .i64 ord), pv51_] :: sl 63 10 (vS oa47_ (List.length O49_) oc48_) (List.length O49_) (O49_.flatMap TX.cells) :: cl b2_ 44 [(Value.string q.in__Begin), (Value.string q.in__End), (vB q.in__Point), (vI .i64 q.from_), (vI .i64 q.till)] :: F) ∧ Same w w1__) ?_ ?_
          ·rintro _ w509_ ⟨b316_, h, rfl, H510_, S511_⟩
           refine A_ready (i := 4) (rs := [7]) (by kernel_rfl) ?_
           refine AllR.cons ?_ ?_
           ·skip
            refine A_op (ls' := #[true, true, true, true, true, false, true, false, true, true, true, false, false, false, false, false]) rfl (by kernel_rfl) (T_new (obj := .cells #[(Value.string x223_.q.in__In_Begin), (Value.string x223_.q.in__In_End), (vB x223_.q.in__In_Point), (vI .i64 x223_.q.in__From), (vI .i64 x223_.q.in__Till)] 44) (f := fun b__ => .slice (some ⟨b__, 0, none⟩) 1 1) (A := fun b__ => cl b__ 44 [(Value.string x223_.q.in__In_Begin), (Value.string x223_.q.in__In_End), (vB x223_.q.in__In_Point), (vI .i64 x223_.q.in__From), (vI .i64 x223_.q.in__Till)]) (by kernel_rfl) (fun l h => h.alloc _ _) H510_ ?_)
            intro b512_ w513_ S515_ H514_
            have S516_ := Same.trans S511_ S515_
            refine ⟨⟨Holds.rd H514_ 2 rfl, Holds.rd H514_ 7 rfl, Holds.rd H514_ 8 rfl, Holds.slrd H514_ 9 rfl, Holds.rd H514_ 10 rfl, (Holds.ro_at H514_ 5 rfl)⟩, ?_⟩
            have H517_ := Holds.pkF H514_ [1, 0, 0, 0, 0, 0, 0, 0, 0, 0, 0] 0
            exact hJ377 _ _ ⟨b512_, b316_, _, congrArg (fun e => mkA 121 e []) (ch (ch (ch (ch (ch (ch (ch (ch (ch (ch (ch (ch (ch (ch rfl rfl) rfl) rfl) rfl) rfl) rfl) rfl) rfl) rfl) rfl) rfl) rfl) rfl) rfl), H517_, S516_⟩
           refine AllR.cons ?_ AllR.nil
           refine A_op (ls' := #[true, true, true, true, false, false, true, true, true, true, true, false, false, false, false, false]) rfl (by kernel_rfl) (T_val (v := vv) (x_load1 rfl underlying35 rfl ((Holds.rd H510_ 5 rfl) 9 vv rfl)) ?_)
           refine ⟨⟨Holds.rd H510_ 1 rfl, Holds.rd H510_ 6 rfl, Holds.rd H510_ 7 rfl, Holds.slrd H510_ 8 rfl, Holds.rd H510_ 9 rfl, (Holds.ro_at H510_ 4 rfl)⟩, ?_⟩
           exact hJ379 _ _ ⟨b316_, _, congrArg (fun e => mkA 121 e []) (ch (ch (ch (ch (ch (ch (ch (ch (ch (ch (ch (ch (ch (ch rfl rfl) rfl) rfl) rfl) rfl) rfl) rfl) rfl) rfl) rfl) rfl) rfl) rfl) rfl), H510_, S511_⟩
          intro hJ380
          refine A_cut #[true, false, true, true, true, false, true, true, true, true, false, false, false, false, false, false] 8 (fun a__ w1__ => ∃ b326_ : Nat, ∃ h : Env, a__ = mkA 121 (upd (upd (upd (upd (upd (upd (upd (upd (upd (upd (upd (upd (upd (upd h 0 (vI .i64 ord)) 7 (vQ b2_)) 8 (vB false)) 9 (vS oa47_ (List.length O49_) oc48_)) 10 (vQ pb50_)) 13 (vQ pb116_)) 15 (vQ b191_)) 63 (vS oa113_ (List.length O115_) oc114_)) 64 (vI .i64 ((List.length O115_) : Int))) 65 (vI .i64 (k : Int))) 69 (vP (some ⟨b191_, 8, none⟩))) 73 (vS (some ⟨b326_, 0, none⟩) 1 1)) 76 vv) 78 (vI .i64 x223_.q.val)) [] ∧ Holds w1__ (cl b326_ 44 [(Value.string x223_.q.in__In_Begin), (Value.string x223_.q.in__In_End), (vB x223_.q.in__In_Point), (vI .i64 x223_.q.in__From), (vI .i64 x223_.q.in__Till)] :: cl b227_ 63 [(vI .i64 x223_.q.kind), (Value.string x223_.q.in__In_Begin), (Value.string x223_.q.in__In_End), (vB x223_.q.in__In_Point), (vI .i64 x223_.q.in__From), (vI .i64 x223_.q.in__Till), (vI .i64 x223_.q.val), (vI .i64 x223_.q.n), x223_.q.other, x223_.q.vals] :: sl 3 1 vv (List.length (List.map (fun x => x.q.val) (List.take k O115_))) ((List.map (fun x => x.q.val) (List.take k O115_)).map (vI .i64)) :: sl 44 5 lv (List.length (List.map (fun x => x.q.sn) (List.take k O115_))) ((List.map (fun x => x.q.sn) (List.take k O115_)).flatMap SN.cells) :: ro R203_ :: cl b191_ 63 [(vI .i64 10), (Value.string q.in__Begin), (Value.string q.in__End), (vB q.in__Point), (vI .i64 q.from_), (vI .i64 q.till), (vI .i64 0), (vI .i64 0), lv, vv] :: cl pb116_ 75 [(vI .i64 ord), pv117_] :: cl pb50_ 75 [(vI .i64 ord), pv51_] :: sl 63 10 (vS oa47_ (List.length O49_) oc48_) (List.length O49_) (O49_.flatMap TX.cells) :: cl b2_ 44 [(Value.string q.in__Begin), (Value.string q.in__End), (vB q.in__Point), (vI .i64 q.from_), (vI .i64 q.till)] :: F) ∧ Same w w1__) ?_ ?_
          ·rintro _ w518_ ⟨b326_, h, rfl, H519_, S520_⟩
           refine A_ready (i := 1) (rs := [10]) (by kernel_rfl) ?_
           refine AllR.cons ?_ ?_
           ·skip
            refine A_op (ls' := #[true, true, true, true, true, false, true, true, true, true, false, false, false, false, false, false]) rfl (by kernel_rfl) (T_val (v := lv) (x_load1 rfl underlying30 rfl ((Holds.rd H519_ 5 rfl) 8 lv rfl)) ?_)
            refine ⟨⟨Holds.rd H519_ 1 rfl, Holds.rd H519_ 6 rfl, Holds.rd H519_ 7 rfl, Holds.slrd H519_ 8 rfl, Holds.rd H519_ 9 rfl, (Holds.ro_at H519_ 4 rfl)⟩, ?_⟩
            exact hJ375 _ _ ⟨b326_, _, congrArg (fun e => mkA 121 e []) (ch (ch (ch (ch (ch (ch (ch (ch (ch (ch (ch (ch (ch (ch rfl rfl) rfl) rfl) rfl) rfl) rfl) rfl) rfl) rfl) rfl) rfl) rfl) rfl) rfl), H519_, S520_⟩
           refine AllR.cons ?_ AllR.nil
           refine A_op (ls' := #[true, false, true, true, true, false, true, true, true, true, true, false, false, false, false, false]) rfl (by kernel_rfl) (T_new (obj := .cells #[(vI .i64 x223_.q.val)] 3) (f := fun b__ => .slice (some ⟨b__, 0, none⟩) 1 1) (A := fun b__ => cl b__ 3 [(vI .i64 x223_.q.val)]) (by kernel_rfl) (fun l h => h.alloc _ _) H519_ ?_)
           intro b521_ w522_ S524_ H523_
           have S525_ := Same.trans S520_ S524_
           refine ⟨⟨Holds.rd H523_ 2 rfl, Holds.rd H523_ 7 rfl, Holds.rd H523_ 8 rfl, Holds.slrd H523_ 9 rfl, Holds.rd H523_ 10 rfl, (Holds.ro_at H523_ 5 rfl)⟩, ?_⟩
           exact hJ383 _ _ ⟨b326_, b521_, _, congrArg (fun e => mkA 121 e []) (ch (ch (ch (ch (ch (ch (ch (ch (ch (ch (ch (ch (ch (ch rfl rfl) rfl) rfl) rfl) rfl) rfl) rfl) rfl) rfl) rfl) rfl) rfl) rfl) rfl), H523_, S525_⟩
          intro hJ382
          refine A_cut #[true, false, true, true, true, false, true, false, true, true, true, false, false, false, false, false] 8 (fun a__ w1__ => ∃ b326_ : Nat, ∃ b336_ : Nat, ∃ h : Env, a__ = mkA 121 (upd (upd (upd (upd (upd (upd (upd (upd (upd (upd (upd (upd (upd (upd h 0 (vI .i64 ord)) 7 (vQ b2_)) 8 (vB false)) 9 (vS oa47_ (List.length O49_) oc48_)) 10 (vQ pb50_)) 13 (vQ pb116_)) 15 (vQ b191_)) 63 (vS oa113_ (List.length O115_) oc114_)) 64 (vI .i64 ((List.length O115_) : Int))) 65 (vI .i64 (k : Int))) 69 (vP (some ⟨b191_, 8, none⟩))) 73 (vS (some ⟨b326_, 0, none⟩) 1 1)) 75 (vP (some ⟨b191_, 9, none⟩))) 79 (vS (some ⟨b336_, 0, none⟩) 1 1)) [] ∧ Holds w1__ (cl b336_ 3 [(vI .i64 x223_.q.val)] :: cl b326_ 44 [(Value.string x223_.q.in__In_Begin), (Value.string x223_.q.in__In_End), (vB x223_.q.in__In_Point), (vI .i64 x223_.q.in__From), (vI .i64 x223_.q.in__Till)] :: cl b227_ 63 [(vI .i64 x223_.q.kind), (Value.string x223_.q.in__In_Begin), (Value.string x223_.q.in__In_End), (vB x223_.q.in__In_Point), (vI .i64 x223_.q.in__From), (vI .i64 x223_.q.in__Till), (vI .i64 x223_.q.val), (vI .i64 x223_.q.n), x223_.q.other, x223_.q.vals] :: sl 3 1 vv (List.length (List.map (fun x => x.q.val) (List.take k O115_))) ((List.map (fun x => x.q.val) (List.take k O115_)).map (vI .i64)) :: sl 44 5 lv (List.length (List.map (fun x => x.q.sn) (List.take k O115_))) ((List.map (fun x => x.q.sn) (List.take k O115_)).flatMap SN.cells) :: ro R203_ :: cl b191_ 63 [(vI .i64 10), (Value.string q.in__Begin), (Value.string q.in__End), (vB q.in__Point), (vI .i64 q.from_), (vI .i64 q.till), (vI .i64 0), (vI .i64 0), lv, vv] :: cl pb116_ 75 [(vI .i64 ord), pv117_] :: cl pb50_ 75 [(vI .i64 ord), pv51_] :: sl 63 10 (vS oa47_ (List.length O49_) oc48_) (List.length O49_) (O49_.flatMap TX.cells) :: cl b2_ 44 [(Value.string q.in__Begin), (Value.string q.in__End), (vB q.in__Point), (vI .i64 q.from_), (vI .i64 q.till)] :: F) ∧ Same w w1__) ?_ ?_
          ·rintro _ w526_ ⟨b326_, b336_, h, rfl, H527_, S528_⟩
           refine A_ready (i := 1) (rs := [7]) (by kernel_rfl) ?_
           refine AllR.cons ?_ ?_
           ·skip
            refine A_op (ls' := #[true, true, true, true, true, false, true, false, true, true, true, false, false, false, false, false]) rfl (by kernel_rfl) (T_val (v := lv) (x_load1 rfl underlying30 rfl ((Holds.rd H527_ 6 rfl) 8 lv rfl)) ?_)
            refine ⟨⟨Holds.rd H527_ 2 rfl, Holds.rd H527_ 7 rfl, Holds.rd H527_ 8 rfl, Holds.slrd H527_ 9 rfl, Holds.rd H527_ 10 rfl, (Holds.ro_at H527_ 5 rfl)⟩, ?_⟩
            exact hJ377 _ _ ⟨b326_, b336_, _, congrArg (fun e => mkA 121 e []) (ch (ch (ch (ch (ch (ch (ch (ch (ch (ch (ch (ch (ch (ch rfl rfl) rfl) rfl) rfl) rfl) rfl) rfl) rfl) rfl) rfl) rfl) rfl) rfl) rfl), H527_, S528_⟩
           refine AllR.cons ?_ AllR.nil
           refine A_op (ls' := #[true, false, true, true, true, false, true, true, true, true, true, false, false, false, false, false]) rfl (by kernel_rfl) (T_val (v := vv) (x_load1 rfl underlying35 rfl ((Holds.rd H527_ 6 rfl) 9 vv rfl)) ?_)
           refine ⟨⟨Holds.rd H527_ 2 rfl, Holds.rd H527_ 7 rfl, Holds.rd H527_ 8 rfl, Holds.slrd H527_ 9 rfl, Holds.rd H527_ 10 rfl, (Holds.ro_at H527_ 5 rfl)⟩, ?_⟩
           exact hJ383 _ _ ⟨b326_, b336_, _, congrArg (fun e => mkA 121 e []) (ch (ch (ch (ch (ch (ch (ch (ch (ch (ch (ch (ch (ch (ch rfl rfl) rfl) rfl) rfl) rfl) rfl) rfl) rfl) rfl) rfl) rfl) rfl) rfl) rfl), H527_, S528_⟩
          intro hJ384
          refine A_cut #[true, false, true, true, false, false, true, true, true, true, true, false, false, false, false, false] 8 (fun a__ w1__ => ∃ b346_ : Nat, ∃ h : Env, a__ = mkA 121 (upd (upd (upd (upd (upd (upd (upd (upd (upd (upd (upd (upd (upd (upd h 0 (vI .i64 ord)) 7 (vQ b2_)) 8 (vB false)) 9 (vS oa47_ (List.length O49_) oc48_)) 10 (vQ pb50_)) 13 (vQ pb116_)) 15 (vQ b191_)) 63 (vS oa113_ (List.length O115_) oc114_)) 64 (vI .i64 ((List.length O115_) : Int))) 65 (vI .i64 (k : Int))) 69 (vP (some ⟨b191_, 8, none⟩))) 72 (vA #[(Value.string x223_.q.in__In_Begin), (Value.string x223_.q.in__In_End), (vB x223_.q.in__In_Point), (vI .i64 x223_.q.in__From), (vI .i64 x223_.q.in__Till)])) 76 vv) 79 (vS (some ⟨b346_, 0, none⟩) 1 1)) [] ∧ Holds w1__ (cl b346_ 3 [(vI .i64 x223_.q.val)] :: cl b227_ 63 [(vI .i64 x223_.q.kind), (Value.string x223_.q.in__In_Begin), (Value.string x223_.q.in__In_End), (vB x223_.q.in__In_Point), (vI .i64 x223_.q.in__From), (vI .i64 x223_.q.in__Till), (vI .i64 x223_.q.val), (vI .i64 x223_.q.n), x223_.q.other, x223_.q.vals] :: sl 3 1 vv (List.length (List.map (fun x => x.q.val) (List.take k O115_))) ((List.map (fun x => x.q.val) (List.take k O115_)).map (vI .i64)) :: sl 44 5 lv (List.length (List.map (fun x => x.q.sn) (List.take k O115_))) ((List.map (fun x => x.q.sn) (List.take k O115_)).flatMap SN.cells) :: ro R203_ :: cl b191_ 63 [(vI .i64 10), (Value.string q.in__Begin), (Value.string q.in__End), (vB q.in__Point), (vI .i64 q.from_), (vI .i64 q.till), (vI .i64 0), (vI .i64 0), lv, vv] :: cl pb116_ 75 [(vI .i64 ord), pv117_] :: cl pb50_ 75 [(vI .i64 ord), pv51_] :: sl 63 10 (vS oa47_ (List.length O49_) oc48_) (List.length O49_) (O49_.flatMap TX.cells) :: cl b2_ 44 [(Value.string q.in__Begin), (Value.string q.in__End), (vB q.in__Point), (vI .i64 q.from_), (vI .i64 q.till)] :: F) ∧ Same w w1__) ?_ ?_
          ·rintro _ w529_ ⟨b346_, h, rfl, H530_, S531_⟩
           refine A_ready (i := 1) (rs := [4]) (by kernel_rfl) ?_
           refine AllR.cons ?_ ?_
           ·skip
            refine A_op (ls' := #[true, true, true, true, false, false, true, true, true, true, true, false, false, false, false, false]) rfl (by kernel_rfl) (T_val (v := lv) (x_load1 rfl underlying30 rfl ((Holds.rd H530_ 5 rfl) 8 lv rfl)) ?_)
            refine ⟨⟨Holds.rd H530_ 1 rfl, Holds.rd H530_ 6 rfl, Holds.rd H530_ 7 rfl, Holds.slrd H530_ 8 rfl, Holds.rd H530_ 9 rfl, (Holds.ro_at H530_ 4 rfl)⟩, ?_⟩
            exact hJ379 _ _ ⟨b346_, _, congrArg (fun e => mkA 121 e []) (ch (ch (ch (ch (ch (ch (ch (ch (ch (ch (ch (ch (ch (ch rfl rfl) rfl) rfl) rfl) rfl) rfl) rfl) rfl) rfl) rfl) rfl) rfl) rfl) rfl), H530_, S531_⟩
           refine AllR.cons ?_ AllR.nil
           refine A_op (ls' := #[true, false, true, true, true, false, true, true, true, true, true, false, false, false, false, false]) rfl (by kernel_rfl) (T_new (obj := .cells #[(Value.string x223_.q.in__In_Begin), (Value.string x223_.q.in__In_End), (vB x223_.q.in__In_Point), (vI .i64 x223_.q.in__From), (vI .i64 x223_.q.in__Till)] 44) (f := fun b__ => .slice (some ⟨b__, 0, none⟩) 1 1) (A := fun b__ => cl b__ 44 [(Value.string x223_.q.in__In_Begin), (Value.string x223_.q.in__In_End), (vB x223_.q.in__In_Point), (vI .i64 x223_.q.in__From), (vI .i64 x223_.q.in__Till)]) (by kernel_rfl) (fun l h => h.alloc _ _) H530_ ?_)
           intro b532_ w533_ S535_ H534_
           have S536_ := Same.trans S531_ S535_
           refine ⟨⟨Holds.rd H534_ 2 rfl, Holds.rd H534_ 7 rfl, Holds.rd H534_ 8 rfl, Holds.slrd H534_ 9 rfl, Holds.rd H534_ 10 rfl, (Holds.ro_at H534_ 5 rfl)⟩, ?_⟩
           have H537_ := Holds.pkF H534_ [1, 0, 0, 0, 0, 0, 0, 0, 0, 0, 0] 0
           exact hJ383 _ _ ⟨b532_, b346_, _, congrArg (fun e => mkA 121 e []) (ch (ch (ch (ch (ch (ch (ch (ch (ch (ch (ch (ch (ch (ch rfl rfl) rfl) rfl) rfl) rfl) rfl) rfl) rfl) rfl) rfl) rfl) rfl) rfl) rfl), H537_, S536_⟩
          intro hJ386
          refine A_cut #[true, true, true, true, false, false, true, false, true, true, false, false, false, false, false, false] 9 (fun a__ w1__ => ∃ h : Env, a__ = mkA 121 (upd (upd (upd (upd (upd (upd (upd (upd (upd (upd (upd (upd (upd (upd h 0 (vI .i64 ord)) 7 (vQ b2_)) 8 (vB false)) 9 (vS oa47_ (List.length O49_) oc48_)) 10 (vQ pb50_)) 13 (vQ pb116_)) 15 (vQ b191_)) 63 (vS oa113_ (List.length O115_) oc114_)) 64 (vI .i64 ((List.length O115_) : Int))) 65 (vI .i64 (k : Int))) 70 lv) 72 (vA #[(Value.string x223_.q.in__In_Begin), (Value.string x223_.q.in__In_End), (vB x223_.q.in__In_Point), (vI .i64 x223_.q.in__From), (vI .i64 x223_.q.in__Till)])) 75 (vP (some ⟨b191_, 9, none⟩))) 78 (vI .i64 x223_.q.val)) [] ∧ Holds w1__ (cl b227_ 63 [(vI .i64 x223_.q.kind), (Value.string x223_.q.in__In_Begin), (Value.string x223_.q.in__In_End), (vB x223_.q.in__In_Point), (vI .i64 x223_.q.in__From), (vI .i64 x223_.q.in__Till), (vI .i64 x223_.q.val), (vI .i64 x223_.q.n), x223_.q.other, x223_.q.vals] :: sl 3 1 vv (List.length (List.map (fun x => x.q.val) (List.take k O115_))) ((List.map (fun x => x.q.val) (List.take k O115_)).map (vI .i64)) :: sl 44 5 lv (List.length (List.map (fun x => x.q.sn) (List.take k O115_))) ((List.map (fun x => x.q.sn) (List.take k O115_)).flatMap SN.cells) :: ro R203_ :: cl b191_ 63 [(vI .i64 10), (Value.string q.in__Begin), (Value.string q.in__End), (vB q.in__Point), (vI .i64 q.from_), (vI .i64 q.till), (vI .i64 0), (vI .i64 0), lv, vv] :: cl pb116_ 75 [(vI .i64 ord), pv117_] :: cl pb50_ 75 [(vI .i64 ord), pv51_] :: sl 63 10 (vS oa47_ (List.length O49_) oc48_) (List.length O49_) (O49_.flatMap TX.cells) :: cl b2_ 44 [(Value.string q.in__Begin), (Value.string q.in__End), (vB q.in__Point), (vI .i64 q.from_), (vI .i64 q.till)] :: F) ∧ Same w w1__) ?_ ?_
          ·rintro _ w538_ ⟨h, rfl, H539_, S540_⟩
           refine A_ready (i := 4) (rs := [7, 10]) (by kernel_rfl) ?_
           refine AllR.cons ?_ ?_
           ·skip
            refine A_op (ls' := #[true, true, true, true, true, false, true, false, true, true, false, false, false, false, false, false]) rfl (by kernel_rfl) (T_new (obj := .cells #[(Value.string x223_.q.in__In_Begin), (Value.string x223_.q.in__In_End), (vB x223_.q.in__In_Point), (vI .i64 x223_.q.in__From), (vI .i64 x223_.q.in__Till)] 44) (f := fun b__ => .slice (some ⟨b__, 0, none⟩) 1 1) (A := fun b__ => cl b__ 44 [(Value.string x223_.q.in__In_Begin), (Value.string x223_.q.in__In_End), (vB x223_.q.in__In_Point), (vI .i64 x223_.q.in__From), (vI .i64 x223_.q.in__Till)]) (by kernel_rfl) (fun l h => h.alloc _ _) H539_ ?_)
            intro b541_ w542_ S544_ H543_
            have S545_ := Same.trans S540_ S544_
            refine ⟨⟨Holds.rd H543_ 1 rfl, Holds.rd H543_ 6 rfl, Holds.rd H543_ 7 rfl, Holds.slrd H543_ 8 rfl, Holds.rd H543_ 9 rfl, (Holds.ro_at H543_ 4 rfl)⟩, ?_⟩
            exact hJ368 _ _ ⟨b541_, _, congrArg (fun e => mkA 121 e []) (ch (ch (ch (ch (ch (ch (ch (ch (ch (ch (ch (ch (ch (ch rfl rfl) rfl) rfl) rfl) rfl) rfl) rfl) rfl) rfl) rfl) rfl) rfl) rfl) rfl), H543_, S545_⟩
           refine AllR.cons ?_ ?_
           ·skip
            refine A_op (ls' := #[true, true, true, true, false, false, true, true, true, true, false, false, false, false, false, false]) rfl (by kernel_rfl) (T_val (v := vv) (x_load1 rfl underlying35 rfl ((Holds.rd H539_ 4 rfl) 9 vv rfl)) ?_)
            refine ⟨⟨Holds.rd H539_ 0 rfl, Holds.rd H539_ 5 rfl, Holds.rd H539_ 6 rfl, Holds.slrd H539_ 7 rfl, Holds.rd H539_ 8 rfl, (Holds.ro_at H539_ 3 rfl)⟩, ?_⟩
            exact hJ378 _ _ ⟨_, congrArg (fun e => mkA 121 e []) (ch (ch (ch (ch (ch (ch (ch (ch (ch (ch (ch (ch (ch (ch rfl rfl) rfl) rfl) rfl) rfl) rfl) rfl) rfl) rfl) rfl) rfl) rfl) rfl) rfl), H539_, S540_⟩
           refine AllR.cons ?_ AllR.nil
           refine A_op (ls' := #[true, true, true, true, false, false, true, false, true, true, true, false, false, false, false, false]) rfl (by kernel_rfl) (T_new (obj := .cells #[(vI .i64 x223_.q.val)] 3) (f := fun b__ => .slice (some ⟨b__, 0, none⟩) 1 1) (A := fun b__ => cl b__ 3 [(vI .i64 x223_.q.val)]) (by kernel_rfl) (fun l h => h.alloc _ _) H539_ ?_)
           intro b546_ w547_ S549_ H548_
           have S550_ := Same.trans S540_ S549_
           refine ⟨⟨Holds.rd H548_ 1 rfl, Holds.rd H548_ 6 rfl, Holds.rd H548_ 7 rfl, Holds.slrd H548_ 8 rfl, Holds.rd H548_ 9 rfl, (Holds.ro_at H548_ 4 rfl)⟩, ?_⟩
           exact hJ380 _ _ ⟨b546_, _, congrArg (fun e => mkA 121 e []) (ch (ch (ch (ch (ch (ch (ch (ch (ch (ch (ch (ch (ch (ch rfl rfl) rfl) rfl) rfl) rfl) rfl) rfl) rfl) rfl) rfl) rfl) rfl) rfl) rfl), H548_, S550_⟩
          intro hJ367
          refine A_cut #[true, false, true, true, true, false, true, false, true, true, false, false, false, false, false, false] 9 (fun a__ w1__ => ∃ b326_ : Nat, ∃ h : Env, a__ = mkA 121 (upd (upd (upd (upd (upd (upd (upd (upd (upd (upd (upd (upd (upd (upd h 0 (vI .i64 ord)) 7 (vQ b2_)) 8 (vB false)) 9 (vS oa47_ (List.length O49_) oc48_)) 10 (vQ pb50_)) 13 (vQ pb116_)) 15 (vQ b191_)) 63 (vS oa113_ (List.length O115_) oc114_)) 64 (vI .i64 ((List.length O115_) : Int))) 65 (vI .i64 (k : Int))) 69 (vP (some ⟨b191_, 8, none⟩))) 73 (vS (some ⟨b326_, 0, none⟩) 1 1)) 75 (vP (some ⟨b191_, 9, none⟩))) 78 (vI .i64 x223_.q.val)) [] ∧ Holds w1__ (cl b326_ 44 [(Value.string x223_.q.in__In_Begin), (Value.string x223_.q.in__In_End), (vB x223_.q.in__In_Point), (vI .i64 x223_.q.in__From), (vI .i64 x223_.q.in__Till)] :: cl b227_ 63 [(vI .i64 x223_.q.kind), (Value.string x223_.q.in__In_Begin), (Value.string x223_.q.in__In_End), (vB x223_.q.in__In_Point), (vI .i64 x223_.q.in__From), (vI .i64 x223_.q.in__Till), (vI .i64 x223_.q.val), (vI .i64 x223_.q.n), x223_.q.other, x223_.q.vals] :: sl 3 1 vv (List.length (List.map (fun x => x.q.val) (List.take k O115_))) ((List.map (fun x => x.q.val) (List.take k O115_)).map (vI .i64)) :: sl 44 5 lv (List.length (List.map (fun x => x.q.sn) (List.take k O115_))) ((List.map (fun x => x.q.sn) (List.take k O115_)).flatMap SN.cells) :: ro R203_ :: cl b191_ 63 [(vI .i64 10), (Value.string q.in__Begin), (Value.string q.in__End), (vB q.in__Point), (vI .i64 q.from_), (vI .i64 q.till), (vI .i64 0), (vI .i64 0), lv, vv] :: cl pb116_ 75 [(vI .i64 ord), pv117_] :: cl pb50_ 75 [(vI .i64 ord), pv51_] :: sl 63 10 (vS oa47_ (List.length O49_) oc48_) (List.length O49_) (O49_.flatMap TX.cells) :: cl b2_ 44 [(Value.string q.in__Begin), (Value.string q.in__End), (vB q.in__Point), (vI .i64 q.from_), (vI .i64 q.till)] :: F) ∧ Same w w1__) ?_ ?_
          ·rintro _ w551_ ⟨b326_, h, rfl, H552_, S553_⟩
           refine A_ready (i := 1) (rs := [7, 10]) (by kernel_rfl) ?_
           refine AllR.cons ?_ ?_
           ·skip
            refine A_op (ls' := #[true, true, true, true, true, false, true, false, true, true, false, false, false, false, false, false]) rfl (by kernel_rfl) (T_val (v := lv) (x_load1 rfl underlying30 rfl ((Holds.rd H552_ 5 rfl) 8 lv rfl)) ?_)
            refine ⟨⟨Holds.rd H552_ 1 rfl, Holds.rd H552_ 6 rfl, Holds.rd H552_ 7 rfl, Holds.slrd H552_ 8 rfl, Holds.rd H552_ 9 rfl, (Holds.ro_at H552_ 4 rfl)⟩, ?_⟩
            exact hJ368 _ _ ⟨b326_, _, congrArg (fun e => mkA 121 e []) (ch (ch (ch (ch (ch (ch (ch (ch (ch (ch (ch (ch (ch (ch rfl rfl) rfl) rfl) rfl) rfl) rfl) rfl) rfl) rfl) rfl) rfl) rfl) rfl) rfl), H552_, S553_⟩
           refine AllR.cons ?_ ?_
           ·skip
            refine A_op (ls' := #[true, false, true, true, true, false, true, true, true, true, false, false, false, false, false, false]) rfl (by kernel_rfl) (T_val (v := vv) (x_load1 rfl underlying35 rfl ((Holds.rd H552_ 5 rfl) 9 vv rfl)) ?_)
            refine ⟨⟨Holds.rd H552_ 1 rfl, Holds.rd H552_ 6 rfl, Holds.rd H552_ 7 rfl, Holds.slrd H552_ 8 rfl, Holds.rd H552_ 9 rfl, (Holds.ro_at H552_ 4 rfl)⟩, ?_⟩
            exact hJ382 _ _ ⟨b326_, _, congrArg (fun e => mkA 121 e []) (ch (ch (ch (ch (ch (ch (ch (ch (ch (ch (ch (ch (ch (ch rfl rfl) rfl) rfl) rfl) rfl) rfl) rfl) rfl) rfl) rfl) rfl) rfl) rfl) rfl), H552_, S553_⟩
           refine AllR.cons ?_ AllR.nil
           refine A_op (ls' := #[true, false, true, true, true, false, true, false, true, true, true, false, false, false, false, false]) rfl (by kernel_rfl) (T_new (obj := .cells #[(vI .i64 x223_.q.val)] 3) (f := fun b__ => .slice (some ⟨b__, 0, none⟩) 1 1) (A := fun b__ => cl b__ 3 [(vI .i64 x223_.q.val)]) (by kernel_rfl) (fun l h => h.alloc _ _) H552_ ?_)
           intro b554_ w555_ S557_ H556_
           have S558_ := Same.trans S553_ S557_
           refine ⟨⟨Holds.rd H556_ 2 rfl, Holds.rd H556_ 7 rfl, Holds.rd H556_ 8 rfl, Holds.slrd H556_ 9 rfl, Holds.rd H556_ 10 rfl, (Holds.ro_at H556_ 5 rfl)⟩, ?_⟩
           exact hJ384 _ _ ⟨b326_, b554_, _, congrArg (fun e => mkA 121 e []) (ch (ch (ch (ch (ch (ch (ch (ch (ch (ch (ch (ch (ch (ch rfl rfl) rfl) rfl) rfl) rfl) rfl) rfl) rfl) rfl) rfl) rfl) rfl) rfl) rfl), H556_, S558_⟩
          intro hJ381
          refine A_cut #[true, false, true, true, false, false, true, true, true, true, false, false, false, false, false, false] 9 (fun a__ w1__ => ∃ h : Env, a__ = mkA 121 (upd (upd (upd (upd (upd (upd (upd (upd (upd (upd (upd (upd (upd (upd h 0 (vI .i64 ord)) 7 (vQ b2_)) 8 (vB false)) 9 (vS oa47_ (List.length O49_) oc48_)) 10 (vQ pb50_)) 13 (vQ pb116_)) 15 (vQ b191_)) 63 (vS oa113_ (List.length O115_) oc114_)) 64 (vI .i64 ((List.length O115_) : Int))) 65 (vI .i64 (k : Int))) 69 (vP (some ⟨b191_, 8, none⟩))) 72 (vA #[(Value.string x223_.q.in__In_Begin), (Value.string x223_.q.in__In_End), (vB x223_.q.in__In_Point), (vI .i64 x223_.q.in__From), (vI .i64 x223_.q.in__Till)])) 76 vv) 78 (vI .i64 x223_.q.val)) [] ∧ Holds w1__ (cl b227_ 63 [(vI .i64 x223_.q.kind), (Value.string x223_.q.in__In_Begin), (Value.string x223_.q.in__In_End), (vB x223_.q.in__In_Point), (vI .i64 x223_.q.in__From), (vI .i64 x223_.q.in__Till), (vI .i64 x223_.q.val), (vI .i64 x223_.q.n), x223_.q.other, x223_.q.vals] :: sl 3 1 vv (List.length (List.map (fun x => x.q.val) (List.take k O115_))) ((List.map (fun x => x.q.val) (List.take k O115_)).map (vI .i64)) :: sl 44 5 lv (List.length (List.map (fun x => x.q.sn) (List.take k O115_))) ((List.map (fun x => x.q.sn) (List.take k O115_)).flatMap SN.cells) :: ro R203_ :: cl b191_ 63 [(vI .i64 10), (Value.string q.in__Begin), (Value.string q.in__End), (vB q.in__Point), (vI .i64 q.from_), (vI .i64 q.till), (vI .i64 0), (vI .i64 0), lv, vv] :: cl pb116_ 75 [(vI .i64 ord), pv117_] :: cl pb50_ 75 [(vI .i64 ord), pv51_] :: sl 63 10 (vS oa47_ (List.length O49_) oc48_) (List.length O49_) (O49_.flatMap TX.cells) :: cl b2_ 44 [(Value.string q.in__Begin), (Value.string q.in__End), (vB q.in__Point), (vI .i64 q.from_), (vI .i64 q.till)] :: F) ∧ Same w w1__) ?_ ?_
          ·rintro _ w559_ ⟨h, rfl, H560_, S561_⟩
           refine A_ready (i := 1) (rs := [4, 10]) (by kernel_rfl) ?_
           refine AllR.cons ?_ ?_
           ·skip
            refine A_op (ls' := #[true, true, true, true, false, false, true, true, true, true, false, false, false, false, false, false]) rfl (by kernel_rfl) (T_val (v := lv) (x_load1 rfl underlying30 rfl ((Holds.rd H560_ 4 rfl) 8 lv rfl)) ?_)
            refine ⟨⟨Holds.rd H560_ 0 rfl, Holds.rd H560_ 5 rfl, Holds.rd H560_ 6 rfl, Holds.slrd H560_ 7 rfl, Holds.rd H560_ 8 rfl, (Holds.ro_at H560_ 3 rfl)⟩, ?_⟩
            exact hJ378 _ _ ⟨_, congrArg (fun e => mkA 121 e []) (ch (ch (ch (ch (ch (ch (ch (ch (ch (ch (ch (ch (ch (ch rfl rfl) rfl) rfl) rfl) rfl) rfl) rfl) rfl) rfl) rfl) rfl) rfl) rfl) rfl), H560_, S561_⟩
           refine AllR.cons ?_ ?_
           ·skip
            refine A_op (ls' := #[true, false, true, true, true, false, true, true, true, true, false, false, false, false, false, false]) rfl (by kernel_rfl) (T_new (obj := .cells #[(Value.string x223_.q.in__In_Begin), (Value.string x223_.q.in__In_End), (vB x223_.q.in__In_Point), (vI .i64 x223_.q.in__From), (vI .i64 x223_.q.in__Till)] 44) (f := fun b__ => .slice (some ⟨b__, 0, none⟩) 1 1) (A := fun b__ => cl b__ 44 [(Value.string x223_.q.in__In_Begin), (Value.string x223_.q.in__In_End), (vB x223_.q.in__In_Point), (vI .i64 x223_.q.in__From), (vI .i64 x223_.q.in__Till)]) (by kernel_rfl) (fun l h => h.alloc _ _) H560_ ?_)
            intro b562_ w563_ S565_ H564_
            have S566_ := Same.trans S561_ S565_
            refine ⟨⟨Holds.rd H564_ 1 rfl, Holds.rd H564_ 6 rfl, Holds.rd H564_ 7 rfl, Holds.slrd H564_ 8 rfl, Holds.rd H564_ 9 rfl, (Holds.ro_at H564_ 4 rfl)⟩, ?_⟩
            exact hJ382 _ _ ⟨b562_, _, congrArg (fun e => mkA 121 e []) (ch (ch (ch (ch (ch (ch (ch (ch (ch (ch (ch (ch (ch (ch rfl rfl) rfl) rfl) rfl) rfl) rfl) rfl) rfl) rfl) rfl) rfl) rfl) rfl) rfl), H564_, S566_⟩
           refine AllR.cons ?_ AllR.nil
           refine A_op (ls' := #[true, false, true, true, false, false, true, true, true, true, true, false, false, false, false, false]) rfl (by kernel_rfl) (T_new (obj := .cells #[(vI .i64 x223_.q.val)] 3) (f := fun b__ => .slice (some ⟨b__, 0, none⟩) 1 1) (A := fun b__ => cl b__ 3 [(vI .i64 x223_.q.val)]) (by kernel_rfl) (fun l h => h.alloc _ _) H560_ ?_)
           intro b567_ w568_ S570_ H569_
           have S571_ := Same.trans S561_ S570_
           refine ⟨⟨Holds.rd H569_ 1 rfl, Holds.rd H569_ 6 rfl, Holds.rd H569_ 7 rfl, Holds.slrd H569_ 8 rfl, Holds.rd H569_ 9 rfl, (Holds.ro_at H569_ 4 rfl)⟩, ?_⟩
           exact hJ386 _ _ ⟨b567_, _, congrArg (fun e => mkA 121 e []) (ch (ch (ch (ch (ch (ch (ch (ch (ch (ch (ch (ch (ch (ch rfl rfl) rfl) rfl) rfl) rfl) rfl) rfl) rfl) rfl) rfl) rfl) rfl) rfl) rfl), H569_, S571_⟩
          intro hJ385
          refine A_cut #[true, false, true, true, false, false, true, false, true, true, true, false, false, false, false, false] 9 (fun a__ w1__ => ∃ b356_ : Nat, ∃ h : Env, a__ = mkA 121 (upd (upd (upd (upd (upd (upd (upd (upd (upd (upd (upd (upd (upd (upd h 0 (vI .i64 ord)) 7 (vQ b2_)) 8 (vB false)) 9 (vS oa47_ (List.length O49_) oc48_)) 10 (vQ pb50_)) 13 (vQ pb116_)) 15 (vQ b191_)) 63 (vS oa113_ (List.length O115_) oc114_)) 64 (vI .i64 ((List.length O115_) : Int))) 65 (vI .i64 (k : Int))) 69 (vP (some ⟨b191_, 8, none⟩))) 72 (vA #[(Value.string x223_.q.in__In_Begin), (Value.string x223_.q.in__In_End), (vB x223_.q.in__In_Point), (vI .i64 x223_.q.in__From), (vI .i64 x223_.q.in__Till)])) 75 (vP (some ⟨b191_, 9, none⟩))) 79 (vS (some ⟨b356_, 0, none⟩) 1 1)) [] ∧ Holds w1__ (cl b356_ 3 [(vI .i64 x223_.q.val)] :: cl b227_ 63 [(vI .i64 x223_.q.kind), (Value.string x223_.q.in__In_Begin), (Value.string x223_.q.in__In_End), (vB x223_.q.in__In_Point), (vI .i64 x223_.q.in__From), (vI .i64 x223_.q.in__Till), (vI .i64 x223_.q.val), (vI .i64 x223_.q.n), x223_.q.other, x223_.q.vals] :: sl 3 1 vv (List.length (List.map (fun x => x.q.val) (List.take k O115_))) ((List.map (fun x => x.q.val) (List.take k O115_)).map (vI .i64)) :: sl 44 5 lv (List.length (List.map (fun x => x.q.sn) (List.take k O115_))) ((List.map (fun x => x.q.sn) (List.take k O115_)).flatMap SN.cells) :: ro R203_ :: cl b191_ 63 [(vI .i64 10), (Value.string q.in__Begin), (Value.string q.in__End), (vB q.in__Point), (vI .i64 q.from_), (vI .i64 q.till), (vI .i64 0), (vI .i64 0), lv, vv] :: cl pb116_ 75 [(vI .i64 ord), pv117_] :: cl pb50_ 75 [(vI .i64 ord), pv51_] :: sl 63 10 (vS oa47_ (List.length O49_) oc48_) (List.length O49_) (O49_.flatMap TX.cells) :: cl b2_ 44 [(Value.string q.in__Begin), (Value.string q.in__End), (vB q.in__Point), (vI .i64 q.from_), (vI .i64 q.till)] :: F) ∧ Same w w1__) ?_ ?_
          ·rintro _ w572_ ⟨b356_, h, rfl, H573_, S574_⟩
           refine A_ready (i := 1) (rs := [4, 7]) (by kernel_rfl) ?_
           refine AllR.cons ?_ ?_
           ·skip
            refine A_op (ls' := #[true, true, true, true, false, false, true, false, true, true, true, false, false, false, false, false]) rfl (by kernel_rfl) (T_val (v := lv) (x_load1 rfl underlying30 rfl ((Holds.rd H573_ 5 rfl) 8 lv rfl)) ?_)
            refine ⟨⟨Holds.rd H573_ 1 rfl, Holds.rd H573_ 6 rfl, Holds.rd H573_ 7 rfl, Holds.slrd H573_ 8 rfl, Holds.rd H573_ 9 rfl, (Holds.ro_at H573_ 4 rfl)⟩, ?_⟩
            exact hJ380 _ _ ⟨b356_, _, congrArg (fun e => mkA 121 e []) (ch (ch (ch (ch (ch (ch (ch (ch (ch (ch (ch (ch (ch (ch rfl rfl) rfl) rfl) rfl) rfl) rfl) rfl) rfl) rfl) rfl) rfl) rfl) rfl) rfl), H573_, S574_⟩
           refine AllR.cons ?_ ?_
           ·skip
            refine A_op (ls' := #[true, false, true, true, true, false, true, false, true, true, true, false, false, false, false, false]) rfl (by kernel_rfl) (T_new (obj := .cells #[(Value.string x223_.q.in__In_Begin), (Value.string x223_.q.in__In_End), (vB x223_.q.in__In_Point), (vI .i64 x223_.q.in__From), (vI .i64 x223_.q.in__Till)] 44) (f := fun b__ => .slice (some ⟨b__, 0, none⟩) 1 1) (A := fun b__ => cl b__ 44 [(Value.string x223_.q.in__In_Begin), (Value.string x223_.q.in__In_End), (vB x223_.q.in__In_Point), (vI .i64 x223_.q.in__From), (vI .i64 x223_.q.in__Till)]) (by kernel_rfl) (fun l h => h.alloc _ _) H573_ ?_)
            intro b575_ w576_ S578_ H577_
            have S579_ := Same.trans S574_ S578_
            refine ⟨⟨Holds.rd H577_ 2 rfl, Holds.rd H577_ 7 rfl, Holds.rd H577_ 8 rfl, Holds.slrd H577_ 9 rfl, Holds.rd H577_ 10 rfl, (Holds.ro_at H577_ 5 rfl)⟩, ?_⟩
            have H580_ := Holds.pkF H577_ [1, 0, 0, 0, 0, 0, 0, 0, 0, 0, 0] 0
            exact hJ384 _ _ ⟨b575_, b356_, _, congrArg (fun e => mkA 121 e []) (ch (ch (ch (ch (ch (ch (ch (ch (ch (ch (ch (ch (ch (ch rfl rfl) rfl) rfl) rfl) rfl) rfl) rfl) rfl) rfl) rfl) rfl) rfl) rfl) rfl), H580_, S579_⟩
           refine AllR.cons ?_ AllR.nil
           refine A_op (ls' := #[true, false, true, true, false, false, true, true, true, true, true, false, false, false, false, false]) rfl (by kernel_rfl) (T_val (v := vv) (x_load1 rfl underlying35 rfl ((Holds.rd H573_ 5 rfl) 9 vv rfl)) ?_)
           refine ⟨⟨Holds.rd H573_ 1 rfl, Holds.rd H573_ 6 rfl, Holds.rd H573_ 7 rfl, Holds.slrd H573_ 8 rfl, Holds.rd H573_ 9 rfl, (Holds.ro_at H573_ 4 rfl)⟩, ?_⟩
           exact hJ386 _ _ ⟨b356_, _, congrArg (fun e => mkA 121 e []) (ch (ch (ch (ch (ch (ch (ch (ch (ch (ch (ch (ch (ch (ch rfl rfl) rfl) rfl) rfl) rfl) rfl) rfl) rfl) rfl) rfl) rfl) rfl) rfl) rfl), H573_, S574_⟩
          intro hJ387
          have hq581_ := And.intro (Holds.rd H236_ 0 rfl) (And.intro (Holds.rd H236_ 5 rfl) (And.intro (Holds.rd H236_ 6 rfl) (And.intro (Holds.slrd H236_ 7 rfl) (And.intro (Holds.rd H236_ 8 rfl) ((Holds.ro_at H236_ 3 rfl))))))
          refine A_tk 0 (v := (vP (some ⟨b191_, 8, none⟩))) rfl (by kernel_rfl) (fun w hS => by kernel_rfl) hq581_ ?_
          refine A_tk 2 (v := (vP (some ⟨b227_, 1, none⟩))) rfl (by kernel_rfl) (fun w hS => by kernel_rfl) hq581_ ?_
          refine A_tk 3 (v := (vA #[(Value.string x223_.q.in__In_Begin), (Value.string x223_.q.in__In_End), (vB x223_.q.in__In_Point), (vI .i64 x223_.q.in__From), (vI .i64 x223_.q.in__Till)])) rfl (by kernel_rfl) (fun w hS => x_loadN (vs := [(Value.string x223_.q.in__In_Begin), (Value.string x223_.q.in__In_End), (vB x223_.q.in__In_Point), (vI .i64 x223_.q.in__From), (vI .i64 x223_.q.in__Till)]) rfl underlying44 rfl z44 rfl (Rd.cells hS.1 1 rfl)) hq581_ ?_
          refine A_tk 6 (v := (vP (some ⟨b191_, 9, none⟩))) rfl (by kernel_rfl) (fun w hS => by kernel_rfl) hq581_ ?_
          refine A_tk 8 (v := (vP (some ⟨b227_, 6, none⟩))) rfl (by kernel_rfl) (fun w hS => by kernel_rfl) hq581_ ?_
          refine A_tk 9 (v := (vI .i64 x223_.q.val)) rfl (by kernel_rfl) (fun w hS => x_load1 rfl underlying3 rfl (hS.1 6 (vI .i64 x223_.q.val) rfl)) hq581_ ?_
          refine A_ready (i := 1) (rs := [4, 7, 10]) (by kernel_rfl) ?_
          refine AllR.cons ?_ ?_
          ·skip
           refine A_op (ls' := #[true, true, true, true, false, false, true, false, true, true, false, false, false, false, false, false]) rfl (by kernel_rfl) (T_val (v := lv) (x_load1 rfl underlying30 rfl ((Holds.rd H236_ 4 rfl) 8 lv rfl)) ?_)
           refine ⟨⟨Holds.rd H236_ 0 rfl, Holds.rd H236_ 5 rfl, Holds.rd H236_ 6 rfl, Holds.slrd H236_ 7 rfl, Holds.rd H236_ 8 rfl, (Holds.ro_at H236_ 3 rfl)⟩, ?_⟩
           exact hJ367 _ _ ⟨_, congrArg (fun e => mkA 121 e []) (ch (ch (ch (ch (ch (ch (ch (ch (ch (ch (ch (ch (ch (ch rfl rfl) rfl) rfl) rfl) rfl) rfl) rfl) rfl) rfl) rfl) rfl) rfl) rfl) rfl), H236_, (Same.trans S235_ (Same.drew _))⟩
          refine AllR.cons ?_ ?_
          ·skip
           refine A_op (ls' := #[true, false, true, true, true, false, true, false, true, true, false, false, false, false, false, false]) rfl (by kernel_rfl) (T_new (obj := .cells #[(Value.string x223_.q.in__In_Begin), (Value.string x223_.q.in__In_End), (vB x223_.q.in__In_Point), (vI .i64 x223_.q.in__From), (vI .i64 x223_.q.in__Till)] 44) (f := fun b__ => .slice (some ⟨b__, 0, none⟩) 1 1) (A := fun b__ => cl b__ 44 [(Value.string x223_.q.in__In_Begin), (Value.string x223_.q.in__In_End), (vB x223_.q.in__In_Point), (vI .i64 x223_.q.in__From), (vI .i64 x223_.q.in__Till)]) (by kernel_rfl) (fun l h => h.alloc _ _) H236_ ?_)
           intro b582_ w583_ S585_ H584_
           have S586_ := Same.trans (Same.trans S235_ (Same.drew _)) S585_
           refine ⟨⟨Holds.rd H584_ 1 rfl, Holds.rd H584_ 6 rfl, Holds.rd H584_ 7 rfl, Holds.slrd H584_ 8 rfl, Holds.rd H584_ 9 rfl, (Holds.ro_at H584_ 4 rfl)⟩, ?_⟩
           exact hJ381 _ _ ⟨b582_, _, congrArg (fun e => mkA 121 e []) (ch (ch (ch (ch (ch (ch (ch (ch (ch (ch (ch (ch (ch (ch rfl rfl) rfl) rfl) rfl) rfl) rfl) rfl) rfl) rfl) rfl) rfl) rfl) rfl) rfl), H584_, S586_⟩
          refine AllR.cons ?_ ?_
          ·skip
           refine A_op (ls' := #[true, false, true, true, false, false, true, true, true, true, false, false, false, false, false, false]) rfl (by kernel_rfl) (T_val (v := vv) (x_load1 rfl underlying35 rfl ((Holds.rd H236_ 4 rfl) 9 vv rfl)) ?_)
           refine ⟨⟨Holds.rd H236_ 0 rfl, Holds.rd H236_ 5 rfl, Holds.rd H236_ 6 rfl, Holds.slrd H236_ 7 rfl, Holds.rd H236_ 8 rfl, (Holds.ro_at H236_ 3 rfl)⟩, ?_⟩
           exact hJ385 _ _ ⟨_, congrArg (fun e => mkA 121 e []) (ch (ch (ch (ch (ch (ch (ch (ch (ch (ch (ch (ch (ch (ch rfl rfl) rfl) rfl) rfl) rfl) rfl) rfl) rfl) rfl) rfl) rfl) rfl) rfl) rfl), H236_, (Same.trans S235_ (Same.drew _))⟩
          refine AllR.cons ?_ AllR.nil
          refine A_op (ls' := #[true, false, true, true, false, false, true, false, true, true, true, false, false, false, false, false]) rfl (by kernel_rfl) (T_new (obj := .cells #[(vI .i64 x223_.q.val)] 3) (f := fun b__ => .slice (some ⟨b__, 0, none⟩) 1 1) (A := fun b__ => cl b__ 3 [(vI .i64 x223_.q.val)]) (by kernel_rfl) (fun l h => h.alloc _ _) H236_ ?_)
          intro b587_ w588_ S590_ H589_
          have S591_ := Same.trans (Same.trans S235_ (Same.drew _)) S590_
          refine ⟨⟨Holds.rd H589_ 1 rfl, Holds.rd H589_ 6 rfl, Holds.rd H589_ 7 rfl, Holds.slrd H589_ 8 rfl, Holds.rd H589_ 9 rfl, (Holds.ro_at H589_ 4 rfl)⟩, ?_⟩
          exact hJ387 _ _ ⟨b587_, _, congrArg (fun e => mkA 121 e []) (ch (ch (ch (ch (ch (ch (ch (ch (ch (ch (ch (ch (ch (ch rfl rfl) rfl) rfl) rfl) rfl) rfl) rfl) rfl) rfl) rfl) rfl) rfl) rfl) rfl), H589_, S591_⟩
         ·have c220_fp : ¬ ((k : Int) < ((List.length O115_) : Int)) := of_decide_eq_false c220_f
          refine C_exit (X_thenX (X_thenX (X_blkHit ?_)))
          refine (X_then (hK200_ _ _ ?_))
          refine C_seq (fun _ hK592_ => ?_)
          have htk_ : List.take k O115_ = O115_ := List.take_of_length_le (by omega)
          have H593_ := Holds.resl H216_ 1 rfl (by rw [htk_] : (List.map (fun x => x.q.sn) (List.take k O115_)).flatMap SN.cells = (List.map (fun x => x.q.sn) O115_).flatMap SN.cells) (by rw [htk_] : (List.length (List.map (fun x => x.q.sn) (List.take k O115_))) = (List.length (List.map (fun x => x.q.sn) O115_)))
          have H594_ := ((Holds.bring (Holds.bring H593_ 1 rfl) 2 rfl) :)
          obtain ⟨R595_, hs596_, ⟨R597_, ha598_, hs599_⟩, H600_⟩ := Holds.gift H594_
          have hz_R_R595_ := Sub.trans' hz_R_R203_ hs596_
          have hz_R45__R595_ := Sub.trans' hz_R45__R203_ hs596_
          have hz_R111__R595_ := Sub.trans' hs204_ hs596_
          have hr601_ : RS R595_ 5 lv (List.length (List.map (fun x => x.q.sn) O115_)) ((List.map (fun x => x.q.sn) O115_).flatMap SN.cells) := (sl_RS ha598_ (Sub.rfl' _)).mono hs599_
          have H602_ := Holds.resl H600_ 1 rfl (by rw [htk_] : (List.map (fun x => x.q.val) (List.take k O115_)).map (vI .i64) = (List.map (fun x => x.q.val) O115_).map (vI .i64)) (by rw [htk_] : (List.length (List.map (fun x => x.q.val) (List.take k O115_))) = (List.length (List.map (fun x => x.q.val) O115_)))
          obtain ⟨R603_, hs604_, ⟨R605_, ha606_, hs607_⟩, H608_⟩ := Holds.gift H602_
          have hz_R_R603_ := Sub.trans' hz_R_R595_ hs604_
          have hz_R45__R603_ := Sub.trans' hz_R45__R595_ hs604_
          have hz_R111__R603_ := Sub.trans' hz_R111__R595_ hs604_
          have hz_R203__R603_ := Sub.trans' hs596_ hs604_
          have hr609_ : RS R603_ 1 vv (List.length (List.map (fun x => x.q.val) O115_)) ((List.map (fun x => x.q.val) O115_).map (vI .i64)) := (sl_RS ha606_ (Sub.rfl' _)).mono hs607_
          ·skip
           refine A_start (S := fun w => Rd b191_ [(vI .i64 10), (Value.string q.in__Begin), (Value.string q.in__End), (vB q.in__Point), (vI .i64 q.from_), (vI .i64 q.till), (vI .i64 0), (vI .i64 0), lv, vv] w ∧ Rd pb116_ [(vI .i64 ord), pv117_] w ∧ Rd pb50_ [(vI .i64 ord), pv51_] w ∧ SlRd (vS oa47_ (List.length O49_) oc48_) (O49_.flatMap TX.cells) w ∧ Rd b2_ [(Value.string q.in__Begin), (Value.string q.in__End), (vB q.in__Point), (vI .i64 q.from_), (vI .i64 q.till)] w ∧ Sub R603_ (hp w)) (N := 10) foll rfl rfl ?_
           have H610_ := Holds.drew_ H608_
           refine A_cut #[true, true, true, true, true, true, true, true, false, false] 2 (fun a__ w1__ => ∃ v629_ : Value, ∃ h : Env, a__ = mkA 121 (upd (upd (upd (upd (upd (upd (upd h 7 (vQ b2_)) 8 (vB false)) 9 (vS oa47_ (List.length O49_) oc48_)) 10 (vQ pb50_)) 13 (vQ pb116_)) 84 (vI .i64 ord)) 91 v629_) [] ∧ Holds w1__ (sl 63 10 v629_ (0 + (List.length O49_) + 2) (([] ++ (O49_.flatMap TX.cells)) ++ [(vI .i64 10), (Value.string q.in__Begin), (Value.string q.in__End), (vB q.in__Point), (vI .i64 q.from_), (vI .i64 q.till), (vI .i64 0), (vI .i64 0), lv, vv, (vI .i64 8), (Value.string ByteArray.empty), (Value.string ByteArray.empty), (vB false), (vI .i64 0), (vI .i64 0), (vI .i64 0), (vI .i64 0), (vS none 0 0), (vS none 0 0)]) :: ro R603_ :: cl b191_ 63 [(vI .i64 10), (Value.string q.in__Begin), (Value.string q.in__End), (vB q.in__Point), (vI .i64 q.from_), (vI .i64 q.till), (vI .i64 0), (vI .i64 0), lv, vv] :: cl pb116_ 75 [(vI .i64 ord), pv117_] :: cl pb50_ 75 [(vI .i64 ord), pv51_] :: sl 63 10 (vS oa47_ (List.length O49_) oc48_) (List.length O49_) (O49_.flatMap TX.cells) :: cl b2_ 44 [(Value.string q.in__Begin), (Value.string q.in__End), (vB q.in__Point), (vI .i64 q.from_), (vI .i64 q.till)] :: F) ∧ Same w w1__) ?_ ?_
           ·rintro _ w685_ ⟨v629_, h, rfl, H686_, S687_⟩
            refine A_ready (i := 8) (rs := []) (by kernel_rfl) ?_
            refine AllR.cons ?_ AllR.nil
            have H688_ := Holds.resl H686_ 0 rfl (by rw [List.flatMap_append]; rfl : ([] ++ (O49_.flatMap TX.cells)) ++ [(vI .i64 10), (Value.string q.in__Begin), (Value.string q.in__End), (vB q.in__Point), (vI .i64 q.from_), (vI .i64 q.till), (vI .i64 0), (vI .i64 0), lv, vv, (vI .i64 8), (Value.string ByteArray.empty), (Value.string ByteArray.empty), (vB false), (vI .i64 0), (vI .i64 0), (vI .i64 0), (vI .i64 0), (vS none 0 0), (vS none 0 0)] = (O49_ ++ [(uniOp q lv vv O115_), zeroOp]).flatMap TX.cells) (by rw [List.length_append]; first | rfl | (simp; done) | (simp; omega) : 0 + (List.length O49_) + 2 = (List.length (O49_ ++ [(uniOp q lv vv O115_), zeroOp])))
            have hLl_ : List.length (O49_ ++ [(uniOp q lv vv O115_), zeroOp]) = List.length O49_ + 2 := by rw [List.length_append]; rfl
            have H689_ := ((Holds.bring H688_ 1 rfl) :)
            obtain ⟨R690_, hs691_, ⟨R692_, ha693_, hs694_⟩, H695_⟩ := Holds.gift H689_
            have hz_R_R690_ := Sub.trans' hz_R_R603_ hs691_
            have hz_R45__R690_ := Sub.trans' hz_R45__R603_ hs691_
            have hz_R111__R690_ := Sub.trans' hz_R111__R603_ hs691_
            have hz_R203__R690_ := Sub.trans' hz_R203__R603_ hs691_
            have hz_R595__R690_ := Sub.trans' hs604_ hs691_
            have hr696_ : RS R690_ 10 v629_ (List.length (O49_ ++ [(uniOp q lv vv O115_), zeroOp])) ((O49_ ++ [(uniOp q lv vv O115_), zeroOp]).flatMap TX.cells) := (sl_RS ha693_ (Sub.rfl' _)).mono hs694_
            refine A_op (ls' := #[true, true, true, true, true, true, true, true, true, false]) rfl (by kernel_rfl) (T_callG (al := [(vI .i64 ord), v629_]) (pre := []) rfl rfl cb35 (tdTree R690_ ord v629_ (O49_ ++ [(uniOp q lv vv O115_), zeroOp]) hr696_ (by omega) (uni_ok hF0_ hF1_ hor_ hpl0_ hpl1_ hsp_ hf6_ (hr601_.mono hz_R595__R690_) (hr609_.mono hs691_))) H695_ ?_)
            rintro R698_ v699_ p707_ w704_ hs697_ ⟨_, A700_, rfl, rfl, he701_, he702_, he703_⟩ S706_ H705_
            have S708_ := Same.trans S687_ S706_
            have hz_R_R698_ := Sub.trans' hz_R_R690_ hs697_
            have hz_R45__R698_ := Sub.trans' hz_R45__R690_ hs697_
            have hz_R111__R698_ := Sub.trans' hz_R111__R690_ hs697_
            have hz_R203__R698_ := Sub.trans' hz_R203__R690_ hs697_
            have hz_R595__R698_ := Sub.trans' hz_R595__R690_ hs697_
            have hz_R603__R698_ := Sub.trans' hs691_ hs697_
            have hAl_ := he702_
            refine ⟨⟨Holds.rd H705_ 1 rfl, Holds.rd H705_ 2 rfl, Holds.rd H705_ 3 rfl, Holds.slrd H705_ 4 rfl, Holds.rd H705_ 5 rfl, (Sub.trans' hz_R603__R698_ (Holds.ro_at H705_ 0 rfl))⟩, ?_⟩
            have hq709_ := And.intro (Holds.rd H705_ 1 rfl) (And.intro (Holds.rd H705_ 2 rfl) (And.intro (Holds.rd H705_ 3 rfl) (And.intro (Holds.slrd H705_ 4 rfl) (And.intro (Holds.rd H705_ 5 rfl) ((Sub.trans' hz_R603__R698_ (Holds.ro_at H705_ 0 rfl)))))))
            refine A_tk 9 (v := v699_) rfl (by kernel_rfl) (fun w hS => x_assign rfl) hq709_ ?_
            refine A_done (by kernel_rfl) ?_
            refine (X_then (hK592_ _ _ ?_))
            refine C_seq (fun _ hK710_ => ?_)
            refine A_start (S := fun w => Rd pb116_ [(vI .i64 ord), pv117_] w ∧ Rd pb50_ [(vI .i64 ord), pv51_] w ∧ SlRd (vS oa47_ (List.length O49_) oc48_) (O49_.flatMap TX.cells) w ∧ Rd b2_ [(Value.string q.in__Begin), (Value.string q.in__End), (vB q.in__Point), (vI .i64 q.from_), (vI .i64 q.till)] w ∧ Sub R698_ (hp w)) (N := 11) foll rfl rfl ?_
            have H711_ := Holds.drew_ H705_
            have hq712_ := And.intro (Holds.rd H711_ 2 rfl) (And.intro (Holds.rd H711_ 3 rfl) (And.intro (Holds.slrd H711_ 4 rfl) (And.intro (Holds.rd H711_ 5 rfl) ((Holds.ro_at H711_ 0 rfl)))))
            refine A_tk 0 (v := (vQ pb50_)) rfl (by kernel_rfl) (fun w hS => x_move rfl) hq712_ ?_
            refine A_tk 1 (v := (vQ pb50_)) rfl (by kernel_rfl) (fun w hS => by kernel_rfl) hq712_ ?_
            refine A_tk 2 (v := (vP (some ⟨pb50_, 1, none⟩))) rfl (by kernel_rfl) (fun w hS => by kernel_rfl) hq712_ ?_
            refine A_tk 3 (v := pv51_) rfl (by kernel_rfl) (fun w hS => x_load1 rfl underlying73 rfl (hS.2.1 1 pv51_ rfl)) hq712_ ?_
            refine A_tk 4 (v := (vI .i64 ((List.length P52_) : Int))) rfl (by kernel_rfl) (fun w hS => x_lenRS rfl (RS.mono he54_ hz_R45__R698_) underlying73) hq712_ ?_
            refine A_tk 5 (v := (vQ pb116_)) rfl (by kernel_rfl) (fun w hS => x_move rfl) hq712_ ?_
            refine A_tk 6 (v := (vA #[(Value.string q.in__Begin), (Value.string q.in__End), (vB q.in__Point), (vI .i64 q.from_), (vI .i64 q.till)])) rfl (by kernel_rfl) (fun w hS => x_loadN (vs := [(Value.string q.in__Begin), (Value.string q.in__End), (vB q.in__Point), (vI .i64 q.from_), (vI .i64 q.till)]) rfl underlying44 rfl z44 rfl (Rd.cells hS.2.2.2.1 0 rfl)) hq712_ ?_
            refine A_ready (i := 7) (rs := []) (by kernel_rfl) ?_
            refine AllR.cons ?_ AllR.nil
            have H717_ := ((Holds.bring (Holds.bring H711_ 2 rfl) 1 rfl) :)
            refine A_op (ls' := #[true, true, true, true, true, true, true, true, false, false, false]) rfl (by kernel_rfl) (T_callG (al := [(vQ pb116_), (vA #[(Value.string q.in__Begin), (Value.string q.in__End), (vB q.in__Point), (vI .i64 q.from_), (vI .i64 q.till)])]) (pre := [cl pb116_ 75 [(vI .i64 ord), pv117_]]) rfl rfl cb36 (spMeeting R698_ ord pb116_ pv117_ P118_ q ((he120_.mono hz_R111__R698_)) (hF1_.z) (hf6_.1) (by omega)) H717_ ?_)
            rintro R714_ v715_ p721_ w718_ hs713_ ⟨_, rfl, rfl, he716_⟩ S720_ H719_
            have S722_ := Same.trans (Same.trans S708_ (Same.drew _)) S720_
            have hz_R_R714_ := Sub.trans' hz_R_R698_ hs713_
            have hz_R45__R714_ := Sub.trans' hz_R45__R698_ hs713_
            have hz_R111__R714_ := Sub.trans' hz_R111__R698_ hs713_
            have hz_R203__R714_ := Sub.trans' hz_R203__R698_ hs713_
            have hz_R595__R714_ := Sub.trans' hz_R595__R698_ hs713_
            have hz_R603__R714_ := Sub.trans' hz_R603__R698_ hs713_
            have hz_R690__R714_ := Sub.trans' hs697_ hs713_
            have hml_ := List.length_filter_le (fun x => sMeet ord x.sn q) P118_
            refine ⟨⟨Holds.rd H719_ 1 rfl, Holds.rd H719_ 3 rfl, Holds.slrd H719_ 4 rfl, Holds.rd H719_ 5 rfl, (Sub.trans' hs713_ (Holds.ro_at H719_ 0 rfl))⟩, ?_⟩
            have hq723_ := And.intro (Holds.rd H719_ 1 rfl) (And.intro (Holds.rd H719_ 3 rfl) (And.intro (Holds.slrd H719_ 4 rfl) (And.intro (Holds.rd H719_ 5 rfl) ((Sub.trans' hs713_ (Holds.ro_at H719_ 0 rfl))))))
            refine A_tk 8 (v := (vI .i64 ((List.length (List.filter (fun x => sMeet ord x.sn q) P118_)) : Int))) rfl (by kernel_rfl) (fun w hS => x_lenRS rfl he716_ underlying73) hq723_ ?_
            refine A_tk 9 (v := (vI .i64 (((List.length P52_) : Int) + ((List.length (List.filter (fun x => sMeet ord x.sn q) P118_)) : Int)))) rfl (by kernel_rfl) (fun w hS => x_bin rfl rfl (ib_add (IntWalk.i64_in _ (by omega)))) hq723_ ?_
            refine A_tk 10 (v := (vI .i64 (((List.length P52_) : Int) + ((List.length (List.filter (fun x => sMeet ord x.sn q) P118_)) : Int)))) rfl (by kernel_rfl) (fun w hS => x_assign rfl) hq723_ ?_
            refine A_done (by kernel_rfl) ?_
            refine (X_then (hK710_ _ _ ?_))
            refine C_seq (fun _ hK724_ => ?_)
            refine cr fun _ hK725_ => ?_
            refine sv (v := v699_) (x_move rfl) ?_
            refine sv (v := (vI .i64 ((List.length A700_) : Int))) (x_lenRS rfl (RS.mono he701_ hs713_) underlying71) ?_
            refine sm (vS oa47_ (List.length O49_) oc48_) ?_
            refine sv (v := (vI .i64 ((List.length O49_) : Int))) (x_lenSl rfl H719_ 4 rfl underlying66) ?_
            refine sv (v := (vI .i64 (((List.length O49_) : Int) + 2))) (x_bin rfl rfl (ib_add (IntWalk.i64_in _ (by omega)))) ?_
            refine sv (v := (vB (decide (((List.length A700_) : Int) ≠ ((List.length O49_) : Int) + 2)))) (x_bin rfl rfl rfl) ?_
            refine sv (v := (vB (decide (((List.length A700_) : Int) ≠ ((List.length O49_) : Int) + 2)))) (x_move rfl) ?_
            rcases Bool.eq_false_or_eq_true (decide (((List.length A700_) : Int) ≠ ((List.length O49_) : Int) + 2)) with c726_t | c726_f
            ·have c726_tp : ((List.length A700_) : Int) ≠ ((List.length O49_) : Int) + 2 := of_decide_eq_true c726_t
             omega
            ·have c726_fp : ¬ (((List.length A700_) : Int) ≠ ((List.length O49_) : Int) + 2) := of_decide_eq_false c726_f
             refine S_yes (j := 6) (dj := 109) (b := false) rfl rfl (congrArg vB c726_f) (T_val (v := v699_) (x_move rfl) ?_)
             refine S_yes (j := 6) (dj := 109) (b := false) rfl rfl (congrArg vB c726_f) (T_val (v := (vS oa47_ (List.length O49_) oc48_)) (x_move rfl) ?_)
             refine S_yes (j := 6) (dj := 109) (b := false) rfl rfl (congrArg vB c726_f) (T_val (v := (vI .i64 ((List.length O49_) : Int))) (x_lenSl rfl H719_ 4 rfl underlying66) ?_)
             refine S_yes (j := 6) (dj := 109) (b := false) rfl rfl (congrArg vB c726_f) (T_val (v := (vI .i64 (((List.length O49_) : Int) + 1))) (x_bin rfl rfl (ib_add (IntWalk.i64_in _ (by omega)))) ?_)
             obtain ⟨x727_, hx728_, hm729_⟩ := elem_at A700_ ((List.length O49_) + 1) (by omega)
             have han_ := uni_ans hF0_ hF1_ ((he703_.mono hs713_)) hx728_
             refine S_yes (j := 6) (dj := 109) (b := false) rfl rfl (congrArg vB c726_f) (T_val (v := (vP (some ⟨(sb v699_), so v699_ + (((List.length O49_) + 1) * 5 + 0), none⟩))) (x_idxRS (v := v699_) rfl (RS.mono he701_ hs713_) rfl underlying71 z59 (by omega) (by omega) (by omega : _ = (List.length O49_) + 1) rfl) ?_)
             refine S_yes (j := 6) (dj := 109) (b := false) rfl rfl (congrArg vB c726_f) (T_val (v := (vP (some ⟨(sb v699_), so v699_ + (((List.length O49_) + 1) * 5 + 1), none⟩))) (by kernel_rfl) ?_)
             refine S_yes (j := 6) (dj := 109) (b := false) rfl rfl (congrArg vB c726_f) (T_val (v := (vI .i64 x727_.n)) (x_load1 rfl underlying3 rfl (RC.cell (RS.rc (RS.mono he701_ hs713_)) (Holds.ro_at H719_ 0 rfl) (j := ((List.length O49_) + 1) * 5 + 1) (u := (vI .i64 x727_.n)) (fm_cell TA.len hx728_ (i := 1) rfl))) ?_)
             refine S_yes (j := 6) (dj := 109) (b := false) rfl rfl (congrArg vB c726_f) (T_val (v := (vI .i64 (((List.length P52_) : Int) + ((List.length (List.filter (fun x => sMeet ord x.sn q) P118_)) : Int)))) (x_move rfl) ?_)
             refine S_yes (j := 6) (dj := 109) (b := false) rfl rfl (congrArg vB c726_f) (T_val (v := (vB (decide (x727_.n ≠ ((List.length P52_) : Int) + ((List.length (List.filter (fun x => sMeet ord x.sn q) P118_)) : Int))))) (x_bin rfl rfl rfl) ?_)
             refine S_list (T_pickF (v := (vB (decide (x727_.n ≠ ((List.length P52_) : Int) + ((List.length (List.filter (fun x => sMeet ord x.sn q) P118_)) : Int))))) (congrArg vB c726_f) rfl ?_)
             refine wn (hK725_ _ _ ?_)
             refine C_cond (b := decide (x727_.n ≠ ((List.length P52_) : Int) + ((List.length (List.filter (fun x => sMeet ord x.sn q) P118_)) : Int))) rfl (fun c730_t => ?_) (fun c730_f => ?_)
             ·have c730_tp : x727_.n ≠ ((List.length P52_) : Int) + ((List.length (List.filter (fun x => sMeet ord x.sn q) P118_)) : Int) := of_decide_eq_true c730_t
              omega
             ·have c730_fp : ¬ (x727_.n ≠ ((List.length P52_) : Int) + ((List.length (List.filter (fun x => sMeet ord x.sn q) P118_)) : Int)) := of_decide_eq_false c730_f
              refine C_skip (X_then (hK724_ _ _ ?_))
              refine cr fun _ hK731_ => ?_
              refine S_list (T_call (al := []) (pre := []) rfl rfl cb32 (lwLive R714_) H719_ ?_)
              rintro v732_ p736_ w733_ ⟨rfl, rfl⟩ S735_ H734_
              have S737_ := Same.trans S722_ S735_
              refine sv (v := (vB true)) (x_assign rfl) ?_
              refine wn (hK731_ _ _ ?_)
              refine C_ret ?_
              refine R_any (v := (vB true)) (run_results1 rfl rfl) ?_
              have H738_ : Holds w733_ (ro R :: cl pb116_ 75 [(vI .i64 ord), pv117_] :: cl b191_ 63 [(vI .i64 10), (Value.string q.in__Begin), (Value.string q.in__End), (vB q.in__Point), (vI .i64 q.from_), (vI .i64 q.till), (vI .i64 0), (vI .i64 0), lv, vv] :: cl pb50_ 75 [(vI .i64 ord), pv51_] :: sl 63 10 (vS oa47_ (List.length O49_) oc48_) (List.length O49_) (O49_.flatMap TX.cells) :: cl b2_ 44 [(Value.string q.in__Begin), (Value.string q.in__End), (vB q.in__Point), (vI .i64 q.from_), (vI .i64 q.till)] :: F) := Holds.ro_less H734_ hz_R_R714_
              have H739_ := Holds.pkF H738_ [0] 5
              exact ⟨_, _, rfl, ⟨rfl, rfl⟩, S737_, H739_⟩
           intro hJ682
           refine A_cut #[true, true, true, true, true, true, true, false, false, false] 3 (fun a__ w1__ => ∃ v619_ : Value, ∃ b624_ : Nat, ∃ h : Env, a__ = mkA 121 (upd (upd (upd (upd (upd (upd (upd (upd h 7 (vQ b2_)) 8 (vB false)) 9 (vS oa47_ (List.length O49_) oc48_)) 10 (vQ pb50_)) 13 (vQ pb116_)) 84 (vI .i64 ord)) 87 v619_) 90 (vS (some ⟨b624_, 0, none⟩) 2 2)) [] ∧ Holds w1__ (cl b624_ 63 [(vI .i64 10), (Value.string q.in__Begin), (Value.string q.in__End), (vB q.in__Point), (vI .i64 q.from_), (vI .i64 q.till), (vI .i64 0), (vI .i64 0), lv, vv, (vI .i64 8), (Value.string ByteArray.empty), (Value.string ByteArray.empty), (vB false), (vI .i64 0), (vI .i64 0), (vI .i64 0), (vI .i64 0), (vS none 0 0), (vS none 0 0)] :: sl 63 10 v619_ (0 + (List.length O49_)) ([] ++ (O49_.flatMap TX.cells)) :: ro R603_ :: cl b191_ 63 [(vI .i64 10), (Value.string q.in__Begin), (Value.string q.in__End), (vB q.in__Point), (vI .i64 q.from_), (vI .i64 q.till), (vI .i64 0), (vI .i64 0), lv, vv] :: cl pb116_ 75 [(vI .i64 ord), pv117_] :: cl pb50_ 75 [(vI .i64 ord), pv51_] :: sl 63 10 (vS oa47_ (List.length O49_) oc48_) (List.length O49_) (O49_.flatMap TX.cells) :: cl b2_ 44 [(Value.string q.in__Begin), (Value.string q.in__End), (vB q.in__Point), (vI .i64 q.from_), (vI .i64 q.till)] :: F) ∧ Same w w1__) ?_ ?_
           ·rintro _ w740_ ⟨v619_, b624_, h, rfl, H741_, S742_⟩
            refine A_ready (i := 7) (rs := []) (by kernel_rfl) ?_
            refine AllR.cons ?_ AllR.nil
            refine A_op (ls' := #[true, true, true, true, true, true, true, true, false, false]) rfl (by kernel_rfl) (T_append rfl rfl underlying66 z63 rfl (by decide) H741_ 1 rfl (Holds.cl_src H741_ 0 rfl underlying66 (List.forall_mem_cons.2 ⟨rfl, (List.forall_mem_cons.2 ⟨rfl, (List.forall_mem_cons.2 ⟨rfl, (List.forall_mem_cons.2 ⟨rfl, (List.forall_mem_cons.2 ⟨rfl, (List.forall_mem_cons.2 ⟨rfl, (List.forall_mem_cons.2 ⟨rfl, (List.forall_mem_cons.2 ⟨rfl, (List.forall_mem_cons.2 ⟨(RS.one (RS.mono hr601_ hs604_)), (List.forall_mem_cons.2 ⟨(RS.one hr609_), (List.forall_mem_cons.2 ⟨rfl, (List.forall_mem_cons.2 ⟨rfl, (List.forall_mem_cons.2 ⟨rfl, (List.forall_mem_cons.2 ⟨rfl, (List.forall_mem_cons.2 ⟨rfl, (List.forall_mem_cons.2 ⟨rfl, (List.forall_mem_cons.2 ⟨rfl, (List.forall_mem_cons.2 ⟨rfl, (List.forall_mem_cons.2 ⟨rfl, (List.forall_mem_cons.2 ⟨rfl, (fun _ h__ => by cases h__)⟩)⟩)⟩)⟩)⟩)⟩)⟩)⟩)⟩)⟩)⟩)⟩)⟩)⟩)⟩)⟩)⟩)⟩)⟩)⟩) rfl) (by first | omega | (simp only [List.length_append, List.length_cons, List.length_nil]; omega)) ?_)
            intro v743_ w744_ S746_ H745_
            have S747_ := Same.trans S742_ S746_
            refine ⟨⟨Holds.rd H745_ 3 rfl, Holds.rd H745_ 4 rfl, Holds.rd H745_ 5 rfl, Holds.slrd H745_ 6 rfl, Holds.rd H745_ 7 rfl, (Holds.ro_at H745_ 2 rfl)⟩, ?_⟩
            have H748_ := Holds.pkF H745_ [1, 1, 1, 1, 1, 1, 1] 1
            exact hJ682 _ _ ⟨v743_, _, congrArg (fun e => mkA 121 e []) (ch (ch (ch (ch (ch (ch (ch rfl rfl) rfl) rfl) rfl) rfl) rfl) rfl), H748_, S747_⟩
           intro hJ681
           refine A_cut #[true, true, true, true, true, true, false, false, false, false] 4 (fun a__ w1__ => ∃ v619_ : Value, ∃ h : Env, a__ = mkA 121 (upd (upd (upd (upd (upd (upd (upd (upd (upd h 7 (vQ b2_)) 8 (vB false)) 9 (vS oa47_ (List.length O49_) oc48_)) 10 (vQ pb50_)) 13 (vQ pb116_)) 84 (vI .i64 ord)) 87 v619_) 88 (vA #[(vI .i64 10), (Value.string q.in__Begin), (Value.string q.in__End), (vB q.in__Point), (vI .i64 q.from_), (vI .i64 q.till), (vI .i64 0), (vI .i64 0), lv, vv])) 89 (vA #[(vI .i64 8), (Value.string ByteArray.empty), (Value.string ByteArray.empty), (vB false), (vI .i64 0), (vI .i64 0), (vI .i64 0), (vI .i64 0), (vS none 0 0), (vS none 0 0)])) [] ∧ Holds w1__ (sl 63 10 v619_ (0 + (List.length O49_)) ([] ++ (O49_.flatMap TX.cells)) :: ro R603_ :: cl b191_ 63 [(vI .i64 10), (Value.string q.in__Begin), (Value.string q.in__End), (vB q.in__Point), (vI .i64 q.from_), (vI .i64 q.till), (vI .i64 0), (vI .i64 0), lv, vv] :: cl pb116_ 75 [(vI .i64 ord), pv117_] :: cl pb50_ 75 [(vI .i64 ord), pv51_] :: sl 63 10 (vS oa47_ (List.length O49_) oc48_) (List.length O49_) (O49_.flatMap TX.cells) :: cl b2_ 44 [(Value.string q.in__Begin), (Value.string q.in__End), (vB q.in__Point), (vI .i64 q.from_), (vI .i64 q.till)] :: F) ∧ Same w w1__) ?_ ?_
           ·rintro _ w749_ ⟨v619_, h, rfl, H750_, S751_⟩
            refine A_ready (i := 6) (rs := []) (by kernel_rfl) ?_
            refine AllR.cons ?_ AllR.nil
            refine A_op (ls' := #[true, true, true, true, true, true, true, false, false, false]) rfl (by kernel_rfl) (T_new (obj := .cells #[(vI .i64 10), (Value.string q.in__Begin), (Value.string q.in__End), (vB q.in__Point), (vI .i64 q.from_), (vI .i64 q.till), (vI .i64 0), (vI .i64 0), lv, vv, (vI .i64 8), (Value.string ByteArray.empty), (Value.string ByteArray.empty), (vB false), (vI .i64 0), (vI .i64 0), (vI .i64 0), (vI .i64 0), (vS none 0 0), (vS none 0 0)] 63) (f := fun b__ => .slice (some ⟨b__, 0, none⟩) 2 2) (A := fun b__ => cl b__ 63 [(vI .i64 10), (Value.string q.in__Begin), (Value.string q.in__End), (vB q.in__Point), (vI .i64 q.from_), (vI .i64 q.till), (vI .i64 0), (vI .i64 0), lv, vv, (vI .i64 8), (Value.string ByteArray.empty), (Value.string ByteArray.empty), (vB false), (vI .i64 0), (vI .i64 0), (vI .i64 0), (vI .i64 0), (vS none 0 0), (vS none 0 0)]) (by kernel_rfl) (fun l h => h.alloc _ _) H750_ ?_)
            intro b752_ w753_ S755_ H754_
            have S756_ := Same.trans S751_ S755_
            refine ⟨⟨Holds.rd H754_ 3 rfl, Holds.rd H754_ 4 rfl, Holds.rd H754_ 5 rfl, Holds.slrd H754_ 6 rfl, Holds.rd H754_ 7 rfl, (Holds.ro_at H754_ 2 rfl)⟩, ?_⟩
            exact hJ681 _ _ ⟨v619_, b752_, _, congrArg (fun e => mkA 121 e []) (ch (ch (ch (ch (ch (ch (ch (ch rfl rfl) rfl) rfl) rfl) rfl) rfl) rfl) rfl), H754_, S756_⟩
           intro hJ680
           refine A_cut #[true, true, true, false, true, true, true, false, false, false] 4 (fun a__ w1__ => ∃ b612_ : Nat, ∃ b656_ : Nat, ∃ h : Env, a__ = mkA 121 (upd (upd (upd (upd (upd (upd (upd (upd (upd h 7 (vQ b2_)) 8 (vB false)) 9 (vS oa47_ (List.length O49_) oc48_)) 10 (vQ pb50_)) 13 (vQ pb116_)) 84 (vI .i64 ord)) 85 (vS (some ⟨b612_, 0, none⟩) 0 0)) 86 (vS oa47_ (List.length O49_) oc48_)) 90 (vS (some ⟨b656_, 0, none⟩) 2 2)) [] ∧ Holds w1__ (cl b656_ 63 [(vI .i64 10), (Value.string q.in__Begin), (Value.string q.in__End), (vB q.in__Point), (vI .i64 q.from_), (vI .i64 q.till), (vI .i64 0), (vI .i64 0), lv, vv, (vI .i64 8), (Value.string ByteArray.empty), (Value.string ByteArray.empty), (vB false), (vI .i64 0), (vI .i64 0), (vI .i64 0), (vI .i64 0), (vS none 0 0), (vS none 0 0)] :: cl b612_ 63 [] :: ro R603_ :: cl b191_ 63 [(vI .i64 10), (Value.string q.in__Begin), (Value.string q.in__End), (vB q.in__Point), (vI .i64 q.from_), (vI .i64 q.till), (vI .i64 0), (vI .i64 0), lv, vv] :: cl pb116_ 75 [(vI .i64 ord), pv117_] :: cl pb50_ 75 [(vI .i64 ord), pv51_] :: sl 63 10 (vS oa47_ (List.length O49_) oc48_) (List.length O49_) (O49_.flatMap TX.cells) :: cl b2_ 44 [(Value.string q.in__Begin), (Value.string q.in__End), (vB q.in__Point), (vI .i64 q.from_), (vI .i64 q.till)] :: F) ∧ Same w w1__) ?_ ?_
           ·rintro _ w757_ ⟨b612_, b656_, h, rfl, H758_, S759_⟩
            refine A_ready (i := 3) (rs := []) (by kernel_rfl) ?_
            refine AllR.cons ?_ AllR.nil
            have H760_ : Holds w757_ (cl b656_ 63 [(vI .i64 10), (Value.string q.in__Begin), (Value.string q.in__End), (vB q.in__Point), (vI .i64 q.from_), (vI .i64 q.till), (vI .i64 0), (vI .i64 0), lv, vv, (vI .i64 8), (Value.string ByteArray.empty), (Value.string ByteArray.empty), (vB false), (vI .i64 0), (vI .i64 0), (vI .i64 0), (vI .i64 0), (vS none 0 0), (vS none 0 0)] :: cl b612_ 63 ([] ++ [] ++ []) :: ro R603_ :: cl b191_ 63 [(vI .i64 10), (Value.string q.in__Begin), (Value.string q.in__End), (vB q.in__Point), (vI .i64 q.from_), (vI .i64 q.till), (vI .i64 0), (vI .i64 0), lv, vv] :: cl pb116_ 75 [(vI .i64 ord), pv117_] :: cl pb50_ 75 [(vI .i64 ord), pv51_] :: sl 63 10 (vS oa47_ (List.length O49_) oc48_) (List.length O49_) (O49_.flatMap TX.cells) :: cl b2_ 44 [(Value.string q.in__Begin), (Value.string q.in__End), (vB q.in__Point), (vI .i64 q.from_), (vI .i64 q.till)] :: F) := cast1 (P := fun (c__ : List Value) => Holds w757_ (cl b656_ 63 [(vI .i64 10), (Value.string q.in__Begin), (Value.string q.in__End), (vB q.in__Point), (vI .i64 q.from_), (vI .i64 q.till), (vI .i64 0), (vI .i64 0), lv, vv, (vI .i64 8), (Value.string ByteArray.empty), (Value.string ByteArray.empty), (vB false), (vI .i64 0), (vI .i64 0), (vI .i64 0), (vI .i64 0), (vS none 0 0), (vS none 0 0)] :: cl b612_ 63 c__ :: ro R603_ :: cl b191_ 63 [(vI .i64 10), (Value.string q.in__Begin), (Value.string q.in__End), (vB q.in__Point), (vI .i64 q.from_), (vI .i64 q.till), (vI .i64 0), (vI .i64 0), lv, vv] :: cl pb116_ 75 [(vI .i64 ord), pv117_] :: cl pb50_ 75 [(vI .i64 ord), pv51_] :: sl 63 10 (vS oa47_ (List.length O49_) oc48_) (List.length O49_) (O49_.flatMap TX.cells) :: cl b2_ 44 [(Value.string q.in__Begin), (Value.string q.in__End), (vB q.in__Point), (vI .i64 q.from_), (vI .i64 q.till)] :: F)) (by kernel_rfl : [] = [] ++ [] ++ []) H758_
            have H761_ : Holds w757_ (cl b656_ 63 [(vI .i64 10), (Value.string q.in__Begin), (Value.string q.in__End), (vB q.in__Point), (vI .i64 q.from_), (vI .i64 q.till), (vI .i64 0), (vI .i64 0), lv, vv, (vI .i64 8), (Value.string ByteArray.empty), (Value.string ByteArray.empty), (vB false), (vI .i64 0), (vI .i64 0), (vI .i64 0), (vI .i64 0), (vS none 0 0), (vS none 0 0)] :: sl 63 10 (vS (some ⟨b612_, 0, none⟩) 0 0) 0 [] :: ro R603_ :: cl b191_ 63 [(vI .i64 10), (Value.string q.in__Begin), (Value.string q.in__End), (vB q.in__Point), (vI .i64 q.from_), (vI .i64 q.till), (vI .i64 0), (vI .i64 0), lv, vv] :: cl pb116_ 75 [(vI .i64 ord), pv117_] :: cl pb50_ 75 [(vI .i64 ord), pv51_] :: sl 63 10 (vS oa47_ (List.length O49_) oc48_) (List.length O49_) (O49_.flatMap TX.cells) :: cl b2_ 44 [(Value.string q.in__Begin), (Value.string q.in__End), (vB q.in__Point), (vI .i64 q.from_), (vI .i64 q.till)] :: F) := Holds.to_sl H760_ 1 [] [] (xs := []) (m := 0) (cap := 0) (sz := 10) rfl (by kernel_rfl) (by kernel_rfl) (by omega)
            refine A_op (ls' := #[true, true, true, true, true, true, true, false, false, false]) rfl (by kernel_rfl) (T_append rfl rfl underlying66 z63 rfl (by decide) H761_ 1 rfl (Holds.sl_src H761_ 6 rfl underlying66 (ones_fil hF0_)) (by first | omega | (simp only [List.length_append, List.length_cons, List.length_nil]; omega)) ?_)
            intro v762_ w763_ S765_ H764_
            have S766_ := Same.trans S759_ S765_
            refine ⟨⟨Holds.rd H764_ 3 rfl, Holds.rd H764_ 4 rfl, Holds.rd H764_ 5 rfl, Holds.slrd H764_ 6 rfl, Holds.rd H764_ 7 rfl, (Holds.ro_at H764_ 2 rfl)⟩, ?_⟩
            exact hJ681 _ _ ⟨v762_, b656_, _, congrArg (fun e => mkA 121 e []) (ch (ch (ch (ch (ch (ch (ch (ch rfl rfl) rfl) rfl) rfl) rfl) rfl) rfl) rfl), H764_, S766_⟩
           intro hJ683
           refine A_cut #[true, true, true, false, true, true, false, false, false, false] 5 (fun a__ w1__ => ∃ b612_ : Nat, ∃ h : Env, a__ = mkA 121 (upd (upd (upd (upd (upd (upd (upd (upd (upd (upd h 7 (vQ b2_)) 8 (vB false)) 9 (vS oa47_ (List.length O49_) oc48_)) 10 (vQ pb50_)) 13 (vQ pb116_)) 84 (vI .i64 ord)) 85 (vS (some ⟨b612_, 0, none⟩) 0 0)) 86 (vS oa47_ (List.length O49_) oc48_)) 88 (vA #[(vI .i64 10), (Value.string q.in__Begin), (Value.string q.in__End), (vB q.in__Point), (vI .i64 q.from_), (vI .i64 q.till), (vI .i64 0), (vI .i64 0), lv, vv])) 89 (vA #[(vI .i64 8), (Value.string ByteArray.empty), (Value.string ByteArray.empty), (vB false), (vI .i64 0), (vI .i64 0), (vI .i64 0), (vI .i64 0), (vS none 0 0), (vS none 0 0)])) [] ∧ Holds w1__ (cl b612_ 63 [] :: ro R603_ :: cl b191_ 63 [(vI .i64 10), (Value.string q.in__Begin), (Value.string q.in__End), (vB q.in__Point), (vI .i64 q.from_), (vI .i64 q.till), (vI .i64 0), (vI .i64 0), lv, vv] :: cl pb116_ 75 [(vI .i64 ord), pv117_] :: cl pb50_ 75 [(vI .i64 ord), pv51_] :: sl 63 10 (vS oa47_ (List.length O49_) oc48_) (List.length O49_) (O49_.flatMap TX.cells) :: cl b2_ 44 [(Value.string q.in__Begin), (Value.string q.in__End), (vB q.in__Point), (vI .i64 q.from_), (vI .i64 q.till)] :: F) ∧ Same w w1__) ?_ ?_
           ·rintro _ w767_ ⟨b612_, h, rfl, H768_, S769_⟩
            refine A_ready (i := 3) (rs := [6]) (by kernel_rfl) ?_
            refine AllR.cons ?_ ?_
            ·skip
             have H770_ : Holds w767_ (cl b612_ 63 ([] ++ [] ++ []) :: ro R603_ :: cl b191_ 63 [(vI .i64 10), (Value.string q.in__Begin), (Value.string q.in__End), (vB q.in__Point), (vI .i64 q.from_), (vI .i64 q.till), (vI .i64 0), (vI .i64 0), lv, vv] :: cl pb116_ 75 [(vI .i64 ord), pv117_] :: cl pb50_ 75 [(vI .i64 ord), pv51_] :: sl 63 10 (vS oa47_ (List.length O49_) oc48_) (List.length O49_) (O49_.flatMap TX.cells) :: cl b2_ 44 [(Value.string q.in__Begin), (Value.string q.in__End), (vB q.in__Point), (vI .i64 q.from_), (vI .i64 q.till)] :: F) := cast1 (P := fun (c__ : List Value) => Holds w767_ (cl b612_ 63 c__ :: ro R603_ :: cl b191_ 63 [(vI .i64 10), (Value.string q.in__Begin), (Value.string q.in__End), (vB q.in__Point), (vI .i64 q.from_), (vI .i64 q.till), (vI .i64 0), (vI .i64 0), lv, vv] :: cl pb116_ 75 [(vI .i64 ord), pv117_] :: cl pb50_ 75 [(vI .i64 ord), pv51_] :: sl 63 10 (vS oa47_ (List.length O49_) oc48_) (List.length O49_) (O49_.flatMap TX.cells) :: cl b2_ 44 [(Value.string q.in__Begin), (Value.string q.in__End), (vB q.in__Point), (vI .i64 q.from_), (vI .i64 q.till)] :: F)) (by kernel_rfl : [] = [] ++ [] ++ []) H768_
             have H771_ : Holds w767_ (sl 63 10 (vS (some ⟨b612_, 0, none⟩) 0 0) 0 [] :: ro R603_ :: cl b191_ 63 [(vI .i64 10), (Value.string q.in__Begin), (Value.string q.in__End), (vB q.in__Point), (vI .i64 q.from_), (vI .i64 q.till), (vI .i64 0), (vI .i64 0), lv, vv] :: cl pb116_ 75 [(vI .i64 ord), pv117_] :: cl pb50_ 75 [(vI .i64 ord), pv51_] :: sl 63 10 (vS oa47_ (List.length O49_) oc48_) (List.length O49_) (O49_.flatMap TX.cells) :: cl b2_ 44 [(Value.string q.in__Begin), (Value.string q.in__End), (vB q.in__Point), (vI .i64 q.from_), (vI .i64 q.till)] :: F) := Holds.to_sl H770_ 0 [] [] (xs := []) (m := 0) (cap := 0) (sz := 10) rfl (by kernel_rfl) (by kernel_rfl) (by omega)
             refine A_op (ls' := #[true, true, true, true, true, true, false, false, false, false]) rfl (by kernel_rfl) (T_append rfl rfl underlying66 z63 rfl (by decide) H771_ 0 rfl (Holds.sl_src H771_ 5 rfl underlying66 (ones_fil hF0_)) (by first | omega | (simp only [List.length_append, List.length_cons, List.length_nil]; omega)) ?_)
             intro v772_ w773_ S775_ H774_
             have S776_ := Same.trans S769_ S775_
             refine ⟨⟨Holds.rd H774_ 2 rfl, Holds.rd H774_ 3 rfl, Holds.rd H774_ 4 rfl, Holds.slrd H774_ 5 rfl, Holds.rd H774_ 6 rfl, (Holds.ro_at H774_ 1 rfl)⟩, ?_⟩
             exact hJ680 _ _ ⟨v772_, _, congrArg (fun e => mkA 121 e []) (ch (ch (ch (ch (ch (ch (ch (ch (ch rfl rfl) rfl) rfl) rfl) rfl) rfl) rfl) rfl) rfl), H774_, S776_⟩
            refine AllR.cons ?_ AllR.nil
            refine A_op (ls' := #[true, true, true, false, true, true, true, false, false, false]) rfl (by kernel_rfl) (T_new (obj := .cells #[(vI .i64 10), (Value.string q.in__Begin), (Value.string q.in__End), (vB q.in__Point), (vI .i64 q.from_), (vI .i64 q.till), (vI .i64 0), (vI .i64 0), lv, vv, (vI .i64 8), (Value.string ByteArray.empty), (Value.string ByteArray.empty), (vB false), (vI .i64 0), (vI .i64 0), (vI .i64 0), (vI .i64 0), (vS none 0 0), (vS none 0 0)] 63) (f := fun b__ => .slice (some ⟨b__, 0, none⟩) 2 2) (A := fun b__ => cl b__ 63 [(vI .i64 10), (Value.string q.in__Begin), (Value.string q.in__End), (vB q.in__Point), (vI .i64 q.from_), (vI .i64 q.till), (vI .i64 0), (vI .i64 0), lv, vv, (vI .i64 8), (Value.string ByteArray.empty), (Value.string ByteArray.empty), (vB false), (vI .i64 0), (vI .i64 0), (vI .i64 0), (vI .i64 0), (vS none 0 0), (vS none 0 0)]) (by kernel_rfl) (fun l h => h.alloc _ _) H768_ ?_)
            intro b777_ w778_ S780_ H779_
            have S781_ := Same.trans S769_ S780_
            refine ⟨⟨Holds.rd H779_ 3 rfl, Holds.rd H779_ 4 rfl, Holds.rd H779_ 5 rfl, Holds.slrd H779_ 6 rfl, Holds.rd H779_ 7 rfl, (Holds.ro_at H779_ 2 rfl)⟩, ?_⟩
            exact hJ683 _ _ ⟨b612_, b777_, _, congrArg (fun e => mkA 121 e []) (ch (ch (ch (ch (ch (ch (ch (ch (ch rfl rfl) rfl) rfl) rfl) rfl) rfl) rfl) rfl) rfl), H779_, S781_⟩
           intro hJ679
           refine A_cut #[true, false, true, false, true, true, true, false, false, false] 5 (fun a__ w1__ => ∃ b668_ : Nat, ∃ h : Env, a__ = mkA 121 (upd (upd (upd (upd (upd (upd (upd (upd h 7 (vQ b2_)) 8 (vB false)) 9 (vS oa47_ (List.length O49_) oc48_)) 10 (vQ pb50_)) 13 (vQ pb116_)) 84 (vI .i64 ord)) 86 (vS oa47_ (List.length O49_) oc48_)) 90 (vS (some ⟨b668_, 0, none⟩) 2 2)) [] ∧ Holds w1__ (cl b668_ 63 [(vI .i64 10), (Value.string q.in__Begin), (Value.string q.in__End), (vB q.in__Point), (vI .i64 q.from_), (vI .i64 q.till), (vI .i64 0), (vI .i64 0), lv, vv, (vI .i64 8), (Value.string ByteArray.empty), (Value.string ByteArray.empty), (vB false), (vI .i64 0), (vI .i64 0), (vI .i64 0), (vI .i64 0), (vS none 0 0), (vS none 0 0)] :: ro R603_ :: cl b191_ 63 [(vI .i64 10), (Value.string q.in__Begin), (Value.string q.in__End), (vB q.in__Point), (vI .i64 q.from_), (vI .i64 q.till), (vI .i64 0), (vI .i64 0), lv, vv] :: cl pb116_ 75 [(vI .i64 ord), pv117_] :: cl pb50_ 75 [(vI .i64 ord), pv51_] :: sl 63 10 (vS oa47_ (List.length O49_) oc48_) (List.length O49_) (O49_.flatMap TX.cells) :: cl b2_ 44 [(Value.string q.in__Begin), (Value.string q.in__End), (vB q.in__Point), (vI .i64 q.from_), (vI .i64 q.till)] :: F) ∧ Same w w1__) ?_ ?_
           ·rintro _ w782_ ⟨b668_, h, rfl, H783_, S784_⟩
            refine A_ready (i := 1) (rs := []) (by kernel_rfl) ?_
            refine AllR.cons ?_ AllR.nil
            refine A_op (ls' := #[true, true, true, false, true, true, true, false, false, false]) rfl (by kernel_rfl) (T_new (obj := .cells #[] 63) (f := fun b__ => .slice (some ⟨b__, 0, none⟩) 0 0) (A := fun b__ => cl b__ 63 []) (by kernel_rfl) (fun l h => h.alloc _ _) H783_ ?_)
            intro b785_ w786_ S788_ H787_
            have S789_ := Same.trans S784_ S788_
            refine ⟨⟨Holds.rd H787_ 3 rfl, Holds.rd H787_ 4 rfl, Holds.rd H787_ 5 rfl, Holds.slrd H787_ 6 rfl, Holds.rd H787_ 7 rfl, (Holds.ro_at H787_ 2 rfl)⟩, ?_⟩
            have H790_ := Holds.pkF H787_ [1, 0, 0, 0, 0, 0, 0, 0] 0
            exact hJ683 _ _ ⟨b785_, b668_, _, congrArg (fun e => mkA 121 e []) (ch (ch (ch (ch (ch (ch (ch (ch (ch rfl rfl) rfl) rfl) rfl) rfl) rfl) rfl) rfl) rfl), H790_, S789_⟩
           intro hJ684
           have hq791_ := And.intro (Holds.rd H610_ 1 rfl) (And.intro (Holds.rd H610_ 2 rfl) (And.intro (Holds.rd H610_ 3 rfl) (And.intro (Holds.slrd H610_ 4 rfl) (And.intro (Holds.rd H610_ 5 rfl) ((Holds.ro_at H610_ 0 rfl))))))
           refine A_tk 0 (v := (vI .i64 ord)) rfl (by kernel_rfl) (fun w hS => x_move rfl) hq791_ ?_
           refine A_tk 2 (v := (vS oa47_ (List.length O49_) oc48_)) rfl (by kernel_rfl) (fun w hS => x_move rfl) hq791_ ?_
           refine A_tk 4 (v := (vA #[(vI .i64 10), (Value.string q.in__Begin), (Value.string q.in__End), (vB q.in__Point), (vI .i64 q.from_), (vI .i64 q.till), (vI .i64 0), (vI .i64 0), lv, vv])) rfl (by kernel_rfl) (fun w hS => x_loadN (vs := [(vI .i64 10), (Value.string q.in__Begin), (Value.string q.in__End), (vB q.in__Point), (vI .i64 q.from_), (vI .i64 q.till), (vI .i64 0), (vI .i64 0), lv, vv]) rfl underlying63 rfl z63 rfl (Rd.cells hS.1 0 rfl)) hq791_ ?_
           refine A_tk 5 (v := (vA #[(vI .i64 8), (Value.string ByteArray.empty), (Value.string ByteArray.empty), (vB false), (vI .i64 0), (vI .i64 0), (vI .i64 0), (vI .i64 0), (vS none 0 0), (vS none 0 0)])) rfl (by kernel_rfl) (fun w hS => by kernel_rfl) hq791_ ?_
           refine A_ready (i := 1) (rs := [6]) (by kernel_rfl) ?_
           refine AllR.cons ?_ ?_
           ·skip
            refine A_op (ls' := #[true, true, true, false, true, true, false, false, false, false]) rfl (by kernel_rfl) (T_new (obj := .cells #[] 63) (f := fun b__ => .slice (some ⟨b__, 0, none⟩) 0 0) (A := fun b__ => cl b__ 63 []) (by kernel_rfl) (fun l h => h.alloc _ _) H610_ ?_)
            intro b792_ w793_ S795_ H794_
            have S796_ := Same.trans (Same.trans S217_ (Same.drew _)) S795_
            refine ⟨⟨Holds.rd H794_ 2 rfl, Holds.rd H794_ 3 rfl, Holds.rd H794_ 4 rfl, Holds.slrd H794_ 5 rfl, Holds.rd H794_ 6 rfl, (Holds.ro_at H794_ 1 rfl)⟩, ?_⟩
            exact hJ679 _ _ ⟨b792_, _, congrArg (fun e => mkA 121 e []) (ch (ch (ch (ch (ch (ch (ch (ch (ch (ch rfl rfl) rfl) rfl) rfl) rfl) rfl) rfl) rfl) rfl) rfl), H794_, S796_⟩
           refine AllR.cons ?_ AllR.nil
           refine A_op (ls' := #[true, false, true, false, true, true, true, false, false, false]) rfl (by kernel_rfl) (T_new (obj := .cells #[(vI .i64 10), (Value.string q.in__Begin), (Value.string q.in__End), (vB q.in__Point), (vI .i64 q.from_), (vI .i64 q.till), (vI .i64 0), (vI .i64 0), lv, vv, (vI .i64 8), (Value.string ByteArray.empty), (Value.string ByteArray.empty), (vB false), (vI .i64 0), (vI .i64 0), (vI .i64 0), (vI .i64 0), (vS none 0 0), (vS none 0 0)] 63) (f := fun b__ => .slice (some ⟨b__, 0, none⟩) 2 2) (A := fun b__ => cl b__ 63 [(vI .i64 10), (Value.string q.in__Begin), (Value.string q.in__End), (vB q.in__Point), (vI .i64 q.from_), (vI .i64 q.till), (vI .i64 0), (vI .i64 0), lv, vv, (vI .i64 8), (Value.string ByteArray.empty), (Value.string ByteArray.empty), (vB false), (vI .i64 0), (vI .i64 0), (vI .i64 0), (vI .i64 0), (vS none 0 0), (vS none 0 0)]) (by kernel_rfl) (fun l h => h.alloc _ _) H610_ ?_)
           intro b797_ w798_ S800_ H799_
           have S801_ := Same.trans (Same.trans S217_ (Same.drew _)) S800_
           refine ⟨⟨Holds.rd H799_ 2 rfl, Holds.rd H799_ 3 rfl, Holds.rd H799_ 4 rfl, Holds.slrd H799_ 5 rfl, Holds.rd H799_ 6 rfl, (Holds.ro_at H799_ 1 rfl)⟩, ?_⟩
           exact hJ684 _ _ ⟨b797_, _, congrArg (fun e => mkA 121 e []) (ch (ch (ch (ch (ch (ch (ch (ch rfl rfl) rfl) rfl) rfl) rfl) rfl) rfl) rfl), H799_, S801_⟩
end Go.Proofs.Ytlnihndjepjagaa
