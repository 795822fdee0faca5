/- Words, and proved steps, on which the proof leans. -/
import Derived.Test.YtlnihndjepjagaaTv6
set_option linter.unusedVariables false
set_option linter.unusedSimpArgs false
namespace Go.Proofs.Ytlnihndjepjagaa
open Go Go.RowKit Gw
open Go.Value renaming int → vI, bool → vB, slice → vS, pointer → vP, agg → vA, tuple → vT

def liveS : SN := ⟨⟨#[97]⟩, ⟨#[99]⟩, false, 0, 0⟩
def liveL : List TX := [insOp liveS 4, TO.bare ⟨3, ⟨#[97]⟩, ⟨#[99]⟩, false, 0, 0, 0, 0, .slice none 0 0, .slice none 0 0⟩]
def liveX : TAx := ⟨true, 0, [ekSpan (liveS.lo 1) (liveS.hi 1)], [4]⟩
theorem liveSn : SnOk 1 liveS := ⟨⟨by decide, by decide⟩, by decide, by decide, fun h => by cases h⟩
theorem liveM : tdoAll 1 (liveL.take 1) = [⟨liveS.lo 1, liveS.hi 1, 4⟩] := rfl
theorem liveU : UniqK [⟨liveS.lo 1, liveS.hi 1, 4⟩] := fun e he e' he' _ _ => by rw [List.mem_singleton.1 he, List.mem_singleton.1 he']
theorem liveOk (R : HP) : ∀ k x, liveL[k]? = some x → OpOk 1 R (tdoAll 1 (liveL.take k)) x := by
  intro k x hx
  match k with
  | 0 =>
    have : insOp liveS 4 = x := Option.some.inj hx
    subst this
    exact ⟨.inl rfl, liveSn, Nat.zero_le _, (fun h => by cases h), (fun h => by cases h), (fun h => by cases h)⟩
  | 1 =>
    have : TO.bare ⟨3, ⟨#[97]⟩, ⟨#[99]⟩, false, 0, 0, 0, 0, .slice none 0 0, .slice none 0 0⟩ = x := Option.some.inj hx
    subst this
    rw [liveM]
    exact ⟨(by refine .inr ?_; first | rfl | exact .inl rfl), liveSn, (by show 1 ≤ 10000000; decide), (fun _ => liveU), (fun h => by cases h), (fun h => by cases h)⟩
  | k + 2 => cases hx
theorem liveAns : findX 1 [⟨liveS.lo 1, liveS.hi 1, 4⟩] (liveS.lo 1) (liveS.hi 1) = liveX := findX_hit liveU (List.mem_singleton.2 rfl) rfl rfl
theorem liveTo {R : HP} {A : List TA} {a : TA} (h : AnsTo 1 R liveL A) (ha : A[1]? = some a) : AnsAt R a liveX := by
  have := h 1 a _ ha rfl
  rw [liveM] at this
  rw [← liveAns]
  exact this


set_option maxHeartbeats 8000000 in
theorem lwLive (R : HP) :
    Tri Try.prog 32 #[] R [] (fun v__ post__ => v__ = (vB true) ∧ post__ = []) := by
 refine Tri.into (n := 37) (al := []) Try.func32 rfl Try.ntmps32 rfl rfl fun w F H => ?_
 refine C_seq (fun _ hK1_ => C_reg ?_)
 refine sv (v := (vB false)) (x_assign rfl) ?_
 refine wn (hK1_ _ _ ?_)
 refine C_seq (fun _ hK2_ => C_reg ?_)
 refine sv (v := (vA #[(Value.string (ByteArray.mk #[97])), (Value.string (ByteArray.mk #[99])), (vB false)])) (by kernel_rfl) ?_
 refine sv (v := (vA #[(Value.string (ByteArray.mk #[97])), (Value.string (ByteArray.mk #[99])), (vB false), (vI .i64 0), (vI .i64 0)])) (by kernel_rfl) ?_
 refine S_list (T_alloc z44 H ?_)
 intro b3_ w4_ S6_ H5_
 have S7_ := Same.trans (Same.refl w) S6_
 refine S_list0 (T_storeN (vs := [(Value.string (ByteArray.mk #[97])), (Value.string (ByteArray.mk #[99])), (vB false), (vI .i64 0), (vI .i64 0)]) rfl rfl z44 rfl (by simp [Value.oneCell']) H5_ 0 rfl (Nat.le_of_ble_eq_true (by rfl)) ?_)
 intro w8_ S10_ H9_
 have S11_ := Same.trans S7_ S10_
 refine wn (hK2_ _ _ ?_)
 refine C_seq (fun _ hK12_ => C_reg ?_)
 refine sv (v := (vA #[(Value.string (ByteArray.mk #[97])), (Value.string (ByteArray.mk #[99])), (vB false), (vI .i64 0), (vI .i64 0)])) (x_loadN (vs := [(Value.string (ByteArray.mk #[97])), (Value.string (ByteArray.mk #[99])), (vB false), (vI .i64 0), (vI .i64 0)]) rfl Try.underlying44 rfl z44 rfl (Rd.cells (Holds.rd H9_ 0 rfl) 0 rfl)) ?_
 refine sv (v := (vA #[(vI .i64 1), (Value.string (ByteArray.mk #[97])), (Value.string (ByteArray.mk #[99])), (vB false), (vI .i64 0), (vI .i64 0), (vI .i64 4), (vI .i64 0), (vS none 0 0), (vS none 0 0)])) (by kernel_rfl) ?_
 refine sv (v := (vA #[(Value.string (ByteArray.mk #[97])), (Value.string (ByteArray.mk #[99])), (vB false), (vI .i64 0), (vI .i64 0)])) (x_loadN (vs := [(Value.string (ByteArray.mk #[97])), (Value.string (ByteArray.mk #[99])), (vB false), (vI .i64 0), (vI .i64 0)]) rfl Try.underlying44 rfl z44 rfl (Rd.cells (Holds.rd H9_ 0 rfl) 0 rfl)) ?_
 refine sv (v := (vA #[(vI .i64 3), (Value.string (ByteArray.mk #[97])), (Value.string (ByteArray.mk #[99])), (vB false), (vI .i64 0), (vI .i64 0), (vI .i64 0), (vI .i64 0), (vS none 0 0), (vS none 0 0)])) (by kernel_rfl) ?_
 refine S_list (T_new (obj := .cells #[(vI .i64 1), (Value.string (ByteArray.mk #[97])), (Value.string (ByteArray.mk #[99])), (vB false), (vI .i64 0), (vI .i64 0), (vI .i64 4), (vI .i64 0), (vS none 0 0), (vS none 0 0), (vI .i64 3), (Value.string (ByteArray.mk #[97])), (Value.string (ByteArray.mk #[99])), (vB false), (vI .i64 0), (vI .i64 0), (vI .i64 0), (vI .i64 0), (vS none 0 0), (vS none 0 0)] 63) (f := fun b__ => .slice (some ⟨b__, 0, none⟩) 2 2) (A := fun b__ => cl b__ 63 [(vI .i64 1), (Value.string (ByteArray.mk #[97])), (Value.string (ByteArray.mk #[99])), (vB false), (vI .i64 0), (vI .i64 0), (vI .i64 4), (vI .i64 0), (vS none 0 0), (vS none 0 0), (vI .i64 3), (Value.string (ByteArray.mk #[97])), (Value.string (ByteArray.mk #[99])), (vB false), (vI .i64 0), (vI .i64 0), (vI .i64 0), (vI .i64 0), (vS none 0 0), (vS none 0 0)]) (by kernel_rfl) (fun l h => h.alloc _ _) H9_ ?_)
 intro b13_ w14_ S16_ H15_
 have S17_ := Same.trans S11_ S16_
 have H18_ := ((Holds.bring H15_ 2 rfl) :)
 obtain ⟨R19_, hs20_, ⟨R21_, ha22_, hs23_⟩, H24_⟩ := Holds.gift H18_
 have hr25_ : RS R19_ 10 (vS (some ⟨b13_, 0, none⟩) 2 2) 2 (liveL.flatMap TX.cells) := (RS.set_ (cl_RSn (sz := 10) ha22_ (Sub.rfl' _) (by rfl) (by omega)) rfl rfl).mono hs23_
 refine S_list (T_callG (al := [(vI .i64 1), ((vS (some ⟨b13_, 0, none⟩) 2 2))]) (pre := []) rfl (lcons rfl (lcons (rfl : (vS (some ⟨b13_, 0, none⟩) 2 2) = ((vS (some ⟨b13_, 0, none⟩) 2 2))) rfl)) cb35 (tdTree R19_ 1 (vS (some ⟨b13_, 0, none⟩) 2 2) liveL (RS.set_ hr25_ rfl (by first | rfl | omega | (simp; done) | (simp; omega))) (by decide) (liveOk R19_)) H24_ ?_)
 rintro R27_ v28_ p36_ w33_ hs26_ ⟨_, A29_, rfl, rfl, he30_, he31_, he32_⟩ S35_ H34_
 have S37_ := Same.trans S17_ S35_
 have hz_R_R27_ := Sub.trans' hs20_ hs26_
 have hAl_ := he31_
 have hll_ : liveL.length = 2 := rfl
 have hlv_ : liveX.V.length = 1 := rfl
 refine sv (v := v28_) (x_assign rfl) ?_
 refine wn (hK12_ _ _ ?_)
 refine C_seq (fun _ hK38_ => C_reg ?_)
 refine sv (v := v28_) (x_move rfl) ?_
 refine sv (v := (vI .i64 ((List.length A29_) : Int))) (x_lenRS rfl he30_ Try.underlying71) ?_
 refine sv (v := (vB (decide (((List.length A29_) : Int) = 2)))) (x_bin rfl rfl rfl) ?_
 refine sv (v := (vB (decide (((List.length A29_) : Int) = 2)))) (x_move rfl) ?_
 rcases Bool.eq_false_or_eq_true (decide (((List.length A29_) : Int) = 2)) with c39_t | c39_f
 ·have c39_tp : ((List.length A29_) : Int) = 2 := of_decide_eq_true c39_t
  refine S_yes (j := 3) (dj := 14) (b := true) rfl rfl (congrArg vB c39_t) (T_val (v := v28_) (x_move rfl) ?_)
  obtain ⟨x40_, hx41_, hm42_⟩ := elem_at A29_ 1 (by omega)
  have hAa43_ := liveTo (he32_) hx41_
  have hoa_ : x40_.oK = true := hAa43_.1
  refine S_yes (j := 3) (dj := 14) (b := true) rfl rfl (congrArg vB c39_t) (T_val (v := (vP (some ⟨(sb v28_), so v28_ + (5 + 0), none⟩))) (x_idxRS (v := v28_) rfl he30_ rfl Try.underlying71 z59 (by omega) (by omega) (by omega : _ = 1) rfl) ?_)
  refine S_yes (j := 3) (dj := 14) (b := true) rfl rfl (congrArg vB c39_t) (T_val (v := (vP (some ⟨(sb v28_), so v28_ + (5 + 0), none⟩))) (by kernel_rfl) ?_)
  refine S_yes (j := 3) (dj := 14) (b := true) rfl rfl (congrArg vB c39_t) (T_val (v := (vB x40_.oK)) (x_load1 rfl Try.underlying4 rfl (RC.cell (RS.rc he30_) (Holds.ro_at H34_ 0 rfl) (j := 5 + 0) (u := (vB x40_.oK)) (fm_cell TA.len hx41_ (i := 0) rfl))) ?_)
  refine S_list (T_pickT (v := (vB x40_.oK)) (congrArg vB c39_t) rfl ?_)
  refine sm (vB x40_.oK) ?_
  rcases Bool.eq_false_or_eq_true (x40_.oK) with c44_t | c44_f
  ·skip
   refine S_yes (j := 9) (dj := 20) (b := true) rfl rfl (congrArg vB c44_t) (T_val (v := v28_) (x_move rfl) ?_)
   refine S_yes (j := 9) (dj := 20) (b := true) rfl rfl (congrArg vB c44_t) (T_val (v := (vP (some ⟨(sb v28_), so v28_ + (5 + 0), none⟩))) (x_idxRS (v := v28_) rfl he30_ rfl Try.underlying71 z59 (by omega) (by omega) (by omega : _ = 1) rfl) ?_)
   refine S_yes (j := 9) (dj := 20) (b := true) rfl rfl (congrArg vB c44_t) (T_val (v := (vP (some ⟨(sb v28_), so v28_ + (5 + 4), none⟩))) (by kernel_rfl) ?_)
   refine S_yes (j := 9) (dj := 20) (b := true) rfl rfl (congrArg vB c44_t) (T_val (v := x40_.vals) (x_load1 rfl Try.underlying35 rfl (RC.cell (RS.rc he30_) (Holds.ro_at H34_ 0 rfl) (j := 5 + 4) (u := x40_.vals) (fm_cell TA.len hx41_ (i := 4) rfl))) ?_)
   refine S_yes (j := 9) (dj := 20) (b := true) rfl rfl (congrArg vB c44_t) (T_val (v := (vI .i64 ((List.length liveX.V) : Int))) (x_lenRS rfl (hAa43_.2.2.2) Try.underlying35) ?_)
   refine S_yes (j := 9) (dj := 20) (b := true) rfl rfl (congrArg vB c44_t) (T_val (v := (vB (decide (((List.length liveX.V) : Int) = 1)))) (x_bin rfl rfl rfl) ?_)
   refine S_list (T_pickT (v := (vB (decide (((List.length liveX.V) : Int) = 1)))) (congrArg vB c44_t) rfl ?_)
   refine sv (v := (vB (decide (((List.length liveX.V) : Int) = 1)))) (x_move rfl) ?_
   rcases Bool.eq_false_or_eq_true (decide (((List.length liveX.V) : Int) = 1)) with c45_t | c45_f
   ·have c45_tp : ((List.length liveX.V) : Int) = 1 := of_decide_eq_true c45_t
    refine S_yes (j := 17) (dj := 28) (b := true) rfl rfl (congrArg vB c45_t) (T_val (v := v28_) (x_move rfl) ?_)
    refine S_yes (j := 17) (dj := 28) (b := true) rfl rfl (congrArg vB c45_t) (T_val (v := (vP (some ⟨(sb v28_), so v28_ + (5 + 0), none⟩))) (x_idxRS (v := v28_) rfl he30_ rfl Try.underlying71 z59 (by omega) (by omega) (by omega : _ = 1) rfl) ?_)
    refine S_yes (j := 17) (dj := 28) (b := true) rfl rfl (congrArg vB c45_t) (T_val (v := (vP (some ⟨(sb v28_), so v28_ + (5 + 4), none⟩))) (by kernel_rfl) ?_)
    refine S_yes (j := 17) (dj := 28) (b := true) rfl rfl (congrArg vB c45_t) (T_val (v := x40_.vals) (x_load1 rfl Try.underlying35 rfl (RC.cell (RS.rc he30_) (Holds.ro_at H34_ 0 rfl) (j := 5 + 4) (u := x40_.vals) (fm_cell TA.len hx41_ (i := 4) rfl))) ?_)
    obtain ⟨x46_, hx47_, hm48_⟩ := elem_at liveX.V 0 (by omega)
    have hv4_ : x46_ = 4 := (Option.some.inj hx47_).symm
    refine S_yes (j := 17) (dj := 28) (b := true) rfl rfl (congrArg vB c45_t) (T_val (v := (vP (some ⟨(sb x40_.vals), so x40_.vals + 0, none⟩))) (x_idxRS (v := x40_.vals) rfl (hAa43_.2.2.2) rfl Try.underlying35 z3 (by omega) (by omega) (by omega : _ = 0) (by rw [Nat.mul_one])) ?_)
    refine S_yes (j := 17) (dj := 28) (b := true) rfl rfl (congrArg vB c45_t) (T_val (v := (vI .i64 x46_)) (x_load1 rfl Try.underlying3 rfl (RC.cell (RS.rc (hAa43_.2.2.2)) (Holds.ro_at H34_ 0 rfl) (j := 0) (u := (vI .i64 x46_)) ((map_at hx47_)))) ?_)
    refine S_yes (j := 17) (dj := 28) (b := true) rfl rfl (congrArg vB c45_t) (T_val (v := (vB (decide (x46_ = 4)))) (x_bin rfl rfl rfl) ?_)
    refine S_list (T_pickT (v := (vB (decide (x46_ = 4)))) (congrArg vB c45_t) rfl ?_)
    refine sv (v := (vB (decide (x46_ = 4)))) (x_assign rfl) ?_
    refine wn (hK38_ _ _ ?_)
    refine C_ret ?_
    refine R_any (v := (vB (decide (x46_ = 4)))) (run_results1 rfl rfl) ?_
    have H49_ : Holds w33_ (ro R :: cl b3_ 44 [(Value.string (ByteArray.mk #[97])), (Value.string (ByteArray.mk #[99])), (vB false), (vI .i64 0), (vI .i64 0)] :: F) := Holds.ro_less H34_ hz_R_R27_
    have H50_ := Holds.pkF H49_ [0] 1
    exact ⟨_, _, rfl, ⟨(congrArg vB ((by have h__ := hv4_; rw [h__]; rfl) : (decide (x46_ = 4)) = true)), rfl⟩, S37_, H50_⟩
   ·have c45_fp : ¬ (((List.length liveX.V) : Int) = 1) := of_decide_eq_false c45_f
    omega
  ·skip
   exact absurd hoa_ (by rw [c44_f]; decide)
 ·have c39_fp : ¬ (((List.length A29_) : Int) = 2) := of_decide_eq_false c39_f
  omega

end Go.Proofs.Ytlnihndjepjagaa
set_option linter.unusedVariables false
set_option linter.unusedSimpArgs false
namespace Go.Proofs.Ytlnihndjepjagaa
open Go Go.RowKit Gw
open Go.Value renaming int → vI, bool → vB, slice → vS, pointer → vP, agg → vA, tuple → vT

set_option maxHeartbeats 8000000 in
theorem spListed (R : HP) (v : Value) (P : List PN) (most : Int) (hP : RS R 6 v (List.length P) (P.flatMap PN.cells)) (hn : P.length ≤ 100000) :
    TriG Try.prog 82 #[v, (vI .i64 most)] R [] (fun R' v__ post__ => ∃ (a : TA), v__ = (vA #[(vB a.oK), (vI .i64 a.n), (vI .i64 a.most), a.list, a.vals]) ∧ post__ = [] ∧ (AnsAt R' a (⟨false, 0, List.map PN.sn (visL most P), List.map PN.val (visL most P)⟩ : TAx))) := by
 refine TriG.into (n := 38) (al := [v, (vI .i64 most)]) Try.func82 rfl Try.ntmps82 rfl rfl fun w F H => ?_
 refine C_seq (fun _ hK1_ => C_reg ?_)
 refine S_list (T_alloc z59 H ?_)
 intro b2_ w3_ S5_ H4_
 have S6_ := Same.trans (Same.refl w) S5_
 refine wn (hK1_ _ _ ?_)
 refine C_seq (fun _ hK7_ => C_reg ?_)
 refine S_list (T_alloc z59 H4_ ?_)
 intro b8_ w9_ S11_ H10_
 have S12_ := Same.trans S6_ S11_
 refine wn (hK7_ _ _ ?_)
 refine C_seq (fun _ hK13_ => ?_)
 refine C_seq (fun _ hK14_ => C_reg ?_)
 refine sv (v := v) (x_move rfl) ?_
 refine sv (v := (vI .i64 ((List.length P) : Int))) (x_lenRS rfl hP Try.underlying73) ?_
 refine sm (vI .i64 0) ?_
 refine wn (hK14_ _ _ ?_)
 refine C_block ?_
 have H15_ : Holds w9_ (sl 44 5 (vS none 0 0) (List.length ([] : List SN)) (([] : List SN).flatMap SN.cells) :: cl b8_ 59 [(vB false), (vI .i64 0), (vI .i64 0), (vS none 0 0), (vS none 0 0)] :: cl b2_ 59 [(vB false), (vI .i64 0), (vI .i64 0), (vS none 0 0), (vS none 0 0)] :: ro R :: F) := Holds.add_nil H10_ 44 5
 have H16_ : Holds w9_ (sl 3 1 (vS none 0 0) (List.length ([] : List Int)) (([] : List Int).map (vI .i64)) :: sl 44 5 (vS none 0 0) (List.length ([] : List SN)) (([] : List SN).flatMap SN.cells) :: cl b8_ 59 [(vB false), (vI .i64 0), (vI .i64 0), (vS none 0 0), (vS none 0 0)] :: cl b2_ 59 [(vB false), (vI .i64 0), (vI .i64 0), (vS none 0 0), (vS none 0 0)] :: ro R :: F) := Holds.add_nil H15_ 3 1
 have H17_ := Holds.resl H16_ 0 rfl ((by first | rfl | (simp [RQ.cells, CM.cells, RT.cells, SN.cells, TO.cells, TA.cells, TX.cells, PN.cells]; done)) : ([] : List Int).map (vI .i64) = (List.map PN.val (List.take 0 P)).map (vI .i64)) ((by first | rfl | omega | (simp; done) | (simp; omega)) : (List.length ([] : List Int)) = (List.length (List.map PN.val (List.take 0 P))))
 have H18_ := Holds.resl H17_ 1 rfl ((by first | rfl | (simp [RQ.cells, CM.cells, RT.cells, SN.cells, TO.cells, TA.cells, TX.cells, PN.cells]; done)) : ([] : List SN).flatMap SN.cells = (List.map PN.sn (List.take 0 P)).flatMap SN.cells) ((by first | rfl | omega | (simp; done) | (simp; omega)) : (List.length ([] : List SN)) = (List.length (List.map PN.sn (List.take 0 P))))
 have H19_ := Holds.recl H18_ 2 rfl ((lcons rfl (lcons rfl (lcons rfl (lcons (rfl : (vS none 0 0) = ((vS none 0 0))) (lcons (rfl : (vS none 0 0) = ((vS none 0 0))) rfl))))) : [(vB false), (vI .i64 0), (vI .i64 0), (vS none 0 0), (vS none 0 0)] = [(vB false), (vI .i64 0), (vI .i64 0), ((vS none 0 0)), ((vS none 0 0))])
 refine C_loop (γ := Nat × Value × Value) (fun x__ a__ w1__ => match x__ with | ⟨k, lv, vv⟩ => ∃ h : Env, a__ = mkA 38 (upd (upd (upd (upd (upd (upd h 1 (vI .i64 most)) 4 (vQ b2_)) 5 (vQ b8_)) 8 v) 9 (vI .i64 ((List.length P) : Int))) 10 (vI .i64 (k : Int))) [] ∧ Holds w1__ (sl 3 1 vv (List.length (List.map PN.val (List.take k P))) ((List.map PN.val (List.take k P)).map (vI .i64)) :: sl 44 5 lv (List.length (List.map PN.sn (List.take k P))) ((List.map PN.sn (List.take k P)).flatMap SN.cells) :: cl b8_ 59 [(vB false), (vI .i64 0), (vI .i64 0), lv, vv] :: cl b2_ 59 [(vB false), (vI .i64 0), (vI .i64 0), (vS none 0 0), (vS none 0 0)] :: ro R :: F) ∧ Same w w1__ ∧ (k ≤ P.length) ∧ (0 < most → (k : Int) ≤ most)) (fun x__ => match x__ with | ⟨k, lv, vv⟩ => P.length - k) (⟨0, (vS none 0 0), (vS none 0 0)⟩) ⟨_, congrArg (fun e => mkA 38 e []) (ch (ch (ch (ch (ch (ch rfl rfl) rfl) rfl) rfl) rfl) (congrArg (vI .i64) ((by first | rfl | omega | (simp; done) | (simp; omega)) : 0 = (0 : Int)))), H19_, S12_, (by first | assumption | omega | exact rfl), (by first | assumption | omega | exact rfl)⟩ ?_
 rintro ⟨k, lv, vv⟩ _ w20_ ⟨h, rfl, H21_, S22_, hkk, hmo⟩
 refine C_seq (fun _ hK23_ => C_reg ?_)
 refine sv (v := (vB (decide ((k : Int) < ((List.length P) : Int))))) (x_bin rfl rfl rfl) ?_
 refine wn (hK23_ _ _ ?_)
 refine C_seq (fun _ hK24_ => ?_)
 refine C_cond (b := decide ((k : Int) < ((List.length P) : Int))) rfl (fun c25_t => ?_) (fun c25_f => ?_)
 ·have c25_tp : (k : Int) < ((List.length P) : Int) := of_decide_eq_true c25_t
  refine C_skip (X_then (hK24_ _ _ ?_))
  refine C_seq (fun _ hK26_ => ?_)
  refine C_block ?_
  refine C_seq (fun _ hK27_ => C_reg ?_)
  refine sm (vI .i64 (k : Int)) ?_
  obtain ⟨x28_, hx29_, hm30_⟩ := elem_at P k (by omega)
  refine sv (v := (vP (some ⟨(sb v), so v + (k * 6 + 0), none⟩))) (x_idxRS (v := v) rfl hP rfl Try.underlying73 z131 (by omega) (by omega) (by omega : _ = k) rfl) ?_
  refine sv (v := (vA #[(Value.string x28_.in__In_Begin), (Value.string x28_.in__In_End), (vB x28_.in__In_Point), (vI .i64 x28_.in__From), (vI .i64 x28_.in__Till), (vI .i64 x28_.val)])) (x_loadN (vs := [(Value.string x28_.in__In_Begin), (Value.string x28_.in__In_End), (vB x28_.in__In_Point), (vI .i64 x28_.in__From), (vI .i64 x28_.in__Till), (vI .i64 x28_.val)]) rfl Try.underlying131 rfl z131 rfl (RC.cells (RS.rc hP) (Holds.ro_at H21_ 4 rfl) (k * 6 + 0) (fm_cells PN.len hx29_ (i := 0) rfl))) ?_
  refine S_list (T_alloc z131 H21_ ?_)
  intro b31_ w32_ S34_ H33_
  have S35_ := Same.trans S22_ S34_
  refine sv (v := (vI .i64 (k : Int))) (x_assign rfl) ?_
  refine S_list0 (T_storeN (vs := [(Value.string x28_.in__In_Begin), (Value.string x28_.in__In_End), (vB x28_.in__In_Point), (vI .i64 x28_.in__From), (vI .i64 x28_.in__Till), (vI .i64 x28_.val)]) rfl rfl z131 rfl (by simp [Value.oneCell']) H33_ 0 rfl (Nat.le_of_ble_eq_true (by rfl)) ?_)
  intro w36_ S38_ H37_
  have S39_ := Same.trans S35_ S38_
  refine wn (hK27_ _ _ ?_)
  refine C_cut (fun a__ w1__ => ∃ h : Env, a__ = mkA 38 (upd (upd (upd (upd (upd (upd (upd h 1 (vI .i64 most)) 4 (vQ b2_)) 5 (vQ b8_)) 7 (vQ b31_)) 8 v) 9 (vI .i64 ((List.length P) : Int))) 10 (vI .i64 (k : Int))) [] ∧ Holds w1__ (cl b31_ 131 [(Value.string x28_.in__In_Begin), (Value.string x28_.in__In_End), (vB x28_.in__In_Point), (vI .i64 x28_.in__From), (vI .i64 x28_.in__Till), (vI .i64 x28_.val)] :: sl 3 1 vv (List.length (List.map PN.val (List.take k P))) ((List.map PN.val (List.take k P)).map (vI .i64)) :: sl 44 5 lv (List.length (List.map PN.sn (List.take k P))) ((List.map PN.sn (List.take k P)).flatMap SN.cells) :: cl b8_ 59 [(vB false), (vI .i64 0), (vI .i64 0), lv, vv] :: cl b2_ 59 [(vB false), (vI .i64 0), (vI .i64 0), (vS none 0 0), (vS none 0 0)] :: ro R :: F) ∧ Same w w1__ ∧ (most ≤ 0 ∨ (k : Int) < most)) ?_ ?_
  ·refine C_seq (fun _ hK43_ => C_reg ?_)
   refine sm (vI .i64 most) ?_
   refine sv (v := (vB (decide (0 < most)))) (x_bin rfl rfl rfl) ?_
   refine sm (vB (decide (0 < most))) ?_
   rcases Bool.eq_false_or_eq_true (decide (0 < most)) with c44_t | c44_f
   ·have c44_tp : 0 < most := of_decide_eq_true c44_t
    refine S_yes (j := 2) (dj := 17) (b := true) rfl rfl (congrArg vB c44_t) (T_val (v := (vI .i64 (k : Int))) (x_move rfl) ?_)
    refine S_yes (j := 2) (dj := 17) (b := true) rfl rfl (congrArg vB c44_t) (T_val (v := (vI .i64 most)) (x_move rfl) ?_)
    refine S_yes (j := 2) (dj := 17) (b := true) rfl rfl (congrArg vB c44_t) (T_val (v := (vB (decide (most ≤ (k : Int))))) (x_bin rfl rfl rfl) ?_)
    refine S_list (T_pickT (v := (vB (decide (most ≤ (k : Int))))) (congrArg vB c44_t) rfl ?_)
    refine wn (hK43_ _ _ ?_)
    refine C_cond (b := decide (most ≤ (k : Int))) rfl (fun c45_t => ?_) (fun c45_f => ?_)
    ·have c45_tp : most ≤ (k : Int) := of_decide_eq_true c45_t
     refine C_exit (X_thenX (X_blkMiss rfl (X_thenX (X_thenX (X_blkHit ?_)))))
     refine (X_then (hK13_ _ _ ?_))
     refine C_seq (fun _ hK46_ => C_reg ?_)
     refine sv (v := (vA #[(vB false), (vI .i64 0), (vI .i64 0), lv, vv])) (x_loadN (vs := [(vB false), (vI .i64 0), (vI .i64 0), lv, vv]) rfl Try.underlying59 rfl z59 rfl (Rd.cells (Holds.rd H37_ 3 rfl) 0 rfl)) ?_
     refine S_list0 (T_storeN (vs := [(vB false), (vI .i64 0), (vI .i64 0), lv, vv]) rfl rfl z59 rfl (List.forall_mem_cons.2 ⟨rfl, (List.forall_mem_cons.2 ⟨rfl, (List.forall_mem_cons.2 ⟨rfl, (List.forall_mem_cons.2 ⟨(Holds.sl_one H37_ 2 rfl), (List.forall_mem_cons.2 ⟨(Holds.sl_one H37_ 1 rfl), (fun _ h__ => by cases h__)⟩)⟩)⟩)⟩)⟩) H37_ 4 rfl (Nat.le_of_ble_eq_true (by rfl)) ?_)
     intro w47_ S49_ H48_
     have S50_ := Same.trans S39_ S49_
     refine wn (hK46_ _ _ ?_)
     refine C_ret ?_
     refine R_any (v := (vA #[(vB false), (vI .i64 0), (vI .i64 0), lv, vv])) (run_results1 rfl ⟨_, rfl, load_resN Try.underlying59 rfl z59 rfl (vs := [(vB false), (vI .i64 0), (vI .i64 0), lv, vv]) (Holds.cl_cells H48_ 4 rfl 0 rfl)⟩) ?_
     have hvl_ : List.take k P = visL most P := visL_of hkk hmo (by omega)
     have H51_ := Holds.resl H48_ 2 rfl (by rw [hvl_] : (List.map PN.sn (List.take k P)).flatMap SN.cells = (List.map PN.sn (visL most P)).flatMap SN.cells) (by rw [hvl_] : (List.length (List.map PN.sn (List.take k P))) = (List.length (List.map PN.sn (visL most P))))
     have H52_ := Holds.resl H51_ 1 rfl (by rw [hvl_] : (List.map PN.val (List.take k P)).map (vI .i64) = (List.map PN.val (visL most P)).map (vI .i64)) (by rw [hvl_] : (List.length (List.map PN.val (List.take k P))) = (List.length (List.map PN.val (visL most P))))
     have H53_ := ((Holds.bring (Holds.bring H52_ 2 rfl) 5 rfl) :)
     obtain ⟨R54_, hs55_, ⟨R56_, ha57_, hs58_⟩, H59_⟩ := Holds.gift H53_
     have hr60_ : RS R54_ 5 lv (List.length (List.map PN.sn (visL most P))) ((List.map PN.sn (visL most P)).flatMap SN.cells) := (sl_RS ha57_ (Sub.rfl' _)).mono hs58_
     have H61_ := ((Holds.bring (Holds.bring H59_ 2 rfl) 1 rfl) :)
     obtain ⟨R62_, hs63_, ⟨R64_, ha65_, hs66_⟩, H67_⟩ := Holds.gift H61_
     have hz_R_R62_ := Sub.trans' hs55_ hs63_
     have hr68_ : RS R62_ 1 vv (List.length (List.map PN.val (visL most P))) ((List.map PN.val (visL most P)).map (vI .i64)) := (sl_RS ha65_ (Sub.rfl' _)).mono hs66_
     have H69_ := Holds.pkF H67_ [0] 3
     exact ⟨R62_, _, _, rfl, hz_R_R62_, ⟨(⟨false, 0, 0, lv, vv⟩ : TA), (congrArg (fun l => vA (List.toArray l)) (lcons (congrArg vB ((by first | rfl | omega | (simp; done) | (simp; omega)) : false = ((⟨false, 0, 0, lv, vv⟩ : TA).oK))) (lcons (congrArg (vI .i64) ((by first | rfl | omega | (simp; done) | (simp; omega)) : 0 = (⟨false, 0, 0, lv, vv⟩ : TA).n)) (lcons (congrArg (vI .i64) ((by first | rfl | omega | (simp; done) | (simp; omega)) : 0 = (⟨false, 0, 0, lv, vv⟩ : TA).most)) (lcons ((by first | rfl | omega | (simp; done) | (simp; omega)) : lv = ((⟨false, 0, 0, lv, vv⟩ : TA).list)) (lcons ((by first | rfl | omega | (simp; done) | (simp; omega)) : vv = ((⟨false, 0, 0, lv, vv⟩ : TA).vals)) rfl)))))), rfl, (⟨rfl, rfl, (RS.mono hr60_ hs63_), hr68_⟩)⟩, S50_, H69_⟩
    ·have c45_fp : ¬ (most ≤ (k : Int)) := of_decide_eq_false c45_f
     refine C_skip (X_then ?_)
     exact ⟨_, congrArg (fun e => mkA 38 e []) (ch (ch (ch (ch (ch (ch (ch rfl rfl) rfl) rfl) rfl) rfl) rfl) rfl), H37_, S39_, (by first | assumption | omega | exact rfl)⟩
   ·have c44_fp : ¬ (0 < most) := of_decide_eq_false c44_f
    refine S_no (j := 2) (dj := 17) (b := false) rfl rfl (congrArg vB c44_f) (by decide) ?_
    refine S_no (j := 2) (dj := 17) (b := false) rfl rfl (congrArg vB c44_f) (by decide) ?_
    refine S_no (j := 2) (dj := 17) (b := false) rfl rfl (congrArg vB c44_f) (by decide) ?_
    refine S_list (T_pickF (v := (vB false)) (congrArg vB c44_f) rfl ?_)
    refine wn (hK43_ _ _ ?_)
    refine C_condF rfl ?_
    refine C_skip (X_then ?_)
    exact ⟨_, congrArg (fun e => mkA 38 e []) (ch (ch (ch (ch (ch (ch (ch rfl rfl) rfl) rfl) rfl) rfl) rfl) rfl), H37_, S39_, (by first | assumption | omega | exact rfl)⟩
  ·rintro _ w40_ ⟨h, rfl, H41_, S42_, hmk_⟩
   refine A_start (S := fun w => Rd b31_ [(Value.string x28_.in__In_Begin), (Value.string x28_.in__In_End), (vB x28_.in__In_Point), (vI .i64 x28_.in__From), (vI .i64 x28_.in__Till), (vI .i64 x28_.val)] w ∧ Rd b2_ [(vB false), (vI .i64 0), (vI .i64 0), (vS none 0 0), (vS none 0 0)] w ∧ Sub R (hp w)) (N := 16) foll rfl rfl ?_
   have H70_ := Holds.drew_ H41_
   refine A_cut #[true, true, true, true, true, true, true, true, true, true, true, true, true, true, true, false] 1 (fun a__ w1__ => ∃ v77_ : Value, ∃ v88_ : Value, ∃ h : Env, a__ = mkA 38 (upd (upd (upd (upd (upd (upd (upd (upd h 1 (vI .i64 most)) 4 (vQ b2_)) 5 (vQ b8_)) 8 v) 9 (vI .i64 ((List.length P) : Int))) 10 (vI .i64 (k : Int))) 33 v88_) 35 (vP (some ⟨b8_, 4, none⟩))) [] ∧ Holds w1__ (cl b31_ 131 [(Value.string x28_.in__In_Begin), (Value.string x28_.in__In_End), (vB x28_.in__In_Point), (vI .i64 x28_.in__From), (vI .i64 x28_.in__Till), (vI .i64 x28_.val)] :: sl 3 1 v88_ ((List.length (List.map PN.val (List.take k P))) + 1) (((List.map PN.val (List.take k P)).map (vI .i64)) ++ [(vI .i64 x28_.val)]) :: sl 44 5 v77_ ((List.length (List.map PN.sn (List.take k P))) + 1) (((List.map PN.sn (List.take k P)).flatMap SN.cells) ++ [(Value.string x28_.in__In_Begin), (Value.string x28_.in__In_End), (vB x28_.in__In_Point), (vI .i64 x28_.in__From), (vI .i64 x28_.in__Till)]) :: cl b8_ 59 [(vB false), (vI .i64 0), (vI .i64 0), v77_, vv] :: cl b2_ 59 [(vB false), (vI .i64 0), (vI .i64 0), (vS none 0 0), (vS none 0 0)] :: ro R :: F) ∧ Same w w1__) ?_ ?_
   ·rintro _ w222_ ⟨v77_, v88_, h, rfl, H223_, S224_⟩
    refine A_ready (i := 15) (rs := []) (by kernel_rfl) ?_
    refine AllR.cons ?_ AllR.nil
    refine A_op0 (ls' := #[true, true, true, true, true, true, true, true, true, true, true, true, true, true, true, true]) rfl (by kernel_rfl) (T_store1 (v := v88_) rfl rfl z35 (Holds.sl_one H223_ 1 rfl) H223_ 3 rfl (Nat.le_of_ble_eq_true (by rfl)) ?_)
    intro w225_ S227_ H226_
    have S228_ := Same.trans S224_ S227_
    refine ⟨⟨Holds.rd H226_ 0 rfl, Holds.rd H226_ 4 rfl, (Holds.ro_at H226_ 5 rfl)⟩, ?_⟩
    refine A_done (by kernel_rfl) ?_
    refine (X_blkN (X_then (hK26_ _ _ ?_)))
    refine C_reg ?_
    refine sv (v := (vI .i64 ((k : Int) + 1))) (x_bin rfl rfl (ib_add (IntWalk.i64_in _ (by omega)))) ?_
    refine sm (vI .i64 ((k : Int) + 1)) ?_
    refine wpList_nil (X_then ?_)
    have H229_ := Holds.resl H226_ 2 rfl (by rw [take_snoc hx29_]; simp [SN.cells, PN.sn] : ((List.map PN.sn (List.take k P)).flatMap SN.cells) ++ [(Value.string x28_.in__In_Begin), (Value.string x28_.in__In_End), (vB x28_.in__In_Point), (vI .i64 x28_.in__From), (vI .i64 x28_.in__Till)] = (List.map PN.sn (List.take (k + 1) P)).flatMap SN.cells) (by rw [take_snoc hx29_]; simp : (List.length (List.map PN.sn (List.take k P))) + 1 = (List.length (List.map PN.sn (List.take (k + 1) P))))
    have H230_ := Holds.resl H229_ 1 rfl (by rw [take_snoc hx29_]; simp [SN.cells, PN.sn] : ((List.map PN.val (List.take k P)).map (vI .i64)) ++ [(vI .i64 x28_.val)] = (List.map PN.val (List.take (k + 1) P)).map (vI .i64)) (by rw [take_snoc hx29_]; simp : (List.length (List.map PN.val (List.take k P))) + 1 = (List.length (List.map PN.val (List.take (k + 1) P))))
    have H231_ := Holds.pkF H230_ [1, 1, 1, 1, 1] 1
    exact ⟨⟨k + 1, v77_, v88_⟩, ⟨_, congrArg (fun e => mkA 38 e []) (ch (ch (ch (ch (ch (ch rfl rfl) rfl) rfl) rfl) rfl) (congrArg (vI .i64) ((by first | rfl | omega | (simp; done) | (simp; omega)) : (k : Int) + 1 = ((k + 1 : Nat) : Int)))), H231_, S228_, (by first | assumption | omega | exact rfl), (by first | assumption | omega | exact rfl)⟩, by first | omega | (dsimp only; omega) | (simp; omega)⟩
   intro hJ207
   refine A_cut #[true, true, true, true, true, true, true, true, true, true, true, true, true, false, false, false] 3 (fun a__ w1__ => ∃ v77_ : Value, ∃ v88_ : Value, ∃ h : Env, a__ = mkA 38 (upd (upd (upd (upd (upd (upd (upd (upd (upd h 1 (vI .i64 most)) 4 (vQ b2_)) 5 (vQ b8_)) 8 v) 9 (vI .i64 ((List.length P) : Int))) 10 (vI .i64 (k : Int))) 27 v77_) 33 v88_) 34 (vP (some ⟨b8_, 3, none⟩))) [] ∧ Holds w1__ (cl b31_ 131 [(Value.string x28_.in__In_Begin), (Value.string x28_.in__In_End), (vB x28_.in__In_Point), (vI .i64 x28_.in__From), (vI .i64 x28_.in__Till), (vI .i64 x28_.val)] :: sl 3 1 v88_ ((List.length (List.map PN.val (List.take k P))) + 1) (((List.map PN.val (List.take k P)).map (vI .i64)) ++ [(vI .i64 x28_.val)]) :: sl 44 5 v77_ ((List.length (List.map PN.sn (List.take k P))) + 1) (((List.map PN.sn (List.take k P)).flatMap SN.cells) ++ [(Value.string x28_.in__In_Begin), (Value.string x28_.in__In_End), (vB x28_.in__In_Point), (vI .i64 x28_.in__From), (vI .i64 x28_.in__Till)]) :: cl b8_ 59 [(vB false), (vI .i64 0), (vI .i64 0), lv, vv] :: cl b2_ 59 [(vB false), (vI .i64 0), (vI .i64 0), (vS none 0 0), (vS none 0 0)] :: ro R :: F) ∧ Same w w1__) ?_ ?_
   ·rintro _ w232_ ⟨v77_, v88_, h, rfl, H233_, S234_⟩
    refine A_ready (i := 13) (rs := []) (by kernel_rfl) ?_
    refine AllR.cons ?_ AllR.nil
    refine A_op0 (ls' := #[true, true, true, true, true, true, true, true, true, true, true, true, true, true, false, false]) rfl (by kernel_rfl) (T_store1 (v := v77_) rfl rfl z30 (Holds.sl_one H233_ 2 rfl) H233_ 3 rfl (Nat.le_of_ble_eq_true (by rfl)) ?_)
    intro w235_ S237_ H236_
    have S238_ := Same.trans S234_ S237_
    refine ⟨⟨Holds.rd H236_ 0 rfl, Holds.rd H236_ 4 rfl, (Holds.ro_at H236_ 5 rfl)⟩, ?_⟩
    have hq239_ := And.intro (Holds.rd H236_ 0 rfl) (And.intro (Holds.rd H236_ 4 rfl) ((Holds.ro_at H236_ 5 rfl)))
    refine A_tk 14 (v := (vP (some ⟨b8_, 4, none⟩))) rfl (by kernel_rfl) (fun w hS => by kernel_rfl) hq239_ ?_
    exact hJ207 _ _ ⟨v77_, v88_, _, congrArg (fun e => mkA 38 e []) (ch (ch (ch (ch (ch (ch (ch (ch rfl rfl) rfl) rfl) rfl) rfl) rfl) rfl) rfl), H236_, S238_⟩
   intro hJ206
   refine A_cut #[true, true, true, true, true, true, true, true, true, true, true, false, true, false, false, false] 4 (fun a__ w1__ => ∃ v77_ : Value, ∃ b83_ : Nat, ∃ h : Env, a__ = mkA 38 (upd (upd (upd (upd (upd (upd (upd (upd (upd (upd h 1 (vI .i64 most)) 4 (vQ b2_)) 5 (vQ b8_)) 8 v) 9 (vI .i64 ((List.length P) : Int))) 10 (vI .i64 (k : Int))) 27 v77_) 29 vv) 32 (vS (some ⟨b83_, 0, none⟩) 1 1)) 34 (vP (some ⟨b8_, 3, none⟩))) [] ∧ Holds w1__ (cl b83_ 3 [(vI .i64 x28_.val)] :: cl b31_ 131 [(Value.string x28_.in__In_Begin), (Value.string x28_.in__In_End), (vB x28_.in__In_Point), (vI .i64 x28_.in__From), (vI .i64 x28_.in__Till), (vI .i64 x28_.val)] :: sl 3 1 vv (List.length (List.map PN.val (List.take k P))) ((List.map PN.val (List.take k P)).map (vI .i64)) :: sl 44 5 v77_ ((List.length (List.map PN.sn (List.take k P))) + 1) (((List.map PN.sn (List.take k P)).flatMap SN.cells) ++ [(Value.string x28_.in__In_Begin), (Value.string x28_.in__In_End), (vB x28_.in__In_Point), (vI .i64 x28_.in__From), (vI .i64 x28_.in__Till)]) :: cl b8_ 59 [(vB false), (vI .i64 0), (vI .i64 0), lv, vv] :: cl b2_ 59 [(vB false), (vI .i64 0), (vI .i64 0), (vS none 0 0), (vS none 0 0)] :: ro R :: F) ∧ Same w w1__) ?_ ?_
   ·rintro _ w240_ ⟨v77_, b83_, h, rfl, H241_, S242_⟩
    refine A_ready (i := 11) (rs := []) (by kernel_rfl) ?_
    refine AllR.cons ?_ AllR.nil
    refine A_op (ls' := #[true, true, true, true, true, true, true, true, true, true, true, true, true, false, false, false]) rfl (by kernel_rfl) (T_append rfl rfl Try.underlying35 z3 rfl (by decide) H241_ 2 rfl (Holds.cl_src H241_ 0 rfl Try.underlying35 (by simp [Value.oneCell']) rfl) (by simp only [List.length_map, List.length_take]; omega) ?_)
    intro v243_ w244_ S246_ H245_
    have S247_ := Same.trans S242_ S246_
    refine ⟨⟨Holds.rd H245_ 1 rfl, Holds.rd H245_ 5 rfl, (Holds.ro_at H245_ 6 rfl)⟩, ?_⟩
    have H248_ := Holds.pkF H245_ [1, 1, 1, 1, 1, 1] 1
    exact hJ206 _ _ ⟨v77_, v243_, _, congrArg (fun e => mkA 38 e []) (ch (ch (ch (ch (ch (ch (ch (ch (ch rfl rfl) rfl) rfl) rfl) rfl) rfl) rfl) rfl) rfl), H248_, S247_⟩
   intro hJ205
   refine A_cut #[true, true, true, true, true, true, true, true, true, true, false, false, true, false, false, false] 5 (fun a__ w1__ => ∃ v77_ : Value, ∃ h : Env, a__ = mkA 38 (upd (upd (upd (upd (upd (upd (upd (upd (upd (upd h 1 (vI .i64 most)) 4 (vQ b2_)) 5 (vQ b8_)) 8 v) 9 (vI .i64 ((List.length P) : Int))) 10 (vI .i64 (k : Int))) 27 v77_) 29 vv) 31 (vI .i64 x28_.val)) 34 (vP (some ⟨b8_, 3, none⟩))) [] ∧ Holds w1__ (cl b31_ 131 [(Value.string x28_.in__In_Begin), (Value.string x28_.in__In_End), (vB x28_.in__In_Point), (vI .i64 x28_.in__From), (vI .i64 x28_.in__Till), (vI .i64 x28_.val)] :: sl 3 1 vv (List.length (List.map PN.val (List.take k P))) ((List.map PN.val (List.take k P)).map (vI .i64)) :: sl 44 5 v77_ ((List.length (List.map PN.sn (List.take k P))) + 1) (((List.map PN.sn (List.take k P)).flatMap SN.cells) ++ [(Value.string x28_.in__In_Begin), (Value.string x28_.in__In_End), (vB x28_.in__In_Point), (vI .i64 x28_.in__From), (vI .i64 x28_.in__Till)]) :: cl b8_ 59 [(vB false), (vI .i64 0), (vI .i64 0), lv, vv] :: cl b2_ 59 [(vB false), (vI .i64 0), (vI .i64 0), (vS none 0 0), (vS none 0 0)] :: ro R :: F) ∧ Same w w1__) ?_ ?_
   ·rintro _ w249_ ⟨v77_, h, rfl, H250_, S251_⟩
    refine A_ready (i := 10) (rs := []) (by kernel_rfl) ?_
    refine AllR.cons ?_ AllR.nil
    refine A_op (ls' := #[true, true, true, true, true, true, true, true, true, true, true, false, true, false, false, false]) rfl (by kernel_rfl) (T_new (obj := .cells #[(vI .i64 x28_.val)] 3) (f := fun b__ => .slice (some ⟨b__, 0, none⟩) 1 1) (A := fun b__ => cl b__ 3 [(vI .i64 x28_.val)]) (by kernel_rfl) (fun l h => h.alloc _ _) H250_ ?_)
    intro b252_ w253_ S255_ H254_
    have S256_ := Same.trans S251_ S255_
    refine ⟨⟨Holds.rd H254_ 1 rfl, Holds.rd H254_ 5 rfl, (Holds.ro_at H254_ 6 rfl)⟩, ?_⟩
    exact hJ205 _ _ ⟨v77_, b252_, _, congrArg (fun e => mkA 38 e []) (ch (ch (ch (ch (ch (ch (ch (ch (ch (ch rfl rfl) rfl) rfl) rfl) rfl) rfl) rfl) rfl) rfl) rfl), H254_, S256_⟩
   intro hJ204
   refine A_cut #[true, true, true, true, true, true, true, false, true, true, true, false, false, false, false, false] 6 (fun a__ w1__ => ∃ v77_ : Value, ∃ b102_ : Nat, ∃ h : Env, a__ = mkA 38 (upd (upd (upd (upd (upd (upd (upd (upd (upd h 1 (vI .i64 most)) 4 (vQ b2_)) 5 (vQ b8_)) 8 v) 9 (vI .i64 ((List.length P) : Int))) 10 (vI .i64 (k : Int))) 27 v77_) 28 (vP (some ⟨b8_, 4, none⟩))) 32 (vS (some ⟨b102_, 0, none⟩) 1 1)) [] ∧ Holds w1__ (cl b102_ 3 [(vI .i64 x28_.val)] :: cl b31_ 131 [(Value.string x28_.in__In_Begin), (Value.string x28_.in__In_End), (vB x28_.in__In_Point), (vI .i64 x28_.in__From), (vI .i64 x28_.in__Till), (vI .i64 x28_.val)] :: sl 3 1 vv (List.length (List.map PN.val (List.take k P))) ((List.map PN.val (List.take k P)).map (vI .i64)) :: sl 44 5 v77_ ((List.length (List.map PN.sn (List.take k P))) + 1) (((List.map PN.sn (List.take k P)).flatMap SN.cells) ++ [(Value.string x28_.in__In_Begin), (Value.string x28_.in__In_End), (vB x28_.in__In_Point), (vI .i64 x28_.in__From), (vI .i64 x28_.in__Till)]) :: cl b8_ 59 [(vB false), (vI .i64 0), (vI .i64 0), lv, vv] :: cl b2_ 59 [(vB false), (vI .i64 0), (vI .i64 0), (vS none 0 0), (vS none 0 0)] :: ro R :: F) ∧ Same w w1__) ?_ ?_
   ·rintro _ w257_ ⟨v77_, b102_, h, rfl, H258_, S259_⟩
    refine A_ready (i := 7) (rs := []) (by kernel_rfl) ?_
    refine AllR.cons ?_ AllR.nil
    refine A_op (ls' := #[true, true, true, true, true, true, true, true, true, true, true, false, false, false, false, false]) rfl (by kernel_rfl) (T_val (v := vv) (x_load1 rfl Try.underlying35 rfl ((Holds.rd H258_ 4 rfl) 4 vv rfl)) ?_)
    refine ⟨⟨Holds.rd H258_ 1 rfl, Holds.rd H258_ 5 rfl, (Holds.ro_at H258_ 6 rfl)⟩, ?_⟩
    have hq260_ := And.intro (Holds.rd H258_ 1 rfl) (And.intro (Holds.rd H258_ 5 rfl) ((Holds.ro_at H258_ 6 rfl)))
    refine A_tk 12 (v := (vP (some ⟨b8_, 3, none⟩))) rfl (by kernel_rfl) (fun w hS => by kernel_rfl) hq260_ ?_
    exact hJ205 _ _ ⟨v77_, b102_, _, congrArg (fun e => mkA 38 e []) (ch (ch (ch (ch (ch (ch (ch (ch (ch (ch rfl rfl) rfl) rfl) rfl) rfl) rfl) rfl) rfl) rfl) rfl), H258_, S259_⟩
   intro hJ208
   refine A_cut #[true, true, true, true, true, false, true, true, true, true, true, false, false, false, false, false] 6 (fun a__ w1__ => ∃ b72_ : Nat, ∃ b114_ : Nat, ∃ h : Env, a__ = mkA 38 (upd (upd (upd (upd (upd (upd (upd (upd (upd (upd h 1 (vI .i64 most)) 4 (vQ b2_)) 5 (vQ b8_)) 8 v) 9 (vI .i64 ((List.length P) : Int))) 10 (vI .i64 (k : Int))) 23 lv) 26 (vS (some ⟨b72_, 0, none⟩) 1 1)) 29 vv) 32 (vS (some ⟨b114_, 0, none⟩) 1 1)) [] ∧ Holds w1__ (cl b114_ 3 [(vI .i64 x28_.val)] :: cl b72_ 44 [(Value.string x28_.in__In_Begin), (Value.string x28_.in__In_End), (vB x28_.in__In_Point), (vI .i64 x28_.in__From), (vI .i64 x28_.in__Till)] :: cl b31_ 131 [(Value.string x28_.in__In_Begin), (Value.string x28_.in__In_End), (vB x28_.in__In_Point), (vI .i64 x28_.in__From), (vI .i64 x28_.in__Till), (vI .i64 x28_.val)] :: sl 3 1 vv (List.length (List.map PN.val (List.take k P))) ((List.map PN.val (List.take k P)).map (vI .i64)) :: sl 44 5 lv (List.length (List.map PN.sn (List.take k P))) ((List.map PN.sn (List.take k P)).flatMap SN.cells) :: cl b8_ 59 [(vB false), (vI .i64 0), (vI .i64 0), lv, vv] :: cl b2_ 59 [(vB false), (vI .i64 0), (vI .i64 0), (vS none 0 0), (vS none 0 0)] :: ro R :: F) ∧ Same w w1__) ?_ ?_
   ·rintro _ w261_ ⟨b72_, b114_, h, rfl, H262_, S263_⟩
    refine A_ready (i := 5) (rs := []) (by kernel_rfl) ?_
    refine AllR.cons ?_ AllR.nil
    refine A_op (ls' := #[true, true, true, true, true, true, true, true, true, true, true, false, false, false, false, false]) rfl (by kernel_rfl) (T_append rfl rfl Try.underlying30 z44 rfl (by decide) H262_ 4 rfl (Holds.cl_src H262_ 1 rfl Try.underlying30 (by simp [Value.oneCell']) rfl) (by simp only [List.length_map, List.length_take]; omega) ?_)
    intro v264_ w265_ S267_ H266_
    have S268_ := Same.trans S263_ S267_
    refine ⟨⟨Holds.rd H266_ 2 rfl, Holds.rd H266_ 6 rfl, (Holds.ro_at H266_ 7 rfl)⟩, ?_⟩
    have hq269_ := And.intro (Holds.rd H266_ 2 rfl) (And.intro (Holds.rd H266_ 6 rfl) ((Holds.ro_at H266_ 7 rfl)))
    refine A_tk 12 (v := (vP (some ⟨b8_, 3, none⟩))) rfl (by kernel_rfl) (fun w hS => by kernel_rfl) hq269_ ?_
    have H270_ := Holds.pkF H266_ [0, 1, 1, 1, 1, 1, 1] 1
    exact hJ205 _ _ ⟨v264_, b114_, _, congrArg (fun e => mkA 38 e []) (ch (ch (ch (ch (ch (ch (ch (ch (ch (ch rfl rfl) rfl) rfl) rfl) rfl) rfl) rfl) rfl) rfl) rfl), H270_, S268_⟩
   intro hJ210
   refine A_cut #[true, true, true, true, true, true, true, false, true, true, false, false, false, false, false, false] 7 (fun a__ w1__ => ∃ v77_ : Value, ∃ h : Env, a__ = mkA 38 (upd (upd (upd (upd (upd (upd (upd (upd (upd h 1 (vI .i64 most)) 4 (vQ b2_)) 5 (vQ b8_)) 8 v) 9 (vI .i64 ((List.length P) : Int))) 10 (vI .i64 (k : Int))) 27 v77_) 28 (vP (some ⟨b8_, 4, none⟩))) 31 (vI .i64 x28_.val)) [] ∧ Holds w1__ (cl b31_ 131 [(Value.string x28_.in__In_Begin), (Value.string x28_.in__In_End), (vB x28_.in__In_Point), (vI .i64 x28_.in__From), (vI .i64 x28_.in__Till), (vI .i64 x28_.val)] :: sl 3 1 vv (List.length (List.map PN.val (List.take k P))) ((List.map PN.val (List.take k P)).map (vI .i64)) :: sl 44 5 v77_ ((List.length (List.map PN.sn (List.take k P))) + 1) (((List.map PN.sn (List.take k P)).flatMap SN.cells) ++ [(Value.string x28_.in__In_Begin), (Value.string x28_.in__In_End), (vB x28_.in__In_Point), (vI .i64 x28_.in__From), (vI .i64 x28_.in__Till)]) :: cl b8_ 59 [(vB false), (vI .i64 0), (vI .i64 0), lv, vv] :: cl b2_ 59 [(vB false), (vI .i64 0), (vI .i64 0), (vS none 0 0), (vS none 0 0)] :: ro R :: F) ∧ Same w w1__) ?_ ?_
   ·rintro _ w271_ ⟨v77_, h, rfl, H272_, S273_⟩
    refine A_ready (i := 7) (rs := [10]) (by kernel_rfl) ?_
    refine AllR.cons ?_ ?_
    ·skip
     refine A_op (ls' := #[true, true, true, true, true, true, true, true, true, true, false, false, false, false, false, false]) rfl (by kernel_rfl) (T_val (v := vv) (x_load1 rfl Try.underlying35 rfl ((Holds.rd H272_ 3 rfl) 4 vv rfl)) ?_)
     refine ⟨⟨Holds.rd H272_ 0 rfl, Holds.rd H272_ 4 rfl, (Holds.ro_at H272_ 5 rfl)⟩, ?_⟩
     have hq274_ := And.intro (Holds.rd H272_ 0 rfl) (And.intro (Holds.rd H272_ 4 rfl) ((Holds.ro_at H272_ 5 rfl)))
     refine A_tk 12 (v := (vP (some ⟨b8_, 3, none⟩))) rfl (by kernel_rfl) (fun w hS => by kernel_rfl) hq274_ ?_
     exact hJ204 _ _ ⟨v77_, _, congrArg (fun e => mkA 38 e []) (ch (ch (ch (ch (ch (ch (ch (ch (ch (ch rfl rfl) rfl) rfl) rfl) rfl) rfl) rfl) rfl) rfl) rfl), H272_, S273_⟩
    refine AllR.cons ?_ AllR.nil
    refine A_op (ls' := #[true, true, true, true, true, true, true, false, true, true, true, false, false, false, false, false]) rfl (by kernel_rfl) (T_new (obj := .cells #[(vI .i64 x28_.val)] 3) (f := fun b__ => .slice (some ⟨b__, 0, none⟩) 1 1) (A := fun b__ => cl b__ 3 [(vI .i64 x28_.val)]) (by kernel_rfl) (fun l h => h.alloc _ _) H272_ ?_)
    intro b275_ w276_ S278_ H277_
    have S279_ := Same.trans S273_ S278_
    refine ⟨⟨Holds.rd H277_ 1 rfl, Holds.rd H277_ 5 rfl, (Holds.ro_at H277_ 6 rfl)⟩, ?_⟩
    exact hJ208 _ _ ⟨v77_, b275_, _, congrArg (fun e => mkA 38 e []) (ch (ch (ch (ch (ch (ch (ch (ch (ch rfl rfl) rfl) rfl) rfl) rfl) rfl) rfl) rfl) rfl), H277_, S279_⟩
   intro hJ203
   refine A_cut #[true, true, true, true, true, false, true, true, true, true, false, false, false, false, false, false] 7 (fun a__ w1__ => ∃ b72_ : Nat, ∃ h : Env, a__ = mkA 38 (upd (upd (upd (upd (upd (upd (upd (upd (upd (upd h 1 (vI .i64 most)) 4 (vQ b2_)) 5 (vQ b8_)) 8 v) 9 (vI .i64 ((List.length P) : Int))) 10 (vI .i64 (k : Int))) 23 lv) 26 (vS (some ⟨b72_, 0, none⟩) 1 1)) 29 vv) 31 (vI .i64 x28_.val)) [] ∧ Holds w1__ (cl b72_ 44 [(Value.string x28_.in__In_Begin), (Value.string x28_.in__In_End), (vB x28_.in__In_Point), (vI .i64 x28_.in__From), (vI .i64 x28_.in__Till)] :: cl b31_ 131 [(Value.string x28_.in__In_Begin), (Value.string x28_.in__In_End), (vB x28_.in__In_Point), (vI .i64 x28_.in__From), (vI .i64 x28_.in__Till), (vI .i64 x28_.val)] :: sl 3 1 vv (List.length (List.map PN.val (List.take k P))) ((List.map PN.val (List.take k P)).map (vI .i64)) :: sl 44 5 lv (List.length (List.map PN.sn (List.take k P))) ((List.map PN.sn (List.take k P)).flatMap SN.cells) :: cl b8_ 59 [(vB false), (vI .i64 0), (vI .i64 0), lv, vv] :: cl b2_ 59 [(vB false), (vI .i64 0), (vI .i64 0), (vS none 0 0), (vS none 0 0)] :: ro R :: F) ∧ Same w w1__) ?_ ?_
   ·rintro _ w280_ ⟨b72_, h, rfl, H281_, S282_⟩
    refine A_ready (i := 5) (rs := [10]) (by kernel_rfl) ?_
    refine AllR.cons ?_ ?_
    ·skip
     refine A_op (ls' := #[true, true, true, true, true, true, true, true, true, true, false, false, false, false, false, false]) rfl (by kernel_rfl) (T_append rfl rfl Try.underlying30 z44 rfl (by decide) H281_ 3 rfl (Holds.cl_src H281_ 0 rfl Try.underlying30 (by simp [Value.oneCell']) rfl) (by simp only [List.length_map, List.length_take]; omega) ?_)
     intro v283_ w284_ S286_ H285_
     have S287_ := Same.trans S282_ S286_
     refine ⟨⟨Holds.rd H285_ 1 rfl, Holds.rd H285_ 5 rfl, (Holds.ro_at H285_ 6 rfl)⟩, ?_⟩
     have hq288_ := And.intro (Holds.rd H285_ 1 rfl) (And.intro (Holds.rd H285_ 5 rfl) ((Holds.ro_at H285_ 6 rfl)))
     refine A_tk 12 (v := (vP (some ⟨b8_, 3, none⟩))) rfl (by kernel_rfl) (fun w hS => by kernel_rfl) hq288_ ?_
     have H289_ := Holds.pkF H285_ [1, 1, 1, 1, 1, 1] 1
     exact hJ204 _ _ ⟨v283_, _, congrArg (fun e => mkA 38 e []) (ch (ch (ch (ch (ch (ch (ch (ch (ch (ch rfl rfl) rfl) rfl) rfl) rfl) rfl) rfl) rfl) rfl) rfl), H289_, S287_⟩
    refine AllR.cons ?_ AllR.nil
    refine A_op (ls' := #[true, true, true, true, true, false, true, true, true, true, true, false, false, false, false, false]) rfl (by kernel_rfl) (T_new (obj := .cells #[(vI .i64 x28_.val)] 3) (f := fun b__ => .slice (some ⟨b__, 0, none⟩) 1 1) (A := fun b__ => cl b__ 3 [(vI .i64 x28_.val)]) (by kernel_rfl) (fun l h => h.alloc _ _) H281_ ?_)
    intro b290_ w291_ S293_ H292_
    have S294_ := Same.trans S282_ S293_
    refine ⟨⟨Holds.rd H292_ 2 rfl, Holds.rd H292_ 6 rfl, (Holds.ro_at H292_ 7 rfl)⟩, ?_⟩
    exact hJ210 _ _ ⟨b72_, b290_, _, congrArg (fun e => mkA 38 e []) (ch (ch (ch (ch (ch (ch (ch (ch (ch (ch rfl rfl) rfl) rfl) rfl) rfl) rfl) rfl) rfl) rfl) rfl), H292_, S294_⟩
   intro hJ209
   refine A_cut #[true, true, true, true, true, false, true, false, true, true, true, false, false, false, false, false] 7 (fun a__ w1__ => ∃ b72_ : Nat, ∃ b125_ : Nat, ∃ h : Env, a__ = mkA 38 (upd (upd (upd (upd (upd (upd (upd (upd (upd (upd h 1 (vI .i64 most)) 4 (vQ b2_)) 5 (vQ b8_)) 8 v) 9 (vI .i64 ((List.length P) : Int))) 10 (vI .i64 (k : Int))) 23 lv) 26 (vS (some ⟨b72_, 0, none⟩) 1 1)) 28 (vP (some ⟨b8_, 4, none⟩))) 32 (vS (some ⟨b125_, 0, none⟩) 1 1)) [] ∧ Holds w1__ (cl b125_ 3 [(vI .i64 x28_.val)] :: cl b72_ 44 [(Value.string x28_.in__In_Begin), (Value.string x28_.in__In_End), (vB x28_.in__In_Point), (vI .i64 x28_.in__From), (vI .i64 x28_.in__Till)] :: cl b31_ 131 [(Value.string x28_.in__In_Begin), (Value.string x28_.in__In_End), (vB x28_.in__In_Point), (vI .i64 x28_.in__From), (vI .i64 x28_.in__Till), (vI .i64 x28_.val)] :: sl 3 1 vv (List.length (List.map PN.val (List.take k P))) ((List.map PN.val (List.take k P)).map (vI .i64)) :: sl 44 5 lv (List.length (List.map PN.sn (List.take k P))) ((List.map PN.sn (List.take k P)).flatMap SN.cells) :: cl b8_ 59 [(vB false), (vI .i64 0), (vI .i64 0), lv, vv] :: cl b2_ 59 [(vB false), (vI .i64 0), (vI .i64 0), (vS none 0 0), (vS none 0 0)] :: ro R :: F) ∧ Same w w1__) ?_ ?_
   ·rintro _ w295_ ⟨b72_, b125_, h, rfl, H296_, S297_⟩
    refine A_ready (i := 5) (rs := [7]) (by kernel_rfl) ?_
    refine AllR.cons ?_ ?_
    ·skip
     refine A_op (ls' := #[true, true, true, true, true, true, true, false, true, true, true, false, false, false, false, false]) rfl (by kernel_rfl) (T_append rfl rfl Try.underlying30 z44 rfl (by decide) H296_ 4 rfl (Holds.cl_src H296_ 1 rfl Try.underlying30 (by simp [Value.oneCell']) rfl) (by simp only [List.length_map, List.length_take]; omega) ?_)
     intro v298_ w299_ S301_ H300_
     have S302_ := Same.trans S297_ S301_
     refine ⟨⟨Holds.rd H300_ 2 rfl, Holds.rd H300_ 6 rfl, (Holds.ro_at H300_ 7 rfl)⟩, ?_⟩
     have H303_ := Holds.pkF H300_ [0, 1, 1, 1, 1, 1, 1] 1
     exact hJ208 _ _ ⟨v298_, b125_, _, congrArg (fun e => mkA 38 e []) (ch (ch (ch (ch (ch (ch (ch (ch (ch rfl rfl) rfl) rfl) rfl) rfl) rfl) rfl) rfl) rfl), H303_, S302_⟩
    refine AllR.cons ?_ AllR.nil
    refine A_op (ls' := #[true, true, true, true, true, false, true, true, true, true, true, false, false, false, false, false]) rfl (by kernel_rfl) (T_val (v := vv) (x_load1 rfl Try.underlying35 rfl ((Holds.rd H296_ 5 rfl) 4 vv rfl)) ?_)
    refine ⟨⟨Holds.rd H296_ 2 rfl, Holds.rd H296_ 6 rfl, (Holds.ro_at H296_ 7 rfl)⟩, ?_⟩
    exact hJ210 _ _ ⟨b72_, b125_, _, congrArg (fun e => mkA 38 e []) (ch (ch (ch (ch (ch (ch (ch (ch (ch (ch rfl rfl) rfl) rfl) rfl) rfl) rfl) rfl) rfl) rfl) rfl), H296_, S297_⟩
   intro hJ211
   refine A_cut #[true, true, true, true, false, false, true, true, true, true, true, false, false, false, false, false] 7 (fun a__ w1__ => ∃ b140_ : Nat, ∃ h : Env, a__ = mkA 38 (upd (upd (upd (upd (upd (upd (upd (upd (upd (upd h 1 (vI .i64 most)) 4 (vQ b2_)) 5 (vQ b8_)) 8 v) 9 (vI .i64 ((List.length P) : Int))) 10 (vI .i64 (k : Int))) 23 lv) 25 (vA #[(Value.string x28_.in__In_Begin), (Value.string x28_.in__In_End), (vB x28_.in__In_Point), (vI .i64 x28_.in__From), (vI .i64 x28_.in__Till)])) 29 vv) 32 (vS (some ⟨b140_, 0, none⟩) 1 1)) [] ∧ Holds w1__ (cl b140_ 3 [(vI .i64 x28_.val)] :: cl b31_ 131 [(Value.string x28_.in__In_Begin), (Value.string x28_.in__In_End), (vB x28_.in__In_Point), (vI .i64 x28_.in__From), (vI .i64 x28_.in__Till), (vI .i64 x28_.val)] :: sl 3 1 vv (List.length (List.map PN.val (List.take k P))) ((List.map PN.val (List.take k P)).map (vI .i64)) :: sl 44 5 lv (List.length (List.map PN.sn (List.take k P))) ((List.map PN.sn (List.take k P)).flatMap SN.cells) :: cl b8_ 59 [(vB false), (vI .i64 0), (vI .i64 0), lv, vv] :: cl b2_ 59 [(vB false), (vI .i64 0), (vI .i64 0), (vS none 0 0), (vS none 0 0)] :: ro R :: F) ∧ Same w w1__) ?_ ?_
   ·rintro _ w304_ ⟨b140_, h, rfl, H305_, S306_⟩
    refine A_ready (i := 4) (rs := []) (by kernel_rfl) ?_
    refine AllR.cons ?_ AllR.nil
    refine A_op (ls' := #[true, true, true, true, true, false, true, true, true, true, true, false, false, false, false, false]) rfl (by kernel_rfl) (T_new (obj := .cells #[(Value.string x28_.in__In_Begin), (Value.string x28_.in__In_End), (vB x28_.in__In_Point), (vI .i64 x28_.in__From), (vI .i64 x28_.in__Till)] 44) (f := fun b__ => .slice (some ⟨b__, 0, none⟩) 1 1) (A := fun b__ => cl b__ 44 [(Value.string x28_.in__In_Begin), (Value.string x28_.in__In_End), (vB x28_.in__In_Point), (vI .i64 x28_.in__From), (vI .i64 x28_.in__Till)]) (by kernel_rfl) (fun l h => h.alloc _ _) H305_ ?_)
    intro b307_ w308_ S310_ H309_
    have S311_ := Same.trans S306_ S310_
    refine ⟨⟨Holds.rd H309_ 2 rfl, Holds.rd H309_ 6 rfl, (Holds.ro_at H309_ 7 rfl)⟩, ?_⟩
    have H312_ := Holds.pkF H309_ [1, 0, 0, 0, 0, 0, 0, 0] 0
    exact hJ210 _ _ ⟨b307_, b140_, _, congrArg (fun e => mkA 38 e []) (ch (ch (ch (ch (ch (ch (ch (ch (ch (ch rfl rfl) rfl) rfl) rfl) rfl) rfl) rfl) rfl) rfl) rfl), H312_, S311_⟩
   intro hJ213
   refine A_cut #[true, false, true, true, true, false, true, true, true, true, true, false, false, false, false, false] 7 (fun a__ w1__ => ∃ b160_ : Nat, ∃ b165_ : Nat, ∃ h : Env, a__ = mkA 38 (upd (upd (upd (upd (upd (upd (upd (upd (upd (upd h 1 (vI .i64 most)) 4 (vQ b2_)) 5 (vQ b8_)) 8 v) 9 (vI .i64 ((List.length P) : Int))) 10 (vI .i64 (k : Int))) 22 (vP (some ⟨b8_, 3, none⟩))) 26 (vS (some ⟨b160_, 0, none⟩) 1 1)) 29 vv) 32 (vS (some ⟨b165_, 0, none⟩) 1 1)) [] ∧ Holds w1__ (cl b165_ 3 [(vI .i64 x28_.val)] :: cl b160_ 44 [(Value.string x28_.in__In_Begin), (Value.string x28_.in__In_End), (vB x28_.in__In_Point), (vI .i64 x28_.in__From), (vI .i64 x28_.in__Till)] :: cl b31_ 131 [(Value.string x28_.in__In_Begin), (Value.string x28_.in__In_End), (vB x28_.in__In_Point), (vI .i64 x28_.in__From), (vI .i64 x28_.in__Till), (vI .i64 x28_.val)] :: sl 3 1 vv (List.length (List.map PN.val (List.take k P))) ((List.map PN.val (List.take k P)).map (vI .i64)) :: sl 44 5 lv (List.length (List.map PN.sn (List.take k P))) ((List.map PN.sn (List.take k P)).flatMap SN.cells) :: cl b8_ 59 [(vB false), (vI .i64 0), (vI .i64 0), lv, vv] :: cl b2_ 59 [(vB false), (vI .i64 0), (vI .i64 0), (vS none 0 0), (vS none 0 0)] :: ro R :: F) ∧ Same w w1__) ?_ ?_
   ·rintro _ w313_ ⟨b160_, b165_, h, rfl, H314_, S315_⟩
    refine A_ready (i := 1) (rs := []) (by kernel_rfl) ?_
    refine AllR.cons ?_ AllR.nil
    refine A_op (ls' := #[true, true, true, true, true, false, true, true, true, true, true, false, false, false, false, false]) rfl (by kernel_rfl) (T_val (v := lv) (x_load1 rfl Try.underlying30 rfl ((Holds.rd H314_ 5 rfl) 3 lv rfl)) ?_)
    refine ⟨⟨Holds.rd H314_ 2 rfl, Holds.rd H314_ 6 rfl, (Holds.ro_at H314_ 7 rfl)⟩, ?_⟩
    exact hJ210 _ _ ⟨b160_, b165_, _, congrArg (fun e => mkA 38 e []) (ch (ch (ch (ch (ch (ch (ch (ch (ch (ch rfl rfl) rfl) rfl) rfl) rfl) rfl) rfl) rfl) rfl) rfl), H314_, S315_⟩
   intro hJ217
   refine A_cut #[true, true, true, true, true, false, true, false, true, true, false, false, false, false, false, false] 8 (fun a__ w1__ => ∃ b72_ : Nat, ∃ h : Env, a__ = mkA 38 (upd (upd (upd (upd (upd (upd (upd (upd (upd (upd h 1 (vI .i64 most)) 4 (vQ b2_)) 5 (vQ b8_)) 8 v) 9 (vI .i64 ((List.length P) : Int))) 10 (vI .i64 (k : Int))) 23 lv) 26 (vS (some ⟨b72_, 0, none⟩) 1 1)) 28 (vP (some ⟨b8_, 4, none⟩))) 31 (vI .i64 x28_.val)) [] ∧ Holds w1__ (cl b72_ 44 [(Value.string x28_.in__In_Begin), (Value.string x28_.in__In_End), (vB x28_.in__In_Point), (vI .i64 x28_.in__From), (vI .i64 x28_.in__Till)] :: cl b31_ 131 [(Value.string x28_.in__In_Begin), (Value.string x28_.in__In_End), (vB x28_.in__In_Point), (vI .i64 x28_.in__From), (vI .i64 x28_.in__Till), (vI .i64 x28_.val)] :: sl 3 1 vv (List.length (List.map PN.val (List.take k P))) ((List.map PN.val (List.take k P)).map (vI .i64)) :: sl 44 5 lv (List.length (List.map PN.sn (List.take k P))) ((List.map PN.sn (List.take k P)).flatMap SN.cells) :: cl b8_ 59 [(vB false), (vI .i64 0), (vI .i64 0), lv, vv] :: cl b2_ 59 [(vB false), (vI .i64 0), (vI .i64 0), (vS none 0 0), (vS none 0 0)] :: ro R :: F) ∧ Same w w1__) ?_ ?_
   ·rintro _ w316_ ⟨b72_, h, rfl, H317_, S318_⟩
    refine A_ready (i := 5) (rs := [7, 10]) (by kernel_rfl) ?_
    refine AllR.cons ?_ ?_
    ·skip
     refine A_op (ls' := #[true, true, true, true, true, true, true, false, true, true, false, false, false, false, false, false]) rfl (by kernel_rfl) (T_append rfl rfl Try.underlying30 z44 rfl (by decide) H317_ 3 rfl (Holds.cl_src H317_ 0 rfl Try.underlying30 (by simp [Value.oneCell']) rfl) (by simp only [List.length_map, List.length_take]; omega) ?_)
     intro v319_ w320_ S322_ H321_
     have S323_ := Same.trans S318_ S322_
     refine ⟨⟨Holds.rd H321_ 1 rfl, Holds.rd H321_ 5 rfl, (Holds.ro_at H321_ 6 rfl)⟩, ?_⟩
     have H324_ := Holds.pkF H321_ [1, 1, 1, 1, 1, 1] 1
     exact hJ203 _ _ ⟨v319_, _, congrArg (fun e => mkA 38 e []) (ch (ch (ch (ch (ch (ch (ch (ch (ch rfl rfl) rfl) rfl) rfl) rfl) rfl) rfl) rfl) rfl), H324_, S323_⟩
    refine AllR.cons ?_ ?_
    ·skip
     refine A_op (ls' := #[true, true, true, true, true, false, true, true, true, true, false, false, false, false, false, false]) rfl (by kernel_rfl) (T_val (v := vv) (x_load1 rfl Try.underlying35 rfl ((Holds.rd H317_ 4 rfl) 4 vv rfl)) ?_)
     refine ⟨⟨Holds.rd H317_ 1 rfl, Holds.rd H317_ 5 rfl, (Holds.ro_at H317_ 6 rfl)⟩, ?_⟩
     exact hJ209 _ _ ⟨b72_, _, congrArg (fun e => mkA 38 e []) (ch (ch (ch (ch (ch (ch (ch (ch (ch (ch rfl rfl) rfl) rfl) rfl) rfl) rfl) rfl) rfl) rfl) rfl), H317_, S318_⟩
    refine AllR.cons ?_ AllR.nil
    refine A_op (ls' := #[true, true, true, true, true, false, true, false, true, true, true, false, false, false, false, false]) rfl (by kernel_rfl) (T_new (obj := .cells #[(vI .i64 x28_.val)] 3) (f := fun b__ => .slice (some ⟨b__, 0, none⟩) 1 1) (A := fun b__ => cl b__ 3 [(vI .i64 x28_.val)]) (by kernel_rfl) (fun l h => h.alloc _ _) H317_ ?_)
    intro b325_ w326_ S328_ H327_
    have S329_ := Same.trans S318_ S328_
    refine ⟨⟨Holds.rd H327_ 2 rfl, Holds.rd H327_ 6 rfl, (Holds.ro_at H327_ 7 rfl)⟩, ?_⟩
    exact hJ211 _ _ ⟨b72_, b325_, _, congrArg (fun e => mkA 38 e []) (ch (ch (ch (ch (ch (ch (ch (ch (ch (ch rfl rfl) rfl) rfl) rfl) rfl) rfl) rfl) rfl) rfl) rfl), H327_, S329_⟩
   intro hJ202
   refine A_cut #[true, true, true, true, false, false, true, true, true, true, false, false, false, false, false, false] 8 (fun a__ w1__ => ∃ h : Env, a__ = mkA 38 (upd (upd (upd (upd (upd (upd (upd (upd (upd (upd h 1 (vI .i64 most)) 4 (vQ b2_)) 5 (vQ b8_)) 8 v) 9 (vI .i64 ((List.length P) : Int))) 10 (vI .i64 (k : Int))) 23 lv) 25 (vA #[(Value.string x28_.in__In_Begin), (Value.string x28_.in__In_End), (vB x28_.in__In_Point), (vI .i64 x28_.in__From), (vI .i64 x28_.in__Till)])) 29 vv) 31 (vI .i64 x28_.val)) [] ∧ Holds w1__ (cl b31_ 131 [(Value.string x28_.in__In_Begin), (Value.string x28_.in__In_End), (vB x28_.in__In_Point), (vI .i64 x28_.in__From), (vI .i64 x28_.in__Till), (vI .i64 x28_.val)] :: sl 3 1 vv (List.length (List.map PN.val (List.take k P))) ((List.map PN.val (List.take k P)).map (vI .i64)) :: sl 44 5 lv (List.length (List.map PN.sn (List.take k P))) ((List.map PN.sn (List.take k P)).flatMap SN.cells) :: cl b8_ 59 [(vB false), (vI .i64 0), (vI .i64 0), lv, vv] :: cl b2_ 59 [(vB false), (vI .i64 0), (vI .i64 0), (vS none 0 0), (vS none 0 0)] :: ro R :: F) ∧ Same w w1__) ?_ ?_
   ·rintro _ w330_ ⟨h, rfl, H331_, S332_⟩
    refine A_ready (i := 4) (rs := [10]) (by kernel_rfl) ?_
    refine AllR.cons ?_ ?_
    ·skip
     refine A_op (ls' := #[true, true, true, true, true, false, true, true, true, true, false, false, false, false, false, false]) rfl (by kernel_rfl) (T_new (obj := .cells #[(Value.string x28_.in__In_Begin), (Value.string x28_.in__In_End), (vB x28_.in__In_Point), (vI .i64 x28_.in__From), (vI .i64 x28_.in__Till)] 44) (f := fun b__ => .slice (some ⟨b__, 0, none⟩) 1 1) (A := fun b__ => cl b__ 44 [(Value.string x28_.in__In_Begin), (Value.string x28_.in__In_End), (vB x28_.in__In_Point), (vI .i64 x28_.in__From), (vI .i64 x28_.in__Till)]) (by kernel_rfl) (fun l h => h.alloc _ _) H331_ ?_)
     intro b333_ w334_ S336_ H335_
     have S337_ := Same.trans S332_ S336_
     refine ⟨⟨Holds.rd H335_ 1 rfl, Holds.rd H335_ 5 rfl, (Holds.ro_at H335_ 6 rfl)⟩, ?_⟩
     exact hJ209 _ _ ⟨b333_, _, congrArg (fun e => mkA 38 e []) (ch (ch (ch (ch (ch (ch (ch (ch (ch (ch rfl rfl) rfl) rfl) rfl) rfl) rfl) rfl) rfl) rfl) rfl), H335_, S337_⟩
    refine AllR.cons ?_ AllR.nil
    refine A_op (ls' := #[true, true, true, true, false, false, true, true, true, true, true, false, false, false, false, false]) rfl (by kernel_rfl) (T_new (obj := .cells #[(vI .i64 x28_.val)] 3) (f := fun b__ => .slice (some ⟨b__, 0, none⟩) 1 1) (A := fun b__ => cl b__ 3 [(vI .i64 x28_.val)]) (by kernel_rfl) (fun l h => h.alloc _ _) H331_ ?_)
    intro b338_ w339_ S341_ H340_
    have S342_ := Same.trans S332_ S341_
    refine ⟨⟨Holds.rd H340_ 1 rfl, Holds.rd H340_ 5 rfl, (Holds.ro_at H340_ 6 rfl)⟩, ?_⟩
    exact hJ213 _ _ ⟨b338_, _, congrArg (fun e => mkA 38 e []) (ch (ch (ch (ch (ch (ch (ch (ch (ch (ch rfl rfl) rfl) rfl) rfl) rfl) rfl) rfl) rfl) rfl) rfl), H340_, S342_⟩
   intro hJ212
   refine A_cut #[true, true, true, true, false, false, true, false, true, true, true, false, false, false, false, false] 8 (fun a__ w1__ => ∃ b150_ : Nat, ∃ h : Env, a__ = mkA 38 (upd (upd (upd (upd (upd (upd (upd (upd (upd (upd h 1 (vI .i64 most)) 4 (vQ b2_)) 5 (vQ b8_)) 8 v) 9 (vI .i64 ((List.length P) : Int))) 10 (vI .i64 (k : Int))) 23 lv) 25 (vA #[(Value.string x28_.in__In_Begin), (Value.string x28_.in__In_End), (vB x28_.in__In_Point), (vI .i64 x28_.in__From), (vI .i64 x28_.in__Till)])) 28 (vP (some ⟨b8_, 4, none⟩))) 32 (vS (some ⟨b150_, 0, none⟩) 1 1)) [] ∧ Holds w1__ (cl b150_ 3 [(vI .i64 x28_.val)] :: cl b31_ 131 [(Value.string x28_.in__In_Begin), (Value.string x28_.in__In_End), (vB x28_.in__In_Point), (vI .i64 x28_.in__From), (vI .i64 x28_.in__Till), (vI .i64 x28_.val)] :: sl 3 1 vv (List.length (List.map PN.val (List.take k P))) ((List.map PN.val (List.take k P)).map (vI .i64)) :: sl 44 5 lv (List.length (List.map PN.sn (List.take k P))) ((List.map PN.sn (List.take k P)).flatMap SN.cells) :: cl b8_ 59 [(vB false), (vI .i64 0), (vI .i64 0), lv, vv] :: cl b2_ 59 [(vB false), (vI .i64 0), (vI .i64 0), (vS none 0 0), (vS none 0 0)] :: ro R :: F) ∧ Same w w1__) ?_ ?_
   ·rintro _ w343_ ⟨b150_, h, rfl, H344_, S345_⟩
    refine A_ready (i := 4) (rs := [7]) (by kernel_rfl) ?_
    refine AllR.cons ?_ ?_
    ·skip
     refine A_op (ls' := #[true, true, true, true, true, false, true, false, true, true, true, false, false, false, false, false]) rfl (by kernel_rfl) (T_new (obj := .cells #[(Value.string x28_.in__In_Begin), (Value.string x28_.in__In_End), (vB x28_.in__In_Point), (vI .i64 x28_.in__From), (vI .i64 x28_.in__Till)] 44) (f := fun b__ => .slice (some ⟨b__, 0, none⟩) 1 1) (A := fun b__ => cl b__ 44 [(Value.string x28_.in__In_Begin), (Value.string x28_.in__In_End), (vB x28_.in__In_Point), (vI .i64 x28_.in__From), (vI .i64 x28_.in__Till)]) (by kernel_rfl) (fun l h => h.alloc _ _) H344_ ?_)
     intro b346_ w347_ S349_ H348_
     have S350_ := Same.trans S345_ S349_
     refine ⟨⟨Holds.rd H348_ 2 rfl, Holds.rd H348_ 6 rfl, (Holds.ro_at H348_ 7 rfl)⟩, ?_⟩
     have H351_ := Holds.pkF H348_ [1, 0, 0, 0, 0, 0, 0, 0] 0
     exact hJ211 _ _ ⟨b346_, b150_, _, congrArg (fun e => mkA 38 e []) (ch (ch (ch (ch (ch (ch (ch (ch (ch (ch rfl rfl) rfl) rfl) rfl) rfl) rfl) rfl) rfl) rfl) rfl), H351_, S350_⟩
    refine AllR.cons ?_ AllR.nil
    refine A_op (ls' := #[true, true, true, true, false, false, true, true, true, true, true, false, false, false, false, false]) rfl (by kernel_rfl) (T_val (v := vv) (x_load1 rfl Try.underlying35 rfl ((Holds.rd H344_ 4 rfl) 4 vv rfl)) ?_)
    refine ⟨⟨Holds.rd H344_ 1 rfl, Holds.rd H344_ 5 rfl, (Holds.ro_at H344_ 6 rfl)⟩, ?_⟩
    exact hJ213 _ _ ⟨b150_, _, congrArg (fun e => mkA 38 e []) (ch (ch (ch (ch (ch (ch (ch (ch (ch (ch rfl rfl) rfl) rfl) rfl) rfl) rfl) rfl) rfl) rfl) rfl), H344_, S345_⟩
   intro hJ214
   refine A_cut #[true, false, true, true, true, false, true, true, true, true, false, false, false, false, false, false] 8 (fun a__ w1__ => ∃ b160_ : Nat, ∃ h : Env, a__ = mkA 38 (upd (upd (upd (upd (upd (upd (upd (upd (upd (upd h 1 (vI .i64 most)) 4 (vQ b2_)) 5 (vQ b8_)) 8 v) 9 (vI .i64 ((List.length P) : Int))) 10 (vI .i64 (k : Int))) 22 (vP (some ⟨b8_, 3, none⟩))) 26 (vS (some ⟨b160_, 0, none⟩) 1 1)) 29 vv) 31 (vI .i64 x28_.val)) [] ∧ Holds w1__ (cl b160_ 44 [(Value.string x28_.in__In_Begin), (Value.string x28_.in__In_End), (vB x28_.in__In_Point), (vI .i64 x28_.in__From), (vI .i64 x28_.in__Till)] :: cl b31_ 131 [(Value.string x28_.in__In_Begin), (Value.string x28_.in__In_End), (vB x28_.in__In_Point), (vI .i64 x28_.in__From), (vI .i64 x28_.in__Till), (vI .i64 x28_.val)] :: sl 3 1 vv (List.length (List.map PN.val (List.take k P))) ((List.map PN.val (List.take k P)).map (vI .i64)) :: sl 44 5 lv (List.length (List.map PN.sn (List.take k P))) ((List.map PN.sn (List.take k P)).flatMap SN.cells) :: cl b8_ 59 [(vB false), (vI .i64 0), (vI .i64 0), lv, vv] :: cl b2_ 59 [(vB false), (vI .i64 0), (vI .i64 0), (vS none 0 0), (vS none 0 0)] :: ro R :: F) ∧ Same w w1__) ?_ ?_
   ·rintro _ w352_ ⟨b160_, h, rfl, H353_, S354_⟩
    refine A_ready (i := 1) (rs := [10]) (by kernel_rfl) ?_
    refine AllR.cons ?_ ?_
    ·skip
     refine A_op (ls' := #[true, true, true, true, true, false, true, true, true, true, false, false, false, false, false, false]) rfl (by kernel_rfl) (T_val (v := lv) (x_load1 rfl Try.underlying30 rfl ((Holds.rd H353_ 4 rfl) 3 lv rfl)) ?_)
     refine ⟨⟨Holds.rd H353_ 1 rfl, Holds.rd H353_ 5 rfl, (Holds.ro_at H353_ 6 rfl)⟩, ?_⟩
     exact hJ209 _ _ ⟨b160_, _, congrArg (fun e => mkA 38 e []) (ch (ch (ch (ch (ch (ch (ch (ch (ch (ch rfl rfl) rfl) rfl) rfl) rfl) rfl) rfl) rfl) rfl) rfl), H353_, S354_⟩
    refine AllR.cons ?_ AllR.nil
    refine A_op (ls' := #[true, false, true, true, true, false, true, true, true, true, true, false, false, false, false, false]) rfl (by kernel_rfl) (T_new (obj := .cells #[(vI .i64 x28_.val)] 3) (f := fun b__ => .slice (some ⟨b__, 0, none⟩) 1 1) (A := fun b__ => cl b__ 3 [(vI .i64 x28_.val)]) (by kernel_rfl) (fun l h => h.alloc _ _) H353_ ?_)
    intro b355_ w356_ S358_ H357_
    have S359_ := Same.trans S354_ S358_
    refine ⟨⟨Holds.rd H357_ 2 rfl, Holds.rd H357_ 6 rfl, (Holds.ro_at H357_ 7 rfl)⟩, ?_⟩
    exact hJ217 _ _ ⟨b160_, b355_, _, congrArg (fun e => mkA 38 e []) (ch (ch (ch (ch (ch (ch (ch (ch (ch (ch rfl rfl) rfl) rfl) rfl) rfl) rfl) rfl) rfl) rfl) rfl), H357_, S359_⟩
   intro hJ216
   refine A_cut #[true, false, true, true, true, false, true, false, true, true, true, false, false, false, false, false] 8 (fun a__ w1__ => ∃ b160_ : Nat, ∃ b170_ : Nat, ∃ h : Env, a__ = mkA 38 (upd (upd (upd (upd (upd (upd (upd (upd (upd (upd h 1 (vI .i64 most)) 4 (vQ b2_)) 5 (vQ b8_)) 8 v) 9 (vI .i64 ((List.length P) : Int))) 10 (vI .i64 (k : Int))) 22 (vP (some ⟨b8_, 3, none⟩))) 26 (vS (some ⟨b160_, 0, none⟩) 1 1)) 28 (vP (some ⟨b8_, 4, none⟩))) 32 (vS (some ⟨b170_, 0, none⟩) 1 1)) [] ∧ Holds w1__ (cl b170_ 3 [(vI .i64 x28_.val)] :: cl b160_ 44 [(Value.string x28_.in__In_Begin), (Value.string x28_.in__In_End), (vB x28_.in__In_Point), (vI .i64 x28_.in__From), (vI .i64 x28_.in__Till)] :: cl b31_ 131 [(Value.string x28_.in__In_Begin), (Value.string x28_.in__In_End), (vB x28_.in__In_Point), (vI .i64 x28_.in__From), (vI .i64 x28_.in__Till), (vI .i64 x28_.val)] :: sl 3 1 vv (List.length (List.map PN.val (List.take k P))) ((List.map PN.val (List.take k P)).map (vI .i64)) :: sl 44 5 lv (List.length (List.map PN.sn (List.take k P))) ((List.map PN.sn (List.take k P)).flatMap SN.cells) :: cl b8_ 59 [(vB false), (vI .i64 0), (vI .i64 0), lv, vv] :: cl b2_ 59 [(vB false), (vI .i64 0), (vI .i64 0), (vS none 0 0), (vS none 0 0)] :: ro R :: F) ∧ Same w w1__) ?_ ?_
   ·rintro _ w360_ ⟨b160_, b170_, h, rfl, H361_, S362_⟩
    refine A_ready (i := 1) (rs := [7]) (by kernel_rfl) ?_
    refine AllR.cons ?_ ?_
    ·skip
     refine A_op (ls' := #[true, true, true, true, true, false, true, false, true, true, true, false, false, false, false, false]) rfl (by kernel_rfl) (T_val (v := lv) (x_load1 rfl Try.underlying30 rfl ((Holds.rd H361_ 5 rfl) 3 lv rfl)) ?_)
     refine ⟨⟨Holds.rd H361_ 2 rfl, Holds.rd H361_ 6 rfl, (Holds.ro_at H361_ 7 rfl)⟩, ?_⟩
     exact hJ211 _ _ ⟨b160_, b170_, _, congrArg (fun e => mkA 38 e []) (ch (ch (ch (ch (ch (ch (ch (ch (ch (ch rfl rfl) rfl) rfl) rfl) rfl) rfl) rfl) rfl) rfl) rfl), H361_, S362_⟩
    refine AllR.cons ?_ AllR.nil
    refine A_op (ls' := #[true, false, true, true, true, false, true, true, true, true, true, false, false, false, false, false]) rfl (by kernel_rfl) (T_val (v := vv) (x_load1 rfl Try.underlying35 rfl ((Holds.rd H361_ 5 rfl) 4 vv rfl)) ?_)
    refine ⟨⟨Holds.rd H361_ 2 rfl, Holds.rd H361_ 6 rfl, (Holds.ro_at H361_ 7 rfl)⟩, ?_⟩
    exact hJ217 _ _ ⟨b160_, b170_, _, congrArg (fun e => mkA 38 e []) (ch (ch (ch (ch (ch (ch (ch (ch (ch (ch rfl rfl) rfl) rfl) rfl) rfl) rfl) rfl) rfl) rfl) rfl), H361_, S362_⟩
   intro hJ218
   refine A_cut #[true, false, true, true, false, false, true, true, true, true, true, false, false, false, false, false] 8 (fun a__ w1__ => ∃ b180_ : Nat, ∃ h : Env, a__ = mkA 38 (upd (upd (upd (upd (upd (upd (upd (upd (upd (upd h 1 (vI .i64 most)) 4 (vQ b2_)) 5 (vQ b8_)) 8 v) 9 (vI .i64 ((List.length P) : Int))) 10 (vI .i64 (k : Int))) 22 (vP (some ⟨b8_, 3, none⟩))) 25 (vA #[(Value.string x28_.in__In_Begin), (Value.string x28_.in__In_End), (vB x28_.in__In_Point), (vI .i64 x28_.in__From), (vI .i64 x28_.in__Till)])) 29 vv) 32 (vS (some ⟨b180_, 0, none⟩) 1 1)) [] ∧ Holds w1__ (cl b180_ 3 [(vI .i64 x28_.val)] :: cl b31_ 131 [(Value.string x28_.in__In_Begin), (Value.string x28_.in__In_End), (vB x28_.in__In_Point), (vI .i64 x28_.in__From), (vI .i64 x28_.in__Till), (vI .i64 x28_.val)] :: sl 3 1 vv (List.length (List.map PN.val (List.take k P))) ((List.map PN.val (List.take k P)).map (vI .i64)) :: sl 44 5 lv (List.length (List.map PN.sn (List.take k P))) ((List.map PN.sn (List.take k P)).flatMap SN.cells) :: cl b8_ 59 [(vB false), (vI .i64 0), (vI .i64 0), lv, vv] :: cl b2_ 59 [(vB false), (vI .i64 0), (vI .i64 0), (vS none 0 0), (vS none 0 0)] :: ro R :: F) ∧ Same w w1__) ?_ ?_
   ·rintro _ w363_ ⟨b180_, h, rfl, H364_, S365_⟩
    refine A_ready (i := 1) (rs := [4]) (by kernel_rfl) ?_
    refine AllR.cons ?_ ?_
    ·skip
     refine A_op (ls' := #[true, true, true, true, false, false, true, true, true, true, true, false, false, false, false, false]) rfl (by kernel_rfl) (T_val (v := lv) (x_load1 rfl Try.underlying30 rfl ((Holds.rd H364_ 4 rfl) 3 lv rfl)) ?_)
     refine ⟨⟨Holds.rd H364_ 1 rfl, Holds.rd H364_ 5 rfl, (Holds.ro_at H364_ 6 rfl)⟩, ?_⟩
     exact hJ213 _ _ ⟨b180_, _, congrArg (fun e => mkA 38 e []) (ch (ch (ch (ch (ch (ch (ch (ch (ch (ch rfl rfl) rfl) rfl) rfl) rfl) rfl) rfl) rfl) rfl) rfl), H364_, S365_⟩
    refine AllR.cons ?_ AllR.nil
    refine A_op (ls' := #[true, false, true, true, true, false, true, true, true, true, true, false, false, false, false, false]) rfl (by kernel_rfl) (T_new (obj := .cells #[(Value.string x28_.in__In_Begin), (Value.string x28_.in__In_End), (vB x28_.in__In_Point), (vI .i64 x28_.in__From), (vI .i64 x28_.in__Till)] 44) (f := fun b__ => .slice (some ⟨b__, 0, none⟩) 1 1) (A := fun b__ => cl b__ 44 [(Value.string x28_.in__In_Begin), (Value.string x28_.in__In_End), (vB x28_.in__In_Point), (vI .i64 x28_.in__From), (vI .i64 x28_.in__Till)]) (by kernel_rfl) (fun l h => h.alloc _ _) H364_ ?_)
    intro b366_ w367_ S369_ H368_
    have S370_ := Same.trans S365_ S369_
    refine ⟨⟨Holds.rd H368_ 2 rfl, Holds.rd H368_ 6 rfl, (Holds.ro_at H368_ 7 rfl)⟩, ?_⟩
    have H371_ := Holds.pkF H368_ [1, 0, 0, 0, 0, 0, 0, 0] 0
    exact hJ217 _ _ ⟨b366_, b180_, _, congrArg (fun e => mkA 38 e []) (ch (ch (ch (ch (ch (ch (ch (ch (ch (ch rfl rfl) rfl) rfl) rfl) rfl) rfl) rfl) rfl) rfl) rfl), H371_, S370_⟩
   intro hJ220
   refine A_cut #[true, true, true, true, false, false, true, false, true, true, false, false, false, false, false, false] 9 (fun a__ w1__ => ∃ h : Env, a__ = mkA 38 (upd (upd (upd (upd (upd (upd (upd (upd (upd (upd h 1 (vI .i64 most)) 4 (vQ b2_)) 5 (vQ b8_)) 8 v) 9 (vI .i64 ((List.length P) : Int))) 10 (vI .i64 (k : Int))) 23 lv) 25 (vA #[(Value.string x28_.in__In_Begin), (Value.string x28_.in__In_End), (vB x28_.in__In_Point), (vI .i64 x28_.in__From), (vI .i64 x28_.in__Till)])) 28 (vP (some ⟨b8_, 4, none⟩))) 31 (vI .i64 x28_.val)) [] ∧ Holds w1__ (cl b31_ 131 [(Value.string x28_.in__In_Begin), (Value.string x28_.in__In_End), (vB x28_.in__In_Point), (vI .i64 x28_.in__From), (vI .i64 x28_.in__Till), (vI .i64 x28_.val)] :: sl 3 1 vv (List.length (List.map PN.val (List.take k P))) ((List.map PN.val (List.take k P)).map (vI .i64)) :: sl 44 5 lv (List.length (List.map PN.sn (List.take k P))) ((List.map PN.sn (List.take k P)).flatMap SN.cells) :: cl b8_ 59 [(vB false), (vI .i64 0), (vI .i64 0), lv, vv] :: cl b2_ 59 [(vB false), (vI .i64 0), (vI .i64 0), (vS none 0 0), (vS none 0 0)] :: ro R :: F) ∧ Same w w1__) ?_ ?_
   ·rintro _ w372_ ⟨h, rfl, H373_, S374_⟩
    refine A_ready (i := 4) (rs := [7, 10]) (by kernel_rfl) ?_
    refine AllR.cons ?_ ?_
    ·skip
     refine A_op (ls' := #[true, true, true, true, true, false, true, false, true, true, false, false, false, false, false, false]) rfl (by kernel_rfl) (T_new (obj := .cells #[(Value.string x28_.in__In_Begin), (Value.string x28_.in__In_End), (vB x28_.in__In_Point), (vI .i64 x28_.in__From), (vI .i64 x28_.in__Till)] 44) (f := fun b__ => .slice (some ⟨b__, 0, none⟩) 1 1) (A := fun b__ => cl b__ 44 [(Value.string x28_.in__In_Begin), (Value.string x28_.in__In_End), (vB x28_.in__In_Point), (vI .i64 x28_.in__From), (vI .i64 x28_.in__Till)]) (by kernel_rfl) (fun l h => h.alloc _ _) H373_ ?_)
     intro b375_ w376_ S378_ H377_
     have S379_ := Same.trans S374_ S378_
     refine ⟨⟨Holds.rd H377_ 1 rfl, Holds.rd H377_ 5 rfl, (Holds.ro_at H377_ 6 rfl)⟩, ?_⟩
     exact hJ202 _ _ ⟨b375_, _, congrArg (fun e => mkA 38 e []) (ch (ch (ch (ch (ch (ch (ch (ch (ch (ch rfl rfl) rfl) rfl) rfl) rfl) rfl) rfl) rfl) rfl) rfl), H377_, S379_⟩
    refine AllR.cons ?_ ?_
    ·skip
     refine A_op (ls' := #[true, true, true, true, false, false, true, true, true, true, false, false, false, false, false, false]) rfl (by kernel_rfl) (T_val (v := vv) (x_load1 rfl Try.underlying35 rfl ((Holds.rd H373_ 3 rfl) 4 vv rfl)) ?_)
     refine ⟨⟨Holds.rd H373_ 0 rfl, Holds.rd H373_ 4 rfl, (Holds.ro_at H373_ 5 rfl)⟩, ?_⟩
     exact hJ212 _ _ ⟨_, congrArg (fun e => mkA 38 e []) (ch (ch (ch (ch (ch (ch (ch (ch (ch (ch rfl rfl) rfl) rfl) rfl) rfl) rfl) rfl) rfl) rfl) rfl), H373_, S374_⟩
    refine AllR.cons ?_ AllR.nil
    refine A_op (ls' := #[true, true, true, true, false, false, true, false, true, true, true, false, false, false, false, false]) rfl (by kernel_rfl) (T_new (obj := .cells #[(vI .i64 x28_.val)] 3) (f := fun b__ => .slice (some ⟨b__, 0, none⟩) 1 1) (A := fun b__ => cl b__ 3 [(vI .i64 x28_.val)]) (by kernel_rfl) (fun l h => h.alloc _ _) H373_ ?_)
    intro b380_ w381_ S383_ H382_
    have S384_ := Same.trans S374_ S383_
    refine ⟨⟨Holds.rd H382_ 1 rfl, Holds.rd H382_ 5 rfl, (Holds.ro_at H382_ 6 rfl)⟩, ?_⟩
    exact hJ214 _ _ ⟨b380_, _, congrArg (fun e => mkA 38 e []) (ch (ch (ch (ch (ch (ch (ch (ch (ch (ch rfl rfl) rfl) rfl) rfl) rfl) rfl) rfl) rfl) rfl) rfl), H382_, S384_⟩
   intro hJ201
   refine A_cut #[true, false, true, true, true, false, true, false, true, true, false, false, false, false, false, false] 9 (fun a__ w1__ => ∃ b160_ : Nat, ∃ h : Env, a__ = mkA 38 (upd (upd (upd (upd (upd (upd (upd (upd (upd (upd h 1 (vI .i64 most)) 4 (vQ b2_)) 5 (vQ b8_)) 8 v) 9 (vI .i64 ((List.length P) : Int))) 10 (vI .i64 (k : Int))) 22 (vP (some ⟨b8_, 3, none⟩))) 26 (vS (some ⟨b160_, 0, none⟩) 1 1)) 28 (vP (some ⟨b8_, 4, none⟩))) 31 (vI .i64 x28_.val)) [] ∧ Holds w1__ (cl b160_ 44 [(Value.string x28_.in__In_Begin), (Value.string x28_.in__In_End), (vB x28_.in__In_Point), (vI .i64 x28_.in__From), (vI .i64 x28_.in__Till)] :: cl b31_ 131 [(Value.string x28_.in__In_Begin), (Value.string x28_.in__In_End), (vB x28_.in__In_Point), (vI .i64 x28_.in__From), (vI .i64 x28_.in__Till), (vI .i64 x28_.val)] :: sl 3 1 vv (List.length (List.map PN.val (List.take k P))) ((List.map PN.val (List.take k P)).map (vI .i64)) :: sl 44 5 lv (List.length (List.map PN.sn (List.take k P))) ((List.map PN.sn (List.take k P)).flatMap SN.cells) :: cl b8_ 59 [(vB false), (vI .i64 0), (vI .i64 0), lv, vv] :: cl b2_ 59 [(vB false), (vI .i64 0), (vI .i64 0), (vS none 0 0), (vS none 0 0)] :: ro R :: F) ∧ Same w w1__) ?_ ?_
   ·rintro _ w385_ ⟨b160_, h, rfl, H386_, S387_⟩
    refine A_ready (i := 1) (rs := [7, 10]) (by kernel_rfl) ?_
    refine AllR.cons ?_ ?_
    ·skip
     refine A_op (ls' := #[true, true, true, true, true, false, true, false, true, true, false, false, false, false, false, false]) rfl (by kernel_rfl) (T_val (v := lv) (x_load1 rfl Try.underlying30 rfl ((Holds.rd H386_ 4 rfl) 3 lv rfl)) ?_)
     refine ⟨⟨Holds.rd H386_ 1 rfl, Holds.rd H386_ 5 rfl, (Holds.ro_at H386_ 6 rfl)⟩, ?_⟩
     exact hJ202 _ _ ⟨b160_, _, congrArg (fun e => mkA 38 e []) (ch (ch (ch (ch (ch (ch (ch (ch (ch (ch rfl rfl) rfl) rfl) rfl) rfl) rfl) rfl) rfl) rfl) rfl), H386_, S387_⟩
    refine AllR.cons ?_ ?_
    ·skip
     refine A_op (ls' := #[true, false, true, true, true, false, true, true, true, true, false, false, false, false, false, false]) rfl (by kernel_rfl) (T_val (v := vv) (x_load1 rfl Try.underlying35 rfl ((Holds.rd H386_ 4 rfl) 4 vv rfl)) ?_)
     refine ⟨⟨Holds.rd H386_ 1 rfl, Holds.rd H386_ 5 rfl, (Holds.ro_at H386_ 6 rfl)⟩, ?_⟩
     exact hJ216 _ _ ⟨b160_, _, congrArg (fun e => mkA 38 e []) (ch (ch (ch (ch (ch (ch (ch (ch (ch (ch rfl rfl) rfl) rfl) rfl) rfl) rfl) rfl) rfl) rfl) rfl), H386_, S387_⟩
    refine AllR.cons ?_ AllR.nil
    refine A_op (ls' := #[true, false, true, true, true, false, true, false, true, true, true, false, false, false, false, false]) rfl (by kernel_rfl) (T_new (obj := .cells #[(vI .i64 x28_.val)] 3) (f := fun b__ => .slice (some ⟨b__, 0, none⟩) 1 1) (A := fun b__ => cl b__ 3 [(vI .i64 x28_.val)]) (by kernel_rfl) (fun l h => h.alloc _ _) H386_ ?_)
    intro b388_ w389_ S391_ H390_
    have S392_ := Same.trans S387_ S391_
    refine ⟨⟨Holds.rd H390_ 2 rfl, Holds.rd H390_ 6 rfl, (Holds.ro_at H390_ 7 rfl)⟩, ?_⟩
    exact hJ218 _ _ ⟨b160_, b388_, _, congrArg (fun e => mkA 38 e []) (ch (ch (ch (ch (ch (ch (ch (ch (ch (ch rfl rfl) rfl) rfl) rfl) rfl) rfl) rfl) rfl) rfl) rfl), H390_, S392_⟩
   intro hJ215
   refine A_cut #[true, false, true, true, false, false, true, true, true, true, false, false, false, false, false, false] 9 (fun a__ w1__ => ∃ h : Env, a__ = mkA 38 (upd (upd (upd (upd (upd (upd (upd (upd (upd (upd h 1 (vI .i64 most)) 4 (vQ b2_)) 5 (vQ b8_)) 8 v) 9 (vI .i64 ((List.length P) : Int))) 10 (vI .i64 (k : Int))) 22 (vP (some ⟨b8_, 3, none⟩))) 25 (vA #[(Value.string x28_.in__In_Begin), (Value.string x28_.in__In_End), (vB x28_.in__In_Point), (vI .i64 x28_.in__From), (vI .i64 x28_.in__Till)])) 29 vv) 31 (vI .i64 x28_.val)) [] ∧ Holds w1__ (cl b31_ 131 [(Value.string x28_.in__In_Begin), (Value.string x28_.in__In_End), (vB x28_.in__In_Point), (vI .i64 x28_.in__From), (vI .i64 x28_.in__Till), (vI .i64 x28_.val)] :: sl 3 1 vv (List.length (List.map PN.val (List.take k P))) ((List.map PN.val (List.take k P)).map (vI .i64)) :: sl 44 5 lv (List.length (List.map PN.sn (List.take k P))) ((List.map PN.sn (List.take k P)).flatMap SN.cells) :: cl b8_ 59 [(vB false), (vI .i64 0), (vI .i64 0), lv, vv] :: cl b2_ 59 [(vB false), (vI .i64 0), (vI .i64 0), (vS none 0 0), (vS none 0 0)] :: ro R :: F) ∧ Same w w1__) ?_ ?_
   ·rintro _ w393_ ⟨h, rfl, H394_, S395_⟩
    refine A_ready (i := 1) (rs := [4, 10]) (by kernel_rfl) ?_
    refine AllR.cons ?_ ?_
    ·skip
     refine A_op (ls' := #[true, true, true, true, false, false, true, true, true, true, false, false, false, false, false, false]) rfl (by kernel_rfl) (T_val (v := lv) (x_load1 rfl Try.underlying30 rfl ((Holds.rd H394_ 3 rfl) 3 lv rfl)) ?_)
     refine ⟨⟨Holds.rd H394_ 0 rfl, Holds.rd H394_ 4 rfl, (Holds.ro_at H394_ 5 rfl)⟩, ?_⟩
     exact hJ212 _ _ ⟨_, congrArg (fun e => mkA 38 e []) (ch (ch (ch (ch (ch (ch (ch (ch (ch (ch rfl rfl) rfl) rfl) rfl) rfl) rfl) rfl) rfl) rfl) rfl), H394_, S395_⟩
    refine AllR.cons ?_ ?_
    ·skip
     refine A_op (ls' := #[true, false, true, true, true, false, true, true, true, true, false, false, false, false, false, false]) rfl (by kernel_rfl) (T_new (obj := .cells #[(Value.string x28_.in__In_Begin), (Value.string x28_.in__In_End), (vB x28_.in__In_Point), (vI .i64 x28_.in__From), (vI .i64 x28_.in__Till)] 44) (f := fun b__ => .slice (some ⟨b__, 0, none⟩) 1 1) (A := fun b__ => cl b__ 44 [(Value.string x28_.in__In_Begin), (Value.string x28_.in__In_End), (vB x28_.in__In_Point), (vI .i64 x28_.in__From), (vI .i64 x28_.in__Till)]) (by kernel_rfl) (fun l h => h.alloc _ _) H394_ ?_)
     intro b396_ w397_ S399_ H398_
     have S400_ := Same.trans S395_ S399_
     refine ⟨⟨Holds.rd H398_ 1 rfl, Holds.rd H398_ 5 rfl, (Holds.ro_at H398_ 6 rfl)⟩, ?_⟩
     exact hJ216 _ _ ⟨b396_, _, congrArg (fun e => mkA 38 e []) (ch (ch (ch (ch (ch (ch (ch (ch (ch (ch rfl rfl) rfl) rfl) rfl) rfl) rfl) rfl) rfl) rfl) rfl), H398_, S400_⟩
    refine AllR.cons ?_ AllR.nil
    refine A_op (ls' := #[true, false, true, true, false, false, true, true, true, true, true, false, false, false, false, false]) rfl (by kernel_rfl) (T_new (obj := .cells #[(vI .i64 x28_.val)] 3) (f := fun b__ => .slice (some ⟨b__, 0, none⟩) 1 1) (A := fun b__ => cl b__ 3 [(vI .i64 x28_.val)]) (by kernel_rfl) (fun l h => h.alloc _ _) H394_ ?_)
    intro b401_ w402_ S404_ H403_
    have S405_ := Same.trans S395_ S404_
    refine ⟨⟨Holds.rd H403_ 1 rfl, Holds.rd H403_ 5 rfl, (Holds.ro_at H403_ 6 rfl)⟩, ?_⟩
    exact hJ220 _ _ ⟨b401_, _, congrArg (fun e => mkA 38 e []) (ch (ch (ch (ch (ch (ch (ch (ch (ch (ch rfl rfl) rfl) rfl) rfl) rfl) rfl) rfl) rfl) rfl) rfl), H403_, S405_⟩
   intro hJ219
   refine A_cut #[true, false, true, true, false, false, true, false, true, true, true, false, false, false, false, false] 9 (fun a__ w1__ => ∃ b190_ : Nat, ∃ h : Env, a__ = mkA 38 (upd (upd (upd (upd (upd (upd (upd (upd (upd (upd h 1 (vI .i64 most)) 4 (vQ b2_)) 5 (vQ b8_)) 8 v) 9 (vI .i64 ((List.length P) : Int))) 10 (vI .i64 (k : Int))) 22 (vP (some ⟨b8_, 3, none⟩))) 25 (vA #[(Value.string x28_.in__In_Begin), (Value.string x28_.in__In_End), (vB x28_.in__In_Point), (vI .i64 x28_.in__From), (vI .i64 x28_.in__Till)])) 28 (vP (some ⟨b8_, 4, none⟩))) 32 (vS (some ⟨b190_, 0, none⟩) 1 1)) [] ∧ Holds w1__ (cl b190_ 3 [(vI .i64 x28_.val)] :: cl b31_ 131 [(Value.string x28_.in__In_Begin), (Value.string x28_.in__In_End), (vB x28_.in__In_Point), (vI .i64 x28_.in__From), (vI .i64 x28_.in__Till), (vI .i64 x28_.val)] :: sl 3 1 vv (List.length (List.map PN.val (List.take k P))) ((List.map PN.val (List.take k P)).map (vI .i64)) :: sl 44 5 lv (List.length (List.map PN.sn (List.take k P))) ((List.map PN.sn (List.take k P)).flatMap SN.cells) :: cl b8_ 59 [(vB false), (vI .i64 0), (vI .i64 0), lv, vv] :: cl b2_ 59 [(vB false), (vI .i64 0), (vI .i64 0), (vS none 0 0), (vS none 0 0)] :: ro R :: F) ∧ Same w w1__) ?_ ?_
   ·rintro _ w406_ ⟨b190_, h, rfl, H407_, S408_⟩
    refine A_ready (i := 1) (rs := [4, 7]) (by kernel_rfl) ?_
    refine AllR.cons ?_ ?_
    ·skip
     refine A_op (ls' := #[true, true, true, true, false, false, true, false, true, true, true, false, false, false, false, false]) rfl (by kernel_rfl) (T_val (v := lv) (x_load1 rfl Try.underlying30 rfl ((Holds.rd H407_ 4 rfl) 3 lv rfl)) ?_)
     refine ⟨⟨Holds.rd H407_ 1 rfl, Holds.rd H407_ 5 rfl, (Holds.ro_at H407_ 6 rfl)⟩, ?_⟩
     exact hJ214 _ _ ⟨b190_, _, congrArg (fun e => mkA 38 e []) (ch (ch (ch (ch (ch (ch (ch (ch (ch (ch rfl rfl) rfl) rfl) rfl) rfl) rfl) rfl) rfl) rfl) rfl), H407_, S408_⟩
    refine AllR.cons ?_ ?_
    ·skip
     refine A_op (ls' := #[true, false, true, true, true, false, true, false, true, true, true, false, false, false, false, false]) rfl (by kernel_rfl) (T_new (obj := .cells #[(Value.string x28_.in__In_Begin), (Value.string x28_.in__In_End), (vB x28_.in__In_Point), (vI .i64 x28_.in__From), (vI .i64 x28_.in__Till)] 44) (f := fun b__ => .slice (some ⟨b__, 0, none⟩) 1 1) (A := fun b__ => cl b__ 44 [(Value.string x28_.in__In_Begin), (Value.string x28_.in__In_End), (vB x28_.in__In_Point), (vI .i64 x28_.in__From), (vI .i64 x28_.in__Till)]) (by kernel_rfl) (fun l h => h.alloc _ _) H407_ ?_)
     intro b409_ w410_ S412_ H411_
     have S413_ := Same.trans S408_ S412_
     refine ⟨⟨Holds.rd H411_ 2 rfl, Holds.rd H411_ 6 rfl, (Holds.ro_at H411_ 7 rfl)⟩, ?_⟩
     have H414_ := Holds.pkF H411_ [1, 0, 0, 0, 0, 0, 0, 0] 0
     exact hJ218 _ _ ⟨b409_, b190_, _, congrArg (fun e => mkA 38 e []) (ch (ch (ch (ch (ch (ch (ch (ch (ch (ch rfl rfl) rfl) rfl) rfl) rfl) rfl) rfl) rfl) rfl) rfl), H414_, S413_⟩
    refine AllR.cons ?_ AllR.nil
    refine A_op (ls' := #[true, false, true, true, false, false, true, true, true, true, true, false, false, false, false, false]) rfl (by kernel_rfl) (T_val (v := vv) (x_load1 rfl Try.underlying35 rfl ((Holds.rd H407_ 4 rfl) 4 vv rfl)) ?_)
    refine ⟨⟨Holds.rd H407_ 1 rfl, Holds.rd H407_ 5 rfl, (Holds.ro_at H407_ 6 rfl)⟩, ?_⟩
    exact hJ220 _ _ ⟨b190_, _, congrArg (fun e => mkA 38 e []) (ch (ch (ch (ch (ch (ch (ch (ch (ch (ch rfl rfl) rfl) rfl) rfl) rfl) rfl) rfl) rfl) rfl) rfl), H407_, S408_⟩
   intro hJ221
   have hq415_ := And.intro (Holds.rd H70_ 0 rfl) (And.intro (Holds.rd H70_ 4 rfl) ((Holds.ro_at H70_ 5 rfl)))
   refine A_tk 0 (v := (vP (some ⟨b8_, 3, none⟩))) rfl (by kernel_rfl) (fun w hS => by kernel_rfl) hq415_ ?_
   refine A_tk 2 (v := (vQ b31_)) rfl (by kernel_rfl) (fun w hS => by kernel_rfl) hq415_ ?_
   refine A_tk 3 (v := (vA #[(Value.string x28_.in__In_Begin), (Value.string x28_.in__In_End), (vB x28_.in__In_Point), (vI .i64 x28_.in__From), (vI .i64 x28_.in__Till)])) rfl (by kernel_rfl) (fun w hS => x_loadN (vs := [(Value.string x28_.in__In_Begin), (Value.string x28_.in__In_End), (vB x28_.in__In_Point), (vI .i64 x28_.in__From), (vI .i64 x28_.in__Till)]) rfl Try.underlying44 rfl z44 rfl (Rd.cells hS.1 0 rfl)) hq415_ ?_
   refine A_tk 6 (v := (vP (some ⟨b8_, 4, none⟩))) rfl (by kernel_rfl) (fun w hS => by kernel_rfl) hq415_ ?_
   refine A_tk 8 (v := (vP (some ⟨b31_, 5, none⟩))) rfl (by kernel_rfl) (fun w hS => by kernel_rfl) hq415_ ?_
   refine A_tk 9 (v := (vI .i64 x28_.val)) rfl (by kernel_rfl) (fun w hS => x_load1 rfl Try.underlying3 rfl (hS.1 5 (vI .i64 x28_.val) rfl)) hq415_ ?_
   refine A_ready (i := 1) (rs := [4, 7, 10]) (by kernel_rfl) ?_
   refine AllR.cons ?_ ?_
   ·skip
    refine A_op (ls' := #[true, true, true, true, false, false, true, false, true, true, false, false, false, false, false, false]) rfl (by kernel_rfl) (T_val (v := lv) (x_load1 rfl Try.underlying30 rfl ((Holds.rd H70_ 3 rfl) 3 lv rfl)) ?_)
    refine ⟨⟨Holds.rd H70_ 0 rfl, Holds.rd H70_ 4 rfl, (Holds.ro_at H70_ 5 rfl)⟩, ?_⟩
    exact hJ201 _ _ ⟨_, congrArg (fun e => mkA 38 e []) (ch (ch (ch (ch (ch (ch (ch (ch (ch (ch rfl rfl) rfl) rfl) rfl) rfl) rfl) rfl) rfl) rfl) rfl), H70_, (Same.trans S42_ (Same.drew _))⟩
   refine AllR.cons ?_ ?_
   ·skip
    refine A_op (ls' := #[true, false, true, true, true, false, true, false, true, true, false, false, false, false, false, false]) rfl (by kernel_rfl) (T_new (obj := .cells #[(Value.string x28_.in__In_Begin), (Value.string x28_.in__In_End), (vB x28_.in__In_Point), (vI .i64 x28_.in__From), (vI .i64 x28_.in__Till)] 44) (f := fun b__ => .slice (some ⟨b__, 0, none⟩) 1 1) (A := fun b__ => cl b__ 44 [(Value.string x28_.in__In_Begin), (Value.string x28_.in__In_End), (vB x28_.in__In_Point), (vI .i64 x28_.in__From), (vI .i64 x28_.in__Till)]) (by kernel_rfl) (fun l h => h.alloc _ _) H70_ ?_)
    intro b416_ w417_ S419_ H418_
    have S420_ := Same.trans (Same.trans S42_ (Same.drew _)) S419_
    refine ⟨⟨Holds.rd H418_ 1 rfl, Holds.rd H418_ 5 rfl, (Holds.ro_at H418_ 6 rfl)⟩, ?_⟩
    exact hJ215 _ _ ⟨b416_, _, congrArg (fun e => mkA 38 e []) (ch (ch (ch (ch (ch (ch (ch (ch (ch (ch rfl rfl) rfl) rfl) rfl) rfl) rfl) rfl) rfl) rfl) rfl), H418_, S420_⟩
   refine AllR.cons ?_ ?_
   ·skip
    refine A_op (ls' := #[true, false, true, true, false, false, true, true, true, true, false, false, false, false, false, false]) rfl (by kernel_rfl) (T_val (v := vv) (x_load1 rfl Try.underlying35 rfl ((Holds.rd H70_ 3 rfl) 4 vv rfl)) ?_)
    refine ⟨⟨Holds.rd H70_ 0 rfl, Holds.rd H70_ 4 rfl, (Holds.ro_at H70_ 5 rfl)⟩, ?_⟩
    exact hJ219 _ _ ⟨_, congrArg (fun e => mkA 38 e []) (ch (ch (ch (ch (ch (ch (ch (ch (ch (ch rfl rfl) rfl) rfl) rfl) rfl) rfl) rfl) rfl) rfl) rfl), H70_, (Same.trans S42_ (Same.drew _))⟩
   refine AllR.cons ?_ AllR.nil
   refine A_op (ls' := #[true, false, true, true, false, false, true, false, true, true, true, false, false, false, false, false]) rfl (by kernel_rfl) (T_new (obj := .cells #[(vI .i64 x28_.val)] 3) (f := fun b__ => .slice (some ⟨b__, 0, none⟩) 1 1) (A := fun b__ => cl b__ 3 [(vI .i64 x28_.val)]) (by kernel_rfl) (fun l h => h.alloc _ _) H70_ ?_)
   intro b421_ w422_ S424_ H423_
   have S425_ := Same.trans (Same.trans S42_ (Same.drew _)) S424_
   refine ⟨⟨Holds.rd H423_ 1 rfl, Holds.rd H423_ 5 rfl, (Holds.ro_at H423_ 6 rfl)⟩, ?_⟩
   exact hJ221 _ _ ⟨b421_, _, congrArg (fun e => mkA 38 e []) (ch (ch (ch (ch (ch (ch (ch (ch (ch (ch rfl rfl) rfl) rfl) rfl) rfl) rfl) rfl) rfl) rfl) rfl), H423_, S425_⟩
 ·have c25_fp : ¬ ((k : Int) < ((List.length P) : Int)) := of_decide_eq_false c25_f
  refine C_exit (X_thenX (X_thenX (X_blkHit ?_)))
  refine (X_then (hK13_ _ _ ?_))
  refine C_seq (fun _ hK426_ => C_reg ?_)
  refine sv (v := (vA #[(vB false), (vI .i64 0), (vI .i64 0), lv, vv])) (x_loadN (vs := [(vB false), (vI .i64 0), (vI .i64 0), lv, vv]) rfl Try.underlying59 rfl z59 rfl (Rd.cells (Holds.rd H21_ 2 rfl) 0 rfl)) ?_
  refine S_list0 (T_storeN (vs := [(vB false), (vI .i64 0), (vI .i64 0), lv, vv]) rfl rfl z59 rfl (List.forall_mem_cons.2 ⟨rfl, (List.forall_mem_cons.2 ⟨rfl, (List.forall_mem_cons.2 ⟨rfl, (List.forall_mem_cons.2 ⟨(Holds.sl_one H21_ 1 rfl), (List.forall_mem_cons.2 ⟨(Holds.sl_one H21_ 0 rfl), (fun _ h__ => by cases h__)⟩)⟩)⟩)⟩)⟩) H21_ 3 rfl (Nat.le_of_ble_eq_true (by rfl)) ?_)
  intro w427_ S429_ H428_
  have S430_ := Same.trans S22_ S429_
  refine wn (hK426_ _ _ ?_)
  refine C_ret ?_
  refine R_any (v := (vA #[(vB false), (vI .i64 0), (vI .i64 0), lv, vv])) (run_results1 rfl ⟨_, rfl, load_resN Try.underlying59 rfl z59 rfl (vs := [(vB false), (vI .i64 0), (vI .i64 0), lv, vv]) (Holds.cl_cells H428_ 3 rfl 0 rfl)⟩) ?_
  have hvl_ : List.take k P = visL most P := visL_of hkk hmo (by omega)
  have H431_ := Holds.resl H428_ 1 rfl (by rw [hvl_] : (List.map PN.sn (List.take k P)).flatMap SN.cells = (List.map PN.sn (visL most P)).flatMap SN.cells) (by rw [hvl_] : (List.length (List.map PN.sn (List.take k P))) = (List.length (List.map PN.sn (visL most P))))
  have H432_ := Holds.resl H431_ 0 rfl (by rw [hvl_] : (List.map PN.val (List.take k P)).map (vI .i64) = (List.map PN.val (visL most P)).map (vI .i64)) (by rw [hvl_] : (List.length (List.map PN.val (List.take k P))) = (List.length (List.map PN.val (visL most P))))
  have H433_ := ((Holds.bring (Holds.bring H432_ 1 rfl) 4 rfl) :)
  obtain ⟨R434_, hs435_, ⟨R436_, ha437_, hs438_⟩, H439_⟩ := Holds.gift H433_
  have hr440_ : RS R434_ 5 lv (List.length (List.map PN.sn (visL most P))) ((List.map PN.sn (visL most P)).flatMap SN.cells) := (sl_RS ha437_ (Sub.rfl' _)).mono hs438_
  obtain ⟨R441_, hs442_, ⟨R443_, ha444_, hs445_⟩, H446_⟩ := Holds.gift H439_
  have hz_R_R441_ := Sub.trans' hs435_ hs442_
  have hr447_ : RS R441_ 1 vv (List.length (List.map PN.val (visL most P))) ((List.map PN.val (visL most P)).map (vI .i64)) := (sl_RS ha444_ (Sub.rfl' _)).mono hs445_
  have H448_ := Holds.pkF H446_ [0] 2
  exact ⟨R441_, _, _, rfl, hz_R_R441_, ⟨(⟨false, 0, 0, lv, vv⟩ : TA), (congrArg (fun l => vA (List.toArray l)) (lcons (congrArg vB ((by first | rfl | omega | (simp; done) | (simp; omega)) : false = ((⟨false, 0, 0, lv, vv⟩ : TA).oK))) (lcons (congrArg (vI .i64) ((by first | rfl | omega | (simp; done) | (simp; omega)) : 0 = (⟨false, 0, 0, lv, vv⟩ : TA).n)) (lcons (congrArg (vI .i64) ((by first | rfl | omega | (simp; done) | (simp; omega)) : 0 = (⟨false, 0, 0, lv, vv⟩ : TA).most)) (lcons ((by first | rfl | omega | (simp; done) | (simp; omega)) : lv = ((⟨false, 0, 0, lv, vv⟩ : TA).list)) (lcons ((by first | rfl | omega | (simp; done) | (simp; omega)) : vv = ((⟨false, 0, 0, lv, vv⟩ : TA).vals)) rfl)))))), rfl, (⟨rfl, rfl, (RS.mono hr440_ hs442_), hr447_⟩)⟩, S430_, H448_⟩
end Go.Proofs.Ytlnihndjepjagaa
set_option linter.unusedVariables false
set_option linter.unusedSimpArgs false
namespace Go.Proofs.Ytlnihndjepjagaa
open Go Go.RowKit Gw
open Go.Value renaming int → vI, bool → vB, slice → vS, pointer → vP, agg → vA, tuple → vT

theorem meetK_ie {ord : Int} {x : PN} {s : SN} : meetK ord (s.lo ord) (s.hi ord) (x.ie ord) = sMeet ord x.sn s := by
  unfold meetK sMeet PN.ie
  rfl
theorem vis_ie {ord : Int} {P : List PN} {s : SN} (n : Int) : visS n ((P.map (PN.ie ord)).filter (meetK ord (s.lo ord) (s.hi ord))) = (visL n (P.filter (fun x => sMeet ord x.sn s))).map (PN.ie ord) := by
  have e : (P.map (PN.ie ord)).filter (meetK ord (s.lo ord) (s.hi ord)) = (P.filter (fun x => sMeet ord x.sn s)).map (PN.ie ord) := by
    rw [List.filter_map]
    congr 1
    congr 1
    funext x
    exact meetK_ie
  rw [e]
  unfold visS visL
  split
  · rfl
  · rw [List.map_take]
theorem visL_mem {n : Int} {l : List PN} {x : PN} (h : x ∈ visL n l) : x ∈ l := by
  unfold visL at h
  split at h
  · exact h
  · exact List.mem_of_mem_take h
theorem visL_le (n : Int) (l : List PN) : (visL n l).length ≤ l.length := by
  unfold visL
  split
  · exact Nat.le_refl _
  · rw [List.length_take]; omega
theorem list_agree {ord : Int} {L : List PN} (hz : ∀ x ∈ L, x.sn.in__Begin.size ≤ 2147483647) (hl : L.length ≤ 1000000) :
    Agree ord ⟨false, 0, (L.map (PN.ie ord)).map spanOf, (L.map (PN.ie ord)).map IE.val⟩ ⟨false, 0, L.map PN.sn, L.map PN.val⟩ := by
  refine ⟨rfl, rfl, by simp, ?_, ?_, ?_, ⟨?_, ?_⟩, ⟨by simpa using hl, by simpa using hl⟩⟩
  · show (L.map (PN.ie ord)).map IE.val = L.map PN.val
    rw [List.map_map]; rfl
  · intro s hs
    obtain ⟨e, _, rfl⟩ := List.mem_map.1 hs
    rfl
  · intro i s t h1 h2
    have h1' : ((L.map (PN.ie ord)).map spanOf)[i]? = some s := h1
    have h2' : (L.map PN.sn)[i]? = some t := h2
    rw [List.getElem?_map, List.getElem?_map] at h1'
    rw [List.getElem?_map] at h2'
    cases hx : L[i]? with
    | none => rw [hx] at h2'; cases h2'
    | some x =>
      rw [hx] at h1' h2'
      have e1 : spanOf (x.ie ord) = s := Option.some.inj h1'
      have e2 : x.sn = t := Option.some.inj h2'
      rw [← e1, ← e2]
      exact span_same x.sn
  · intro s hs
    obtain ⟨e, he, rfl⟩ := List.mem_map.1 hs
    obtain ⟨x, hx, rfl⟩ := List.mem_map.1 he
    exact span_size (hz x hx)
  · intro s hs
    obtain ⟨x, hx, rfl⟩ := List.mem_map.1 hs
    exact hz x hx
theorem vis_agree {ord : Int} {P : List PN} {s : SN} (n : Int) (hz : PSz P) (hl : P.length ≤ 200) :
    Agree ord ⟨false, 0, (visS n ((P.map (PN.ie ord)).filter (meetK ord (s.lo ord) (s.hi ord)))).map spanOf, (visS n ((P.map (PN.ie ord)).filter (meetK ord (s.lo ord) (s.hi ord)))).map IE.val⟩
      ⟨false, 0, (visL n (P.filter (fun x => sMeet ord x.sn s))).map PN.sn, (visL n (P.filter (fun x => sMeet ord x.sn s))).map PN.val⟩ := by
  rw [vis_ie]
  refine list_agree (fun x hx => hz x (List.mem_filter.1 (visL_mem hx)).1) ?_
  have h1 := visL_le n (P.filter (fun x => sMeet ord x.sn s))
  have h2 := List.length_filter_le (fun x : PN => sMeet ord x.sn s) P
  omega


set_option maxHeartbeats 8000000 in
theorem spDo5 (R : HP) (ord : Int) (pb : Nat) (pv : Value) (P : List PN) (o : TO) (hP : RS R 6 pv (List.length P) (P.flatMap PN.cells)) (hz : PSz P) (hs : o.sn.in__Begin.size ≤ 2147483647) (hn : P.length ≤ 100000) (hk : o.kind = 5) :
    TriG Try.prog 59 #[(vQ pb), (vA #[(vI .i64 o.kind), (Value.string o.in__In_Begin), (Value.string o.in__In_End), (vB o.in__In_Point), (vI .i64 o.in__From), (vI .i64 o.in__Till), (vI .i64 o.val), (vI .i64 o.n), o.other, o.vals])] R [cl pb 75 [(vI .i64 ord), pv]] (fun R' v__ post__ => ∃ (a : TA), v__ = (vA #[(vB a.oK), (vI .i64 a.n), (vI .i64 a.most), a.list, a.vals]) ∧ post__ = [cl pb 75 [(vI .i64 ord), pv]] ∧ (AnsAt R' a (⟨false, 0, List.map PN.sn (visL o.n (List.filter (fun x => sMeet ord x.sn o.sn) P)), List.map PN.val (visL o.n (List.filter (fun x => sMeet ord x.sn o.sn) P))⟩ : TAx))) := by
 refine TriG.into (n := 155) (al := [(vQ pb), (vA #[(vI .i64 o.kind), (Value.string o.in__In_Begin), (Value.string o.in__In_End), (vB o.in__In_Point), (vI .i64 o.in__From), (vI .i64 o.in__Till), (vI .i64 o.val), (vI .i64 o.n), o.other, o.vals])]) Try.func59 rfl Try.ntmps59 rfl rfl fun w F H => ?_
 refine C_seq (fun _ hK1_ => C_reg ?_)
 refine S_list (T_box (v := (vA #[(vI .i64 o.kind), (Value.string o.in__In_Begin), (Value.string o.in__In_End), (vB o.in__In_Point), (vI .i64 o.in__From), (vI .i64 o.in__Till), (vI .i64 o.val), (vI .i64 o.n), o.other, o.vals])) rfl H ?_)
 intro b2_ w3_ S5_ H4_
 have S6_ := Same.trans (Same.refl w) S5_
 refine S_list (T_alloc z59 H4_ ?_)
 intro b7_ w8_ S10_ H9_
 have S11_ := Same.trans S6_ S10_
 refine wn (hK1_ _ _ ?_)
 refine C_seq (fun _ hK12_ => C_reg ?_)
 refine sm (vQ pb) ?_
 refine sv (v := (vP (some ⟨b2_, 1, none⟩))) (by kernel_rfl) ?_
 refine sv (v := (vA #[(Value.string o.in__In_Begin), (Value.string o.in__In_End), (vB o.in__In_Point), (vI .i64 o.in__From), (vI .i64 o.in__Till)])) (x_loadN (vs := [(Value.string o.in__In_Begin), (Value.string o.in__In_End), (vB o.in__In_Point), (vI .i64 o.in__From), (vI .i64 o.in__Till)]) rfl Try.underlying44 rfl z44 rfl (Rd.cells (Holds.rd H9_ 1 rfl) 1 rfl)) ?_
 have H20_ := ((Holds.bring (Holds.bring H9_ 3 rfl) 3 rfl) :)
 refine S_list (T_call (al := [(vQ pb), (vA #[(Value.string o.sn.in__Begin), (Value.string o.sn.in__End), (vB o.sn.in__Point), (vI .i64 o.sn.from_), (vI .i64 o.sn.till)])]) (pre := [cl pb 75 [(vI .i64 ord), pv]]) rfl (lcons rfl (lcons (congrArg (fun l => vA (List.toArray l)) (lcons (congrArg Value.string ((by first | rfl | omega | (simp; done) | (simp; omega)) : o.in__In_Begin = o.sn.in__Begin)) (lcons (congrArg Value.string ((by first | rfl | omega | (simp; done) | (simp; omega)) : o.in__In_End = o.sn.in__End)) (lcons (congrArg vB ((by first | rfl | omega | (simp; done) | (simp; omega)) : o.in__In_Point = o.sn.in__Point)) (lcons (congrArg (vI .i64) ((by first | rfl | omega | (simp; done) | (simp; omega)) : o.in__From = o.sn.from_)) (lcons (congrArg (vI .i64) ((by first | rfl | omega | (simp; done) | (simp; omega)) : o.in__Till = o.sn.till)) rfl)))))) rfl)) cb81 (spFind R ord pb pv P o.sn (hP) (hz) (hs) (hn)) H20_ ?_)
 rintro v13_ p24_ w21_ hq25_ S23_ H22_
 rcases hq25_ with ⟨rfl, rfl, he14_⟩ | ⟨k15_, x16_, rfl, rfl, he17_, he18_, he19_⟩
 ·skip
  have S26_ := Same.trans S11_ S23_
  refine sv (v := (vI .i64 (-1))) (x_assign rfl) ?_
  refine wn (hK12_ _ _ ?_)
  refine C_seq (fun _ hK28_ => ?_)
  refine C_seq (fun _ hK29_ => C_reg ?_)
  refine sv (v := (vQ b2_)) (by kernel_rfl) ?_
  refine sv (v := (vI .i64 o.kind)) (x_load1 rfl Try.underlying3 rfl ((Holds.rd H22_ 3 rfl) 0 (vI .i64 o.kind) rfl)) ?_
  refine wn (hK29_ _ _ ?_)
  refine C_block ?_
  refine C_seq (fun _ hK30_ => C_reg ?_)
  refine sv (v := (vB (decide (o.kind = 1)))) (x_bin rfl rfl rfl) ?_
  refine sv (v := (vB (decide (o.kind = 1)))) (x_assign rfl) ?_
  refine wn (hK30_ _ _ ?_)
  refine C_cond (b := decide (o.kind = 1)) rfl (fun c31_t => ?_) (fun c31_f => ?_)
  ·have c31_tp : o.kind = 1 := of_decide_eq_true c31_t
   omega
  ·have c31_fp : ¬ (o.kind = 1) := of_decide_eq_false c31_f
   refine C_seq (fun _ hK32_ => C_reg ?_)
   refine sv (v := (vB (decide (o.kind = 2)))) (x_bin rfl rfl rfl) ?_
   refine sv (v := (vB (decide (o.kind = 2)))) (x_assign rfl) ?_
   refine wn (hK32_ _ _ ?_)
   refine C_cond (b := decide (o.kind = 2)) rfl (fun c33_t => ?_) (fun c33_f => ?_)
   ·have c33_tp : o.kind = 2 := of_decide_eq_true c33_t
    omega
   ·have c33_fp : ¬ (o.kind = 2) := of_decide_eq_false c33_f
    refine C_seq (fun _ hK34_ => C_reg ?_)
    refine sv (v := (vB (decide (o.kind = 3)))) (x_bin rfl rfl rfl) ?_
    refine sv (v := (vB (decide (o.kind = 3)))) (x_assign rfl) ?_
    refine wn (hK34_ _ _ ?_)
    refine C_cond (b := decide (o.kind = 3)) rfl (fun c35_t => ?_) (fun c35_f => ?_)
    ·have c35_tp : o.kind = 3 := of_decide_eq_true c35_t
     omega
    ·have c35_fp : ¬ (o.kind = 3) := of_decide_eq_false c35_f
     refine C_seq (fun _ hK36_ => C_reg ?_)
     refine sv (v := (vB (decide (o.kind = 4)))) (x_bin rfl rfl rfl) ?_
     refine sv (v := (vB (decide (o.kind = 4)))) (x_assign rfl) ?_
     refine wn (hK36_ _ _ ?_)
     refine C_cond (b := decide (o.kind = 4)) rfl (fun c37_t => ?_) (fun c37_f => ?_)
     ·have c37_tp : o.kind = 4 := of_decide_eq_true c37_t
      omega
     ·have c37_fp : ¬ (o.kind = 4) := of_decide_eq_false c37_f
      refine C_seq (fun _ hK38_ => C_reg ?_)
      refine sv (v := (vB (decide (o.kind = 5)))) (x_bin rfl rfl rfl) ?_
      refine sv (v := (vB (decide (o.kind = 5)))) (x_assign rfl) ?_
      refine wn (hK38_ _ _ ?_)
      refine C_cond (b := decide (o.kind = 5)) rfl (fun c39_t => ?_) (fun c39_f => ?_)
      ·have c39_tp : o.kind = 5 := of_decide_eq_true c39_t
       refine C_seq (fun _ hK40_ => ?_)
       refine A_start (S := fun w => Rd pb [(vI .i64 ord), pv] w ∧ Rd b2_ [(vI .i64 o.kind), (Value.string o.in__In_Begin), (Value.string o.in__In_End), (vB o.in__In_Point), (vI .i64 o.in__From), (vI .i64 o.in__Till), (vI .i64 o.val), (vI .i64 o.n), o.other, o.vals] w ∧ Sub R (hp w)) (N := 8) foll rfl rfl ?_
       have H41_ := Holds.drew_ H22_
       have hq42_ := And.intro (Holds.rd H41_ 1 rfl) (And.intro (Holds.rd H41_ 3 rfl) ((Holds.ro_at H41_ 0 rfl)))
       refine A_tk 0 (v := (vQ pb)) rfl (by kernel_rfl) (fun w hS => x_move rfl) hq42_ ?_
       refine A_tk 1 (v := (vP (some ⟨b2_, 1, none⟩))) rfl (by kernel_rfl) (fun w hS => by kernel_rfl) hq42_ ?_
       refine A_tk 2 (v := (vA #[(Value.string o.in__In_Begin), (Value.string o.in__In_End), (vB o.in__In_Point), (vI .i64 o.in__From), (vI .i64 o.in__Till)])) rfl (by kernel_rfl) (fun w hS => x_loadN (vs := [(Value.string o.in__In_Begin), (Value.string o.in__In_End), (vB o.in__In_Point), (vI .i64 o.in__From), (vI .i64 o.in__Till)]) rfl Try.underlying44 rfl z44 rfl (Rd.cells hS.2.1 1 rfl)) hq42_ ?_
       refine A_tk 4 (v := (vP (some ⟨b2_, 7, none⟩))) rfl (by kernel_rfl) (fun w hS => by kernel_rfl) hq42_ ?_
       refine A_tk 5 (v := (vI .i64 o.n)) rfl (by kernel_rfl) (fun w hS => x_load1 rfl Try.underlying3 rfl (hS.2.1 7 (vI .i64 o.n) rfl)) hq42_ ?_
       refine A_ready (i := 3) (rs := []) (by kernel_rfl) ?_
       refine AllR.cons ?_ AllR.nil
       refine A_op (ls' := #[true, true, true, true, true, true, false, false]) rfl (by kernel_rfl) (T_callG (al := [(vQ pb), (vA #[(Value.string o.sn.in__Begin), (Value.string o.sn.in__End), (vB o.sn.in__Point), (vI .i64 o.sn.from_), (vI .i64 o.sn.till)])]) (pre := [cl pb 75 [(vI .i64 ord), pv]]) rfl (lcons rfl (lcons (congrArg (fun l => vA (List.toArray l)) (lcons (congrArg Value.string ((by first | rfl | omega | (simp; done) | (simp; omega)) : o.in__In_Begin = o.sn.in__Begin)) (lcons (congrArg Value.string ((by first | rfl | omega | (simp; done) | (simp; omega)) : o.in__In_End = o.sn.in__End)) (lcons (congrArg vB ((by first | rfl | omega | (simp; done) | (simp; omega)) : o.in__In_Point = o.sn.in__Point)) (lcons (congrArg (vI .i64) ((by first | rfl | omega | (simp; done) | (simp; omega)) : o.in__From = o.sn.from_)) (lcons (congrArg (vI .i64) ((by first | rfl | omega | (simp; done) | (simp; omega)) : o.in__Till = o.sn.till)) rfl)))))) rfl)) cb36 (spMeeting R ord pb pv P o.sn (hP) (hz) (hs) (hn)) H41_ ?_)
       rintro R44_ v45_ p50_ w47_ hs43_ ⟨_, rfl, rfl, he46_⟩ S49_ H48_
       have S51_ := Same.trans (Same.trans S26_ (Same.drew _)) S49_
       refine ⟨⟨Holds.rd H48_ 1 rfl, Holds.rd H48_ 3 rfl, (Sub.trans' hs43_ (Holds.ro_at H48_ 0 rfl))⟩, ?_⟩
       refine A_ready (i := 6) (rs := []) (by kernel_rfl) ?_
       refine AllR.cons ?_ AllR.nil
       refine A_op (ls' := #[true, true, true, true, true, true, true, false]) rfl (by kernel_rfl) (T_callG (al := [v45_, (vI .i64 o.n)]) (pre := []) rfl rfl cb82 (spListed R44_ v45_ (List.filter (fun x => sMeet ord x.sn o.sn) P) o.n he46_ (Nat.le_trans (List.length_filter_le _ _) hn)) H48_ ?_)
       rintro R53_ v54_ p60_ w57_ hs52_ ⟨a55_, rfl, rfl, he56_⟩ S59_ H58_
       have S61_ := Same.trans S51_ S59_
       have hz_R_R53_ := Sub.trans' hs43_ hs52_
       refine ⟨⟨Holds.rd H58_ 1 rfl, Holds.rd H58_ 3 rfl, (Sub.trans' hz_R_R53_ (Holds.ro_at H58_ 0 rfl))⟩, ?_⟩
       refine A_ready (i := 7) (rs := []) (by kernel_rfl) ?_
       refine AllR.cons ?_ AllR.nil
       refine A_op0 (ls' := #[true, true, true, true, true, true, true, true]) rfl (by kernel_rfl) (T_storeN (vs := [(vB a55_.oK), (vI .i64 a55_.n), (vI .i64 a55_.most), a55_.list, a55_.vals]) rfl rfl z59 rfl (List.forall_mem_cons.2 ⟨rfl, (List.forall_mem_cons.2 ⟨rfl, (List.forall_mem_cons.2 ⟨rfl, (List.forall_mem_cons.2 ⟨(RS.one (he56_.2.2.1)), (List.forall_mem_cons.2 ⟨(RS.one (he56_.2.2.2)), (fun _ h__ => by cases h__)⟩)⟩)⟩)⟩)⟩) H58_ 2 rfl (Nat.le_of_ble_eq_true (by rfl)) ?_)
       intro w62_ S64_ H63_
       have S65_ := Same.trans S61_ S64_
       refine ⟨⟨Holds.rd H63_ 1 rfl, Holds.rd H63_ 3 rfl, (Sub.trans' hz_R_R53_ (Holds.ro_at H63_ 0 rfl))⟩, ?_⟩
       refine A_done (by kernel_rfl) ?_
       refine (X_then (hK40_ _ _ ?_))
       refine C_ret (X_blkR (X_thenR ?_))
       refine R_any (v := (vA #[(vB a55_.oK), (vI .i64 a55_.n), (vI .i64 a55_.most), a55_.list, a55_.vals])) (run_results1 rfl ⟨_, rfl, load_resN Try.underlying59 rfl z59 rfl (vs := [(vB a55_.oK), (vI .i64 a55_.n), (vI .i64 a55_.most), a55_.list, a55_.vals]) (Holds.cl_cells H63_ 2 rfl 0 rfl)⟩) ?_
       have H66_ := Holds.pkF H63_ [0, 0] 2
       exact ⟨R53_, _, _, rfl, hz_R_R53_, ⟨a55_, rfl, rfl, (he56_)⟩, S65_, H66_⟩
      ·have c39_fp : ¬ (o.kind = 5) := of_decide_eq_false c39_f
       omega
 ·skip
  have S27_ := Same.trans S11_ S23_
  refine sv (v := (vI .i64 (k15_ : Int))) (x_assign rfl) ?_
  refine wn (hK12_ _ _ ?_)
  refine C_seq (fun _ hK67_ => ?_)
  refine C_seq (fun _ hK68_ => C_reg ?_)
  refine sv (v := (vQ b2_)) (by kernel_rfl) ?_
  refine sv (v := (vI .i64 o.kind)) (x_load1 rfl Try.underlying3 rfl ((Holds.rd H22_ 3 rfl) 0 (vI .i64 o.kind) rfl)) ?_
  refine wn (hK68_ _ _ ?_)
  refine C_block ?_
  refine C_seq (fun _ hK69_ => C_reg ?_)
  refine sv (v := (vB (decide (o.kind = 1)))) (x_bin rfl rfl rfl) ?_
  refine sv (v := (vB (decide (o.kind = 1)))) (x_assign rfl) ?_
  refine wn (hK69_ _ _ ?_)
  refine C_cond (b := decide (o.kind = 1)) rfl (fun c70_t => ?_) (fun c70_f => ?_)
  ·have c70_tp : o.kind = 1 := of_decide_eq_true c70_t
   omega
  ·have c70_fp : ¬ (o.kind = 1) := of_decide_eq_false c70_f
   refine C_seq (fun _ hK71_ => C_reg ?_)
   refine sv (v := (vB (decide (o.kind = 2)))) (x_bin rfl rfl rfl) ?_
   refine sv (v := (vB (decide (o.kind = 2)))) (x_assign rfl) ?_
   refine wn (hK71_ _ _ ?_)
   refine C_cond (b := decide (o.kind = 2)) rfl (fun c72_t => ?_) (fun c72_f => ?_)
   ·have c72_tp : o.kind = 2 := of_decide_eq_true c72_t
    omega
   ·have c72_fp : ¬ (o.kind = 2) := of_decide_eq_false c72_f
    refine C_seq (fun _ hK73_ => C_reg ?_)
    refine sv (v := (vB (decide (o.kind = 3)))) (x_bin rfl rfl rfl) ?_
    refine sv (v := (vB (decide (o.kind = 3)))) (x_assign rfl) ?_
    refine wn (hK73_ _ _ ?_)
    refine C_cond (b := decide (o.kind = 3)) rfl (fun c74_t => ?_) (fun c74_f => ?_)
    ·have c74_tp : o.kind = 3 := of_decide_eq_true c74_t
     omega
    ·have c74_fp : ¬ (o.kind = 3) := of_decide_eq_false c74_f
     refine C_seq (fun _ hK75_ => C_reg ?_)
     refine sv (v := (vB (decide (o.kind = 4)))) (x_bin rfl rfl rfl) ?_
     refine sv (v := (vB (decide (o.kind = 4)))) (x_assign rfl) ?_
     refine wn (hK75_ _ _ ?_)
     refine C_cond (b := decide (o.kind = 4)) rfl (fun c76_t => ?_) (fun c76_f => ?_)
     ·have c76_tp : o.kind = 4 := of_decide_eq_true c76_t
      omega
     ·have c76_fp : ¬ (o.kind = 4) := of_decide_eq_false c76_f
      refine C_seq (fun _ hK77_ => C_reg ?_)
      refine sv (v := (vB (decide (o.kind = 5)))) (x_bin rfl rfl rfl) ?_
      refine sv (v := (vB (decide (o.kind = 5)))) (x_assign rfl) ?_
      refine wn (hK77_ _ _ ?_)
      refine C_cond (b := decide (o.kind = 5)) rfl (fun c78_t => ?_) (fun c78_f => ?_)
      ·have c78_tp : o.kind = 5 := of_decide_eq_true c78_t
       refine C_seq (fun _ hK79_ => ?_)
       refine A_start (S := fun w => Rd pb [(vI .i64 ord), pv] w ∧ Rd b2_ [(vI .i64 o.kind), (Value.string o.in__In_Begin), (Value.string o.in__In_End), (vB o.in__In_Point), (vI .i64 o.in__From), (vI .i64 o.in__Till), (vI .i64 o.val), (vI .i64 o.n), o.other, o.vals] w ∧ Sub R (hp w)) (N := 8) foll rfl rfl ?_
       have H80_ := Holds.drew_ H22_
       have hq81_ := And.intro (Holds.rd H80_ 1 rfl) (And.intro (Holds.rd H80_ 3 rfl) ((Holds.ro_at H80_ 0 rfl)))
       refine A_tk 0 (v := (vQ pb)) rfl (by kernel_rfl) (fun w hS => x_move rfl) hq81_ ?_
       refine A_tk 1 (v := (vP (some ⟨b2_, 1, none⟩))) rfl (by kernel_rfl) (fun w hS => by kernel_rfl) hq81_ ?_
       refine A_tk 2 (v := (vA #[(Value.string o.in__In_Begin), (Value.string o.in__In_End), (vB o.in__In_Point), (vI .i64 o.in__From), (vI .i64 o.in__Till)])) rfl (by kernel_rfl) (fun w hS => x_loadN (vs := [(Value.string o.in__In_Begin), (Value.string o.in__In_End), (vB o.in__In_Point), (vI .i64 o.in__From), (vI .i64 o.in__Till)]) rfl Try.underlying44 rfl z44 rfl (Rd.cells hS.2.1 1 rfl)) hq81_ ?_
       refine A_tk 4 (v := (vP (some ⟨b2_, 7, none⟩))) rfl (by kernel_rfl) (fun w hS => by kernel_rfl) hq81_ ?_
       refine A_tk 5 (v := (vI .i64 o.n)) rfl (by kernel_rfl) (fun w hS => x_load1 rfl Try.underlying3 rfl (hS.2.1 7 (vI .i64 o.n) rfl)) hq81_ ?_
       refine A_ready (i := 3) (rs := []) (by kernel_rfl) ?_
       refine AllR.cons ?_ AllR.nil
       refine A_op (ls' := #[true, true, true, true, true, true, false, false]) rfl (by kernel_rfl) (T_callG (al := [(vQ pb), (vA #[(Value.string o.sn.in__Begin), (Value.string o.sn.in__End), (vB o.sn.in__Point), (vI .i64 o.sn.from_), (vI .i64 o.sn.till)])]) (pre := [cl pb 75 [(vI .i64 ord), pv]]) rfl (lcons rfl (lcons (congrArg (fun l => vA (List.toArray l)) (lcons (congrArg Value.string ((by first | rfl | omega | (simp; done) | (simp; omega)) : o.in__In_Begin = o.sn.in__Begin)) (lcons (congrArg Value.string ((by first | rfl | omega | (simp; done) | (simp; omega)) : o.in__In_End = o.sn.in__End)) (lcons (congrArg vB ((by first | rfl | omega | (simp; done) | (simp; omega)) : o.in__In_Point = o.sn.in__Point)) (lcons (congrArg (vI .i64) ((by first | rfl | omega | (simp; done) | (simp; omega)) : o.in__From = o.sn.from_)) (lcons (congrArg (vI .i64) ((by first | rfl | omega | (simp; done) | (simp; omega)) : o.in__Till = o.sn.till)) rfl)))))) rfl)) cb36 (spMeeting R ord pb pv P o.sn (hP) (hz) (hs) (hn)) H80_ ?_)
       rintro R83_ v84_ p89_ w86_ hs82_ ⟨_, rfl, rfl, he85_⟩ S88_ H87_
       have S90_ := Same.trans (Same.trans S27_ (Same.drew _)) S88_
       refine ⟨⟨Holds.rd H87_ 1 rfl, Holds.rd H87_ 3 rfl, (Sub.trans' hs82_ (Holds.ro_at H87_ 0 rfl))⟩, ?_⟩
       refine A_ready (i := 6) (rs := []) (by kernel_rfl) ?_
       refine AllR.cons ?_ AllR.nil
       refine A_op (ls' := #[true, true, true, true, true, true, true, false]) rfl (by kernel_rfl) (T_callG (al := [v84_, (vI .i64 o.n)]) (pre := []) rfl rfl cb82 (spListed R83_ v84_ (List.filter (fun x => sMeet ord x.sn o.sn) P) o.n he85_ (Nat.le_trans (List.length_filter_le _ _) hn)) H87_ ?_)
       rintro R92_ v93_ p99_ w96_ hs91_ ⟨a94_, rfl, rfl, he95_⟩ S98_ H97_
       have S100_ := Same.trans S90_ S98_
       have hz_R_R92_ := Sub.trans' hs82_ hs91_
       refine ⟨⟨Holds.rd H97_ 1 rfl, Holds.rd H97_ 3 rfl, (Sub.trans' hz_R_R92_ (Holds.ro_at H97_ 0 rfl))⟩, ?_⟩
       refine A_ready (i := 7) (rs := []) (by kernel_rfl) ?_
       refine AllR.cons ?_ AllR.nil
       refine A_op0 (ls' := #[true, true, true, true, true, true, true, true]) rfl (by kernel_rfl) (T_storeN (vs := [(vB a94_.oK), (vI .i64 a94_.n), (vI .i64 a94_.most), a94_.list, a94_.vals]) rfl rfl z59 rfl (List.forall_mem_cons.2 ⟨rfl, (List.forall_mem_cons.2 ⟨rfl, (List.forall_mem_cons.2 ⟨rfl, (List.forall_mem_cons.2 ⟨(RS.one (he95_.2.2.1)), (List.forall_mem_cons.2 ⟨(RS.one (he95_.2.2.2)), (fun _ h__ => by cases h__)⟩)⟩)⟩)⟩)⟩) H97_ 2 rfl (Nat.le_of_ble_eq_true (by rfl)) ?_)
       intro w101_ S103_ H102_
       have S104_ := Same.trans S100_ S103_
       refine ⟨⟨Holds.rd H102_ 1 rfl, Holds.rd H102_ 3 rfl, (Sub.trans' hz_R_R92_ (Holds.ro_at H102_ 0 rfl))⟩, ?_⟩
       refine A_done (by kernel_rfl) ?_
       refine (X_then (hK79_ _ _ ?_))
       refine C_ret (X_blkR (X_thenR ?_))
       refine R_any (v := (vA #[(vB a94_.oK), (vI .i64 a94_.n), (vI .i64 a94_.most), a94_.list, a94_.vals])) (run_results1 rfl ⟨_, rfl, load_resN Try.underlying59 rfl z59 rfl (vs := [(vB a94_.oK), (vI .i64 a94_.n), (vI .i64 a94_.most), a94_.list, a94_.vals]) (Holds.cl_cells H102_ 2 rfl 0 rfl)⟩) ?_
       have H105_ := Holds.pkF H102_ [0, 0] 2
       exact ⟨R92_, _, _, rfl, hz_R_R92_, ⟨a94_, rfl, rfl, (he95_)⟩, S104_, H105_⟩
      ·have c78_fp : ¬ (o.kind = 5) := of_decide_eq_false c78_f
       omega

set_option maxHeartbeats 16000000 in
theorem lwAsk5 (R : HP) (ord : Int) (v : Value) (l : List SN) (o : TO) (hv : RS R 5 v (List.length l) (l.flatMap SN.cells)) (hz : ∀ s ∈ l, SSz s) (hn : l.length ≤ 2147483647) (ho : SSz o.sn) (hk : o.kind = 5) :
    TriG Try.prog 30 #[(vI .i64 ord), v, (vA #[(vI .i64 o.kind), (Value.string o.in__In_Begin), (Value.string o.in__In_End), (vB o.in__In_Point), (vI .i64 o.in__From), (vI .i64 o.in__Till), (vI .i64 o.val), (vI .i64 o.n), (vS none 0 0), (vS none 0 0)])] R [] (fun R' v__ post__ => (v__ = (vT #[(vA #[(vB false), (vI .i64 0), (vI .i64 0), (vS none 0 0), (vS none 0 0)]), (vA #[(vB false), (vI .i64 0), (vI .i64 0), (vS none 0 0), (vS none 0 0)]), (vB false)]) ∧ post__ = []) ∨ (∃ (a b : TA) (x y : TAx), v__ = (vT #[(vA #[(vB a.oK), (vI .i64 a.n), (vI .i64 a.most), a.list, a.vals]), (vA #[(vB b.oK), (vI .i64 b.n), (vI .i64 b.most), b.list, b.vals]), (vB true)]) ∧ post__ = [] ∧ (AnsAt R' a x) ∧ (AnsAt R' b y) ∧ (Agree ord x y))) := by
 refine TriG.into (n := 52) (al := [(vI .i64 ord), v, (vA #[(vI .i64 o.kind), (Value.string o.in__In_Begin), (Value.string o.in__In_End), (vB o.in__In_Point), (vI .i64 o.in__From), (vI .i64 o.in__Till), (vI .i64 o.val), (vI .i64 o.n), (vS none 0 0), (vS none 0 0)])]) Try.func30 rfl Try.ntmps30 rfl rfl fun w F H => ?_
 refine C_seq (fun _ hK1_ => C_reg ?_)
 refine S_list (T_box (v := (vA #[(vI .i64 o.kind), (Value.string o.in__In_Begin), (Value.string o.in__In_End), (vB o.in__In_Point), (vI .i64 o.in__From), (vI .i64 o.in__Till), (vI .i64 o.val), (vI .i64 o.n), (vS none 0 0), (vS none 0 0)])) rfl H ?_)
 intro b2_ w3_ S5_ H4_
 have S6_ := Same.trans (Same.refl w) S5_
 refine S_list (T_alloc z59 H4_ ?_)
 intro b7_ w8_ S10_ H9_
 have S11_ := Same.trans S6_ S10_
 refine S_list (T_alloc z59 H9_ ?_)
 intro b12_ w13_ S15_ H14_
 have S16_ := Same.trans S11_ S15_
 refine sv (v := (vB false)) (x_assign rfl) ?_
 refine wn (hK1_ _ _ ?_)
 refine C_seq (fun _ hK17_ => C_reg ?_)
 refine sm (vI .i64 ord) ?_
 refine sv (v := v) (x_move rfl) ?_
 have H32_ := ((Holds.bring H14_ 3 rfl) :)
 refine S_list (T_callG (al := [(vI .i64 ord), v]) (pre := []) rfl rfl cb33 (lwFill R ord v l hv (hz) (hn)) H32_ ?_)
 rintro R19_ v20_ p36_ w33_ hs18_ hq37_ S35_ H34_
 rcases hq37_ with ⟨rfl, rfl⟩ | ⟨oa21_, oc22_, O23_, pb24_, pv25_, P26_, b27_, rfl, rfl, he28_, he29_, he30_, he31_⟩
 ·skip
  have S38_ := Same.trans S16_ S35_
  refine sm (vT #[(vS none 0 0), (vP none), (vB false)]) ?_
  refine sv (v := (vS none 0 0)) (by kernel_rfl) ?_
  refine sv (v := (vP none)) (by kernel_rfl) ?_
  refine sv (v := (vB false)) (by kernel_rfl) ?_
  refine sv (v := (vS none 0 0)) (x_assign rfl) ?_
  refine sv (v := (vP none)) (x_assign rfl) ?_
  refine sv (v := (vB false)) (x_assign rfl) ?_
  refine wn (hK17_ _ _ ?_)
  refine C_seq (fun _ hK40_ => ?_)
  refine C_seq (fun _ hK41_ => C_reg ?_)
  refine sm (vB false) ?_
  refine sv (v := (vB true)) (x_cast (x_not (b := false) rfl) rfl) ?_
  refine sm (vB true) ?_
  refine S_no (j := 2) (dj := 22) (b := true) rfl rfl rfl (by decide) ?_
  refine S_no (j := 2) (dj := 22) (b := true) rfl rfl rfl (by decide) ?_
  refine S_no (j := 2) (dj := 22) (b := true) rfl rfl rfl (by decide) ?_
  refine S_no (j := 2) (dj := 22) (b := true) rfl rfl rfl (by decide) ?_
  refine S_list (T_pickT (v := (vB true)) rfl rfl ?_)
  refine wn (hK41_ _ _ ?_)
  refine C_condT rfl ?_
  refine C_seq (fun _ hK42_ => ?_)
  refine A_start (S := fun w => Sub R19_ (hp w)) (N := 5) foll rfl rfl ?_
  have H43_ := Holds.drew_ H34_
  refine A_ready (i := 0) (rs := [1]) (by kernel_rfl) ?_
  refine AllR.cons ?_ ?_
  ·skip
   refine A_op (ls' := #[true, false, false, false, false]) rfl (by kernel_rfl) (T_val (v := (vA #[(vB false), (vI .i64 0), (vI .i64 0), (vS none 0 0), (vS none 0 0)])) (x_loadN (vs := [(vB false), (vI .i64 0), (vI .i64 0), (vS none 0 0), (vS none 0 0)]) rfl Try.underlying59 rfl z59 rfl (Rd.cells (Holds.rd H43_ 2 rfl) 0 rfl)) ?_)
   refine ⟨((Holds.ro_at H43_ 0 rfl)), ?_⟩
   refine A_ready (i := 1) (rs := [2]) (by kernel_rfl) ?_
   refine AllR.cons ?_ ?_
   ·skip
    refine A_op (ls' := #[true, true, false, false, false]) rfl (by kernel_rfl) (T_val (v := (vA #[(vB false), (vI .i64 0), (vI .i64 0), (vS none 0 0), (vS none 0 0)])) (x_loadN (vs := [(vB false), (vI .i64 0), (vI .i64 0), (vS none 0 0), (vS none 0 0)]) rfl Try.underlying59 rfl z59 rfl (Rd.cells (Holds.rd H43_ 1 rfl) 0 rfl)) ?_)
    refine ⟨((Holds.ro_at H43_ 0 rfl)), ?_⟩
    refine A_ready (i := 2) (rs := []) (by kernel_rfl) ?_
    refine AllR.cons ?_ AllR.nil
    refine A_op0 (ls' := #[true, true, true, false, false]) rfl (by kernel_rfl) (T_storeN (vs := [(vB false), (vI .i64 0), (vI .i64 0), (vS none 0 0), (vS none 0 0)]) rfl rfl z59 rfl (by simp [Value.oneCell']) H43_ 2 rfl (Nat.le_of_ble_eq_true (by rfl)) ?_)
    intro w44_ S46_ H45_
    have S47_ := Same.trans (Same.trans S38_ (Same.drew _)) S46_
    refine ⟨((Holds.ro_at H45_ 0 rfl)), ?_⟩
    refine A_ready (i := 3) (rs := []) (by kernel_rfl) ?_
    refine AllR.cons ?_ AllR.nil
    refine A_op0 (ls' := #[true, true, true, true, false]) rfl (by kernel_rfl) (T_storeN (vs := [(vB false), (vI .i64 0), (vI .i64 0), (vS none 0 0), (vS none 0 0)]) rfl rfl z59 rfl (by simp [Value.oneCell']) H45_ 1 rfl (Nat.le_of_ble_eq_true (by rfl)) ?_)
    intro w48_ S50_ H49_
    have S51_ := Same.trans S47_ S50_
    refine ⟨((Holds.ro_at H49_ 0 rfl)), ?_⟩
    have hq52_ := ((Holds.ro_at H49_ 0 rfl))
    refine A_tk 4 (v := (vB false)) rfl (by kernel_rfl) (fun w hS => x_assign rfl) hq52_ ?_
    refine A_done (by kernel_rfl) ?_
    refine (X_then (hK42_ _ _ ?_))
    refine C_ret (X_thenR ?_)
    refine R_any (v := (vT #[(vA #[(vB false), (vI .i64 0), (vI .i64 0), (vS none 0 0), (vS none 0 0)]), (vA #[(vB false), (vI .i64 0), (vI .i64 0), (vS none 0 0), (vS none 0 0)]), (vB false)])) (run_results3 rfl ⟨_, rfl, load_resN Try.underlying59 rfl z59 rfl (vs := [(vB false), (vI .i64 0), (vI .i64 0), (vS none 0 0), (vS none 0 0)]) (Holds.cl_cells H49_ 2 rfl 0 rfl)⟩ ⟨_, rfl, load_resN Try.underlying59 rfl z59 rfl (vs := [(vB false), (vI .i64 0), (vI .i64 0), (vS none 0 0), (vS none 0 0)]) (Holds.cl_cells H49_ 1 rfl 0 rfl)⟩ rfl) ?_
    have H53_ := Holds.pkF H49_ [0] 3
    exact ⟨R19_, _, _, rfl, hs18_, (.inl ⟨rfl, rfl⟩), S51_, H53_⟩
   refine AllR.cons ?_ AllR.nil
   refine A_op0 (ls' := #[true, false, true, false, false]) rfl (by kernel_rfl) (T_storeN (vs := [(vB false), (vI .i64 0), (vI .i64 0), (vS none 0 0), (vS none 0 0)]) rfl rfl z59 rfl (by simp [Value.oneCell']) H43_ 2 rfl (Nat.le_of_ble_eq_true (by rfl)) ?_)
   intro w54_ S56_ H55_
   have S57_ := Same.trans (Same.trans S38_ (Same.drew _)) S56_
   refine ⟨((Holds.ro_at H55_ 0 rfl)), ?_⟩
   refine A_ready (i := 1) (rs := []) (by kernel_rfl) ?_
   refine AllR.cons ?_ AllR.nil
   refine A_op (ls' := #[true, true, true, false, false]) rfl (by kernel_rfl) (T_val (v := (vA #[(vB false), (vI .i64 0), (vI .i64 0), (vS none 0 0), (vS none 0 0)])) (x_loadN (vs := [(vB false), (vI .i64 0), (vI .i64 0), (vS none 0 0), (vS none 0 0)]) rfl Try.underlying59 rfl z59 rfl (Rd.cells (Holds.rd H55_ 1 rfl) 0 rfl)) ?_)
   refine ⟨((Holds.ro_at H55_ 0 rfl)), ?_⟩
   refine A_ready (i := 3) (rs := []) (by kernel_rfl) ?_
   refine AllR.cons ?_ AllR.nil
   refine A_op0 (ls' := #[true, true, true, true, false]) rfl (by kernel_rfl) (T_storeN (vs := [(vB false), (vI .i64 0), (vI .i64 0), (vS none 0 0), (vS none 0 0)]) rfl rfl z59 rfl (by simp [Value.oneCell']) H55_ 1 rfl (Nat.le_of_ble_eq_true (by rfl)) ?_)
   intro w58_ S60_ H59_
   have S61_ := Same.trans S57_ S60_
   refine ⟨((Holds.ro_at H59_ 0 rfl)), ?_⟩
   have hq62_ := ((Holds.ro_at H59_ 0 rfl))
   refine A_tk 4 (v := (vB false)) rfl (by kernel_rfl) (fun w hS => x_assign rfl) hq62_ ?_
   refine A_done (by kernel_rfl) ?_
   refine (X_then (hK42_ _ _ ?_))
   refine C_ret (X_thenR ?_)
   refine R_any (v := (vT #[(vA #[(vB false), (vI .i64 0), (vI .i64 0), (vS none 0 0), (vS none 0 0)]), (vA #[(vB false), (vI .i64 0), (vI .i64 0), (vS none 0 0), (vS none 0 0)]), (vB false)])) (run_results3 rfl ⟨_, rfl, load_resN Try.underlying59 rfl z59 rfl (vs := [(vB false), (vI .i64 0), (vI .i64 0), (vS none 0 0), (vS none 0 0)]) (Holds.cl_cells H59_ 2 rfl 0 rfl)⟩ ⟨_, rfl, load_resN Try.underlying59 rfl z59 rfl (vs := [(vB false), (vI .i64 0), (vI .i64 0), (vS none 0 0), (vS none 0 0)]) (Holds.cl_cells H59_ 1 rfl 0 rfl)⟩ rfl) ?_
   have H63_ := Holds.pkF H59_ [0] 3
   exact ⟨R19_, _, _, rfl, hs18_, (.inl ⟨rfl, rfl⟩), S61_, H63_⟩
  refine AllR.cons ?_ AllR.nil
  refine A_op (ls' := #[false, true, false, false, false]) rfl (by kernel_rfl) (T_val (v := (vA #[(vB false), (vI .i64 0), (vI .i64 0), (vS none 0 0), (vS none 0 0)])) (x_loadN (vs := [(vB false), (vI .i64 0), (vI .i64 0), (vS none 0 0), (vS none 0 0)]) rfl Try.underlying59 rfl z59 rfl (Rd.cells (Holds.rd H43_ 1 rfl) 0 rfl)) ?_)
  refine ⟨((Holds.ro_at H43_ 0 rfl)), ?_⟩
  refine A_ready (i := 0) (rs := []) (by kernel_rfl) ?_
  refine AllR.cons ?_ AllR.nil
  refine A_op (ls' := #[true, true, false, false, false]) rfl (by kernel_rfl) (T_val (v := (vA #[(vB false), (vI .i64 0), (vI .i64 0), (vS none 0 0), (vS none 0 0)])) (x_loadN (vs := [(vB false), (vI .i64 0), (vI .i64 0), (vS none 0 0), (vS none 0 0)]) rfl Try.underlying59 rfl z59 rfl (Rd.cells (Holds.rd H43_ 2 rfl) 0 rfl)) ?_)
  refine ⟨((Holds.ro_at H43_ 0 rfl)), ?_⟩
  refine A_ready (i := 2) (rs := []) (by kernel_rfl) ?_
  refine AllR.cons ?_ AllR.nil
  refine A_op0 (ls' := #[true, true, true, false, false]) rfl (by kernel_rfl) (T_storeN (vs := [(vB false), (vI .i64 0), (vI .i64 0), (vS none 0 0), (vS none 0 0)]) rfl rfl z59 rfl (by simp [Value.oneCell']) H43_ 2 rfl (Nat.le_of_ble_eq_true (by rfl)) ?_)
  intro w64_ S66_ H65_
  have S67_ := Same.trans (Same.trans S38_ (Same.drew _)) S66_
  refine ⟨((Holds.ro_at H65_ 0 rfl)), ?_⟩
  refine A_ready (i := 3) (rs := []) (by kernel_rfl) ?_
  refine AllR.cons ?_ AllR.nil
  refine A_op0 (ls' := #[true, true, true, true, false]) rfl (by kernel_rfl) (T_storeN (vs := [(vB false), (vI .i64 0), (vI .i64 0), (vS none 0 0), (vS none 0 0)]) rfl rfl z59 rfl (by simp [Value.oneCell']) H65_ 1 rfl (Nat.le_of_ble_eq_true (by rfl)) ?_)
  intro w68_ S70_ H69_
  have S71_ := Same.trans S67_ S70_
  refine ⟨((Holds.ro_at H69_ 0 rfl)), ?_⟩
  have hq72_ := ((Holds.ro_at H69_ 0 rfl))
  refine A_tk 4 (v := (vB false)) rfl (by kernel_rfl) (fun w hS => x_assign rfl) hq72_ ?_
  refine A_done (by kernel_rfl) ?_
  refine (X_then (hK42_ _ _ ?_))
  refine C_ret (X_thenR ?_)
  refine R_any (v := (vT #[(vA #[(vB false), (vI .i64 0), (vI .i64 0), (vS none 0 0), (vS none 0 0)]), (vA #[(vB false), (vI .i64 0), (vI .i64 0), (vS none 0 0), (vS none 0 0)]), (vB false)])) (run_results3 rfl ⟨_, rfl, load_resN Try.underlying59 rfl z59 rfl (vs := [(vB false), (vI .i64 0), (vI .i64 0), (vS none 0 0), (vS none 0 0)]) (Holds.cl_cells H69_ 2 rfl 0 rfl)⟩ ⟨_, rfl, load_resN Try.underlying59 rfl z59 rfl (vs := [(vB false), (vI .i64 0), (vI .i64 0), (vS none 0 0), (vS none 0 0)]) (Holds.cl_cells H69_ 1 rfl 0 rfl)⟩ rfl) ?_
  have H73_ := Holds.pkF H69_ [0] 3
  exact ⟨R19_, _, _, rfl, hs18_, (.inl ⟨rfl, rfl⟩), S71_, H73_⟩
 ·skip
  have S39_ := Same.trans S16_ S35_
  have hF_ := he29_
  have hol_ := hF_.len
  have hpl_ := he30_
  have hrg_ := he31_
  refine sm (vT #[(vS oa21_ (List.length O23_) oc22_), (vQ pb24_), (vB b27_)]) ?_
  refine sv (v := (vS oa21_ (List.length O23_) oc22_)) (by kernel_rfl) ?_
  refine sv (v := (vQ pb24_)) (by kernel_rfl) ?_
  refine sv (v := (vB b27_)) (by kernel_rfl) ?_
  refine sv (v := (vS oa21_ (List.length O23_) oc22_)) (x_assign rfl) ?_
  refine sv (v := (vQ pb24_)) (x_assign rfl) ?_
  refine sv (v := (vB b27_)) (x_assign rfl) ?_
  refine wn (hK17_ _ _ ?_)
  refine C_seq (fun _ hK74_ => ?_)
  refine C_seq (fun _ hK75_ => C_reg ?_)
  refine sm (vB b27_) ?_
  refine sv (v := (vB (!b27_))) (x_not rfl) ?_
  refine sm (vB (!b27_)) ?_
  rcases Bool.eq_false_or_eq_true (!b27_) with c76_t | c76_f
  ·skip
   refine S_no (j := 2) (dj := 22) (b := true) rfl rfl (congrArg vB c76_t) (by decide) ?_
   refine S_no (j := 2) (dj := 22) (b := true) rfl rfl (congrArg vB c76_t) (by decide) ?_
   refine S_no (j := 2) (dj := 22) (b := true) rfl rfl (congrArg vB c76_t) (by decide) ?_
   refine S_no (j := 2) (dj := 22) (b := true) rfl rfl (congrArg vB c76_t) (by decide) ?_
   refine S_list (T_pickT (v := (vB true)) (congrArg vB c76_t) rfl ?_)
   refine wn (hK75_ _ _ ?_)
   refine C_condT rfl ?_
   refine C_seq (fun _ hK77_ => ?_)
   refine A_start (S := fun w => SlRd (vS oa21_ (List.length O23_) oc22_) (O23_.flatMap TX.cells) w ∧ Sub R19_ (hp w)) (N := 5) foll rfl rfl ?_
   have H78_ := Holds.drew_ H34_
   refine A_ready (i := 0) (rs := [1]) (by kernel_rfl) ?_
   refine AllR.cons ?_ ?_
   ·skip
    refine A_op (ls' := #[true, false, false, false, false]) rfl (by kernel_rfl) (T_val (v := (vA #[(vB false), (vI .i64 0), (vI .i64 0), (vS none 0 0), (vS none 0 0)])) (x_loadN (vs := [(vB false), (vI .i64 0), (vI .i64 0), (vS none 0 0), (vS none 0 0)]) rfl Try.underlying59 rfl z59 rfl (Rd.cells (Holds.rd H78_ 4 rfl) 0 rfl)) ?_)
    refine ⟨⟨Holds.slrd H78_ 2 rfl, (Holds.ro_at H78_ 0 rfl)⟩, ?_⟩
    refine A_ready (i := 1) (rs := [2]) (by kernel_rfl) ?_
    refine AllR.cons ?_ ?_
    ·skip
     refine A_op (ls' := #[true, true, false, false, false]) rfl (by kernel_rfl) (T_val (v := (vA #[(vB false), (vI .i64 0), (vI .i64 0), (vS none 0 0), (vS none 0 0)])) (x_loadN (vs := [(vB false), (vI .i64 0), (vI .i64 0), (vS none 0 0), (vS none 0 0)]) rfl Try.underlying59 rfl z59 rfl (Rd.cells (Holds.rd H78_ 3 rfl) 0 rfl)) ?_)
     refine ⟨⟨Holds.slrd H78_ 2 rfl, (Holds.ro_at H78_ 0 rfl)⟩, ?_⟩
     refine A_ready (i := 2) (rs := []) (by kernel_rfl) ?_
     refine AllR.cons ?_ AllR.nil
     refine A_op0 (ls' := #[true, true, true, false, false]) rfl (by kernel_rfl) (T_storeN (vs := [(vB false), (vI .i64 0), (vI .i64 0), (vS none 0 0), (vS none 0 0)]) rfl rfl z59 rfl (by simp [Value.oneCell']) H78_ 4 rfl (Nat.le_of_ble_eq_true (by rfl)) ?_)
     intro w79_ S81_ H80_
     have S82_ := Same.trans (Same.trans S39_ (Same.drew _)) S81_
     refine ⟨⟨Holds.slrd H80_ 2 rfl, (Holds.ro_at H80_ 0 rfl)⟩, ?_⟩
     refine A_ready (i := 3) (rs := []) (by kernel_rfl) ?_
     refine AllR.cons ?_ AllR.nil
     refine A_op0 (ls' := #[true, true, true, true, false]) rfl (by kernel_rfl) (T_storeN (vs := [(vB false), (vI .i64 0), (vI .i64 0), (vS none 0 0), (vS none 0 0)]) rfl rfl z59 rfl (by simp [Value.oneCell']) H80_ 3 rfl (Nat.le_of_ble_eq_true (by rfl)) ?_)
     intro w83_ S85_ H84_
     have S86_ := Same.trans S82_ S85_
     refine ⟨⟨Holds.slrd H84_ 2 rfl, (Holds.ro_at H84_ 0 rfl)⟩, ?_⟩
     have hq87_ := And.intro (Holds.slrd H84_ 2 rfl) ((Holds.ro_at H84_ 0 rfl))
     refine A_tk 4 (v := (vB false)) rfl (by kernel_rfl) (fun w hS => x_assign rfl) hq87_ ?_
     refine A_done (by kernel_rfl) ?_
     refine (X_then (hK77_ _ _ ?_))
     refine C_ret (X_thenR ?_)
     refine R_any (v := (vT #[(vA #[(vB false), (vI .i64 0), (vI .i64 0), (vS none 0 0), (vS none 0 0)]), (vA #[(vB false), (vI .i64 0), (vI .i64 0), (vS none 0 0), (vS none 0 0)]), (vB false)])) (run_results3 rfl ⟨_, rfl, load_resN Try.underlying59 rfl z59 rfl (vs := [(vB false), (vI .i64 0), (vI .i64 0), (vS none 0 0), (vS none 0 0)]) (Holds.cl_cells H84_ 4 rfl 0 rfl)⟩ ⟨_, rfl, load_resN Try.underlying59 rfl z59 rfl (vs := [(vB false), (vI .i64 0), (vI .i64 0), (vS none 0 0), (vS none 0 0)]) (Holds.cl_cells H84_ 3 rfl 0 rfl)⟩ rfl) ?_
     have H88_ := Holds.pkF H84_ [0] 5
     exact ⟨R19_, _, _, rfl, hs18_, (.inl ⟨rfl, rfl⟩), S86_, H88_⟩
    refine AllR.cons ?_ AllR.nil
    refine A_op0 (ls' := #[true, false, true, false, false]) rfl (by kernel_rfl) (T_storeN (vs := [(vB false), (vI .i64 0), (vI .i64 0), (vS none 0 0), (vS none 0 0)]) rfl rfl z59 rfl (by simp [Value.oneCell']) H78_ 4 rfl (Nat.le_of_ble_eq_true (by rfl)) ?_)
    intro w89_ S91_ H90_
    have S92_ := Same.trans (Same.trans S39_ (Same.drew _)) S91_
    refine ⟨⟨Holds.slrd H90_ 2 rfl, (Holds.ro_at H90_ 0 rfl)⟩, ?_⟩
    refine A_ready (i := 1) (rs := []) (by kernel_rfl) ?_
    refine AllR.cons ?_ AllR.nil
    refine A_op (ls' := #[true, true, true, false, false]) rfl (by kernel_rfl) (T_val (v := (vA #[(vB false), (vI .i64 0), (vI .i64 0), (vS none 0 0), (vS none 0 0)])) (x_loadN (vs := [(vB false), (vI .i64 0), (vI .i64 0), (vS none 0 0), (vS none 0 0)]) rfl Try.underlying59 rfl z59 rfl (Rd.cells (Holds.rd H90_ 3 rfl) 0 rfl)) ?_)
    refine ⟨⟨Holds.slrd H90_ 2 rfl, (Holds.ro_at H90_ 0 rfl)⟩, ?_⟩
    refine A_ready (i := 3) (rs := []) (by kernel_rfl) ?_
    refine AllR.cons ?_ AllR.nil
    refine A_op0 (ls' := #[true, true, true, true, false]) rfl (by kernel_rfl) (T_storeN (vs := [(vB false), (vI .i64 0), (vI .i64 0), (vS none 0 0), (vS none 0 0)]) rfl rfl z59 rfl (by simp [Value.oneCell']) H90_ 3 rfl (Nat.le_of_ble_eq_true (by rfl)) ?_)
    intro w93_ S95_ H94_
    have S96_ := Same.trans S92_ S95_
    refine ⟨⟨Holds.slrd H94_ 2 rfl, (Holds.ro_at H94_ 0 rfl)⟩, ?_⟩
    have hq97_ := And.intro (Holds.slrd H94_ 2 rfl) ((Holds.ro_at H94_ 0 rfl))
    refine A_tk 4 (v := (vB false)) rfl (by kernel_rfl) (fun w hS => x_assign rfl) hq97_ ?_
    refine A_done (by kernel_rfl) ?_
    refine (X_then (hK77_ _ _ ?_))
    refine C_ret (X_thenR ?_)
    refine R_any (v := (vT #[(vA #[(vB false), (vI .i64 0), (vI .i64 0), (vS none 0 0), (vS none 0 0)]), (vA #[(vB false), (vI .i64 0), (vI .i64 0), (vS none 0 0), (vS none 0 0)]), (vB false)])) (run_results3 rfl ⟨_, rfl, load_resN Try.underlying59 rfl z59 rfl (vs := [(vB false), (vI .i64 0), (vI .i64 0), (vS none 0 0), (vS none 0 0)]) (Holds.cl_cells H94_ 4 rfl 0 rfl)⟩ ⟨_, rfl, load_resN Try.underlying59 rfl z59 rfl (vs := [(vB false), (vI .i64 0), (vI .i64 0), (vS none 0 0), (vS none 0 0)]) (Holds.cl_cells H94_ 3 rfl 0 rfl)⟩ rfl) ?_
    have H98_ := Holds.pkF H94_ [0] 5
    exact ⟨R19_, _, _, rfl, hs18_, (.inl ⟨rfl, rfl⟩), S96_, H98_⟩
   refine AllR.cons ?_ AllR.nil
   refine A_op (ls' := #[false, true, false, false, false]) rfl (by kernel_rfl) (T_val (v := (vA #[(vB false), (vI .i64 0), (vI .i64 0), (vS none 0 0), (vS none 0 0)])) (x_loadN (vs := [(vB false), (vI .i64 0), (vI .i64 0), (vS none 0 0), (vS none 0 0)]) rfl Try.underlying59 rfl z59 rfl (Rd.cells (Holds.rd H78_ 3 rfl) 0 rfl)) ?_)
   refine ⟨⟨Holds.slrd H78_ 2 rfl, (Holds.ro_at H78_ 0 rfl)⟩, ?_⟩
   refine A_ready (i := 0) (rs := []) (by kernel_rfl) ?_
   refine AllR.cons ?_ AllR.nil
   refine A_op (ls' := #[true, true, false, false, false]) rfl (by kernel_rfl) (T_val (v := (vA #[(vB false), (vI .i64 0), (vI .i64 0), (vS none 0 0), (vS none 0 0)])) (x_loadN (vs := [(vB false), (vI .i64 0), (vI .i64 0), (vS none 0 0), (vS none 0 0)]) rfl Try.underlying59 rfl z59 rfl (Rd.cells (Holds.rd H78_ 4 rfl) 0 rfl)) ?_)
   refine ⟨⟨Holds.slrd H78_ 2 rfl, (Holds.ro_at H78_ 0 rfl)⟩, ?_⟩
   refine A_ready (i := 2) (rs := []) (by kernel_rfl) ?_
   refine AllR.cons ?_ AllR.nil
   refine A_op0 (ls' := #[true, true, true, false, false]) rfl (by kernel_rfl) (T_storeN (vs := [(vB false), (vI .i64 0), (vI .i64 0), (vS none 0 0), (vS none 0 0)]) rfl rfl z59 rfl (by simp [Value.oneCell']) H78_ 4 rfl (Nat.le_of_ble_eq_true (by rfl)) ?_)
   intro w99_ S101_ H100_
   have S102_ := Same.trans (Same.trans S39_ (Same.drew _)) S101_
   refine ⟨⟨Holds.slrd H100_ 2 rfl, (Holds.ro_at H100_ 0 rfl)⟩, ?_⟩
   refine A_ready (i := 3) (rs := []) (by kernel_rfl) ?_
   refine AllR.cons ?_ AllR.nil
   refine A_op0 (ls' := #[true, true, true, true, false]) rfl (by kernel_rfl) (T_storeN (vs := [(vB false), (vI .i64 0), (vI .i64 0), (vS none 0 0), (vS none 0 0)]) rfl rfl z59 rfl (by simp [Value.oneCell']) H100_ 3 rfl (Nat.le_of_ble_eq_true (by rfl)) ?_)
   intro w103_ S105_ H104_
   have S106_ := Same.trans S102_ S105_
   refine ⟨⟨Holds.slrd H104_ 2 rfl, (Holds.ro_at H104_ 0 rfl)⟩, ?_⟩
   have hq107_ := And.intro (Holds.slrd H104_ 2 rfl) ((Holds.ro_at H104_ 0 rfl))
   refine A_tk 4 (v := (vB false)) rfl (by kernel_rfl) (fun w hS => x_assign rfl) hq107_ ?_
   refine A_done (by kernel_rfl) ?_
   refine (X_then (hK77_ _ _ ?_))
   refine C_ret (X_thenR ?_)
   refine R_any (v := (vT #[(vA #[(vB false), (vI .i64 0), (vI .i64 0), (vS none 0 0), (vS none 0 0)]), (vA #[(vB false), (vI .i64 0), (vI .i64 0), (vS none 0 0), (vS none 0 0)]), (vB false)])) (run_results3 rfl ⟨_, rfl, load_resN Try.underlying59 rfl z59 rfl (vs := [(vB false), (vI .i64 0), (vI .i64 0), (vS none 0 0), (vS none 0 0)]) (Holds.cl_cells H104_ 4 rfl 0 rfl)⟩ ⟨_, rfl, load_resN Try.underlying59 rfl z59 rfl (vs := [(vB false), (vI .i64 0), (vI .i64 0), (vS none 0 0), (vS none 0 0)]) (Holds.cl_cells H104_ 3 rfl 0 rfl)⟩ rfl) ?_
   have H108_ := Holds.pkF H104_ [0] 5
   exact ⟨R19_, _, _, rfl, hs18_, (.inl ⟨rfl, rfl⟩), S106_, H108_⟩
  ·skip
   refine S_yes (j := 2) (dj := 22) (b := false) rfl rfl (congrArg vB c76_f) (T_val (v := (vI .i64 ord)) (x_move rfl) ?_)
   refine S_yes (j := 2) (dj := 22) (b := false) rfl rfl (congrArg vB c76_f) (T_val (v := (vA #[(vI .i64 o.kind), (Value.string o.in__In_Begin), (Value.string o.in__In_End), (vB o.in__In_Point), (vI .i64 o.in__From), (vI .i64 o.in__Till), (vI .i64 o.val), (vI .i64 o.n), (vS none 0 0), (vS none 0 0)])) (x_loadN (vs := [(vI .i64 o.kind), (Value.string o.in__In_Begin), (Value.string o.in__In_End), (vB o.in__In_Point), (vI .i64 o.in__From), (vI .i64 o.in__Till), (vI .i64 o.val), (vI .i64 o.n), (vS none 0 0), (vS none 0 0)]) rfl Try.underlying63 rfl z63 rfl (Rd.cells (Holds.rd H34_ 5 rfl) 0 rfl)) ?_)
   refine S_yes (j := 2) (dj := 22) (b := false) rfl rfl (congrArg vB c76_f) (T_call (al := [(vI .i64 ord), (vA #[(vI .i64 o.kind), (Value.string o.in__In_Begin), (Value.string o.in__In_End), (vB o.in__In_Point), (vI .i64 o.in__From), (vI .i64 o.in__Till), (vI .i64 o.val), (vI .i64 o.n), (vS none 0 0), (vS none 0 0)])]) (pre := []) rfl rfl cb34 (lwProp R19_ ord o (ho.1) (by omega)) H34_ ?_)
   rintro v109_ p113_ w110_ ⟨rfl, rfl⟩ S112_ H111_
   have S114_ := Same.trans S39_ S112_
   refine S_yes (j := 2) (dj := 22) (b := false) rfl rfl (congrArg vB c76_f) (T_val (v := (vB (!(spanB ord o.sn)))) (x_not rfl) ?_)
   refine S_list (T_pickF (v := (vB (!(spanB ord o.sn)))) (congrArg vB c76_f) rfl ?_)
   refine wn (hK75_ _ _ ?_)
   refine C_cond (b := !(spanB ord o.sn)) rfl (fun c115_t => ?_) (fun c115_f => ?_)
   ·skip
    refine C_seq (fun _ hK116_ => ?_)
    refine A_start (S := fun w => SlRd (vS oa21_ (List.length O23_) oc22_) (O23_.flatMap TX.cells) w ∧ Sub R19_ (hp w)) (N := 5) foll rfl rfl ?_
    have H117_ := Holds.drew_ H111_
    refine A_ready (i := 0) (rs := [1]) (by kernel_rfl) ?_
    refine AllR.cons ?_ ?_
    ·skip
     refine A_op (ls' := #[true, false, false, false, false]) rfl (by kernel_rfl) (T_val (v := (vA #[(vB false), (vI .i64 0), (vI .i64 0), (vS none 0 0), (vS none 0 0)])) (x_loadN (vs := [(vB false), (vI .i64 0), (vI .i64 0), (vS none 0 0), (vS none 0 0)]) rfl Try.underlying59 rfl z59 rfl (Rd.cells (Holds.rd H117_ 4 rfl) 0 rfl)) ?_)
     refine ⟨⟨Holds.slrd H117_ 2 rfl, (Holds.ro_at H117_ 0 rfl)⟩, ?_⟩
     refine A_ready (i := 1) (rs := [2]) (by kernel_rfl) ?_
     refine AllR.cons ?_ ?_
     ·skip
      refine A_op (ls' := #[true, true, false, false, false]) rfl (by kernel_rfl) (T_val (v := (vA #[(vB false), (vI .i64 0), (vI .i64 0), (vS none 0 0), (vS none 0 0)])) (x_loadN (vs := [(vB false), (vI .i64 0), (vI .i64 0), (vS none 0 0), (vS none 0 0)]) rfl Try.underlying59 rfl z59 rfl (Rd.cells (Holds.rd H117_ 3 rfl) 0 rfl)) ?_)
      refine ⟨⟨Holds.slrd H117_ 2 rfl, (Holds.ro_at H117_ 0 rfl)⟩, ?_⟩
      refine A_ready (i := 2) (rs := []) (by kernel_rfl) ?_
      refine AllR.cons ?_ AllR.nil
      refine A_op0 (ls' := #[true, true, true, false, false]) rfl (by kernel_rfl) (T_storeN (vs := [(vB false), (vI .i64 0), (vI .i64 0), (vS none 0 0), (vS none 0 0)]) rfl rfl z59 rfl (by simp [Value.oneCell']) H117_ 4 rfl (Nat.le_of_ble_eq_true (by rfl)) ?_)
      intro w118_ S120_ H119_
      have S121_ := Same.trans (Same.trans S114_ (Same.drew _)) S120_
      refine ⟨⟨Holds.slrd H119_ 2 rfl, (Holds.ro_at H119_ 0 rfl)⟩, ?_⟩
      refine A_ready (i := 3) (rs := []) (by kernel_rfl) ?_
      refine AllR.cons ?_ AllR.nil
      refine A_op0 (ls' := #[true, true, true, true, false]) rfl (by kernel_rfl) (T_storeN (vs := [(vB false), (vI .i64 0), (vI .i64 0), (vS none 0 0), (vS none 0 0)]) rfl rfl z59 rfl (by simp [Value.oneCell']) H119_ 3 rfl (Nat.le_of_ble_eq_true (by rfl)) ?_)
      intro w122_ S124_ H123_
      have S125_ := Same.trans S121_ S124_
      refine ⟨⟨Holds.slrd H123_ 2 rfl, (Holds.ro_at H123_ 0 rfl)⟩, ?_⟩
      have hq126_ := And.intro (Holds.slrd H123_ 2 rfl) ((Holds.ro_at H123_ 0 rfl))
      refine A_tk 4 (v := (vB false)) rfl (by kernel_rfl) (fun w hS => x_assign rfl) hq126_ ?_
      refine A_done (by kernel_rfl) ?_
      refine (X_then (hK116_ _ _ ?_))
      refine C_ret (X_thenR ?_)
      refine R_any (v := (vT #[(vA #[(vB false), (vI .i64 0), (vI .i64 0), (vS none 0 0), (vS none 0 0)]), (vA #[(vB false), (vI .i64 0), (vI .i64 0), (vS none 0 0), (vS none 0 0)]), (vB false)])) (run_results3 rfl ⟨_, rfl, load_resN Try.underlying59 rfl z59 rfl (vs := [(vB false), (vI .i64 0), (vI .i64 0), (vS none 0 0), (vS none 0 0)]) (Holds.cl_cells H123_ 4 rfl 0 rfl)⟩ ⟨_, rfl, load_resN Try.underlying59 rfl z59 rfl (vs := [(vB false), (vI .i64 0), (vI .i64 0), (vS none 0 0), (vS none 0 0)]) (Holds.cl_cells H123_ 3 rfl 0 rfl)⟩ rfl) ?_
      have H127_ := Holds.pkF H123_ [0] 5
      exact ⟨R19_, _, _, rfl, hs18_, (.inl ⟨rfl, rfl⟩), S125_, H127_⟩
     refine AllR.cons ?_ AllR.nil
     refine A_op0 (ls' := #[true, false, true, false, false]) rfl (by kernel_rfl) (T_storeN (vs := [(vB false), (vI .i64 0), (vI .i64 0), (vS none 0 0), (vS none 0 0)]) rfl rfl z59 rfl (by simp [Value.oneCell']) H117_ 4 rfl (Nat.le_of_ble_eq_true (by rfl)) ?_)
     intro w128_ S130_ H129_
     have S131_ := Same.trans (Same.trans S114_ (Same.drew _)) S130_
     refine ⟨⟨Holds.slrd H129_ 2 rfl, (Holds.ro_at H129_ 0 rfl)⟩, ?_⟩
     refine A_ready (i := 1) (rs := []) (by kernel_rfl) ?_
     refine AllR.cons ?_ AllR.nil
     refine A_op (ls' := #[true, true, true, false, false]) rfl (by kernel_rfl) (T_val (v := (vA #[(vB false), (vI .i64 0), (vI .i64 0), (vS none 0 0), (vS none 0 0)])) (x_loadN (vs := [(vB false), (vI .i64 0), (vI .i64 0), (vS none 0 0), (vS none 0 0)]) rfl Try.underlying59 rfl z59 rfl (Rd.cells (Holds.rd H129_ 3 rfl) 0 rfl)) ?_)
     refine ⟨⟨Holds.slrd H129_ 2 rfl, (Holds.ro_at H129_ 0 rfl)⟩, ?_⟩
     refine A_ready (i := 3) (rs := []) (by kernel_rfl) ?_
     refine AllR.cons ?_ AllR.nil
     refine A_op0 (ls' := #[true, true, true, true, false]) rfl (by kernel_rfl) (T_storeN (vs := [(vB false), (vI .i64 0), (vI .i64 0), (vS none 0 0), (vS none 0 0)]) rfl rfl z59 rfl (by simp [Value.oneCell']) H129_ 3 rfl (Nat.le_of_ble_eq_true (by rfl)) ?_)
     intro w132_ S134_ H133_
     have S135_ := Same.trans S131_ S134_
     refine ⟨⟨Holds.slrd H133_ 2 rfl, (Holds.ro_at H133_ 0 rfl)⟩, ?_⟩
     have hq136_ := And.intro (Holds.slrd H133_ 2 rfl) ((Holds.ro_at H133_ 0 rfl))
     refine A_tk 4 (v := (vB false)) rfl (by kernel_rfl) (fun w hS => x_assign rfl) hq136_ ?_
     refine A_done (by kernel_rfl) ?_
     refine (X_then (hK116_ _ _ ?_))
     refine C_ret (X_thenR ?_)
     refine R_any (v := (vT #[(vA #[(vB false), (vI .i64 0), (vI .i64 0), (vS none 0 0), (vS none 0 0)]), (vA #[(vB false), (vI .i64 0), (vI .i64 0), (vS none 0 0), (vS none 0 0)]), (vB false)])) (run_results3 rfl ⟨_, rfl, load_resN Try.underlying59 rfl z59 rfl (vs := [(vB false), (vI .i64 0), (vI .i64 0), (vS none 0 0), (vS none 0 0)]) (Holds.cl_cells H133_ 4 rfl 0 rfl)⟩ ⟨_, rfl, load_resN Try.underlying59 rfl z59 rfl (vs := [(vB false), (vI .i64 0), (vI .i64 0), (vS none 0 0), (vS none 0 0)]) (Holds.cl_cells H133_ 3 rfl 0 rfl)⟩ rfl) ?_
     have H137_ := Holds.pkF H133_ [0] 5
     exact ⟨R19_, _, _, rfl, hs18_, (.inl ⟨rfl, rfl⟩), S135_, H137_⟩
    refine AllR.cons ?_ AllR.nil
    refine A_op (ls' := #[false, true, false, false, false]) rfl (by kernel_rfl) (T_val (v := (vA #[(vB false), (vI .i64 0), (vI .i64 0), (vS none 0 0), (vS none 0 0)])) (x_loadN (vs := [(vB false), (vI .i64 0), (vI .i64 0), (vS none 0 0), (vS none 0 0)]) rfl Try.underlying59 rfl z59 rfl (Rd.cells (Holds.rd H117_ 3 rfl) 0 rfl)) ?_)
    refine ⟨⟨Holds.slrd H117_ 2 rfl, (Holds.ro_at H117_ 0 rfl)⟩, ?_⟩
    refine A_ready (i := 0) (rs := []) (by kernel_rfl) ?_
    refine AllR.cons ?_ AllR.nil
    refine A_op (ls' := #[true, true, false, false, false]) rfl (by kernel_rfl) (T_val (v := (vA #[(vB false), (vI .i64 0), (vI .i64 0), (vS none 0 0), (vS none 0 0)])) (x_loadN (vs := [(vB false), (vI .i64 0), (vI .i64 0), (vS none 0 0), (vS none 0 0)]) rfl Try.underlying59 rfl z59 rfl (Rd.cells (Holds.rd H117_ 4 rfl) 0 rfl)) ?_)
    refine ⟨⟨Holds.slrd H117_ 2 rfl, (Holds.ro_at H117_ 0 rfl)⟩, ?_⟩
    refine A_ready (i := 2) (rs := []) (by kernel_rfl) ?_
    refine AllR.cons ?_ AllR.nil
    refine A_op0 (ls' := #[true, true, true, false, false]) rfl (by kernel_rfl) (T_storeN (vs := [(vB false), (vI .i64 0), (vI .i64 0), (vS none 0 0), (vS none 0 0)]) rfl rfl z59 rfl (by simp [Value.oneCell']) H117_ 4 rfl (Nat.le_of_ble_eq_true (by rfl)) ?_)
    intro w138_ S140_ H139_
    have S141_ := Same.trans (Same.trans S114_ (Same.drew _)) S140_
    refine ⟨⟨Holds.slrd H139_ 2 rfl, (Holds.ro_at H139_ 0 rfl)⟩, ?_⟩
    refine A_ready (i := 3) (rs := []) (by kernel_rfl) ?_
    refine AllR.cons ?_ AllR.nil
    refine A_op0 (ls' := #[true, true, true, true, false]) rfl (by kernel_rfl) (T_storeN (vs := [(vB false), (vI .i64 0), (vI .i64 0), (vS none 0 0), (vS none 0 0)]) rfl rfl z59 rfl (by simp [Value.oneCell']) H139_ 3 rfl (Nat.le_of_ble_eq_true (by rfl)) ?_)
    intro w142_ S144_ H143_
    have S145_ := Same.trans S141_ S144_
    refine ⟨⟨Holds.slrd H143_ 2 rfl, (Holds.ro_at H143_ 0 rfl)⟩, ?_⟩
    have hq146_ := And.intro (Holds.slrd H143_ 2 rfl) ((Holds.ro_at H143_ 0 rfl))
    refine A_tk 4 (v := (vB false)) rfl (by kernel_rfl) (fun w hS => x_assign rfl) hq146_ ?_
    refine A_done (by kernel_rfl) ?_
    refine (X_then (hK116_ _ _ ?_))
    refine C_ret (X_thenR ?_)
    refine R_any (v := (vT #[(vA #[(vB false), (vI .i64 0), (vI .i64 0), (vS none 0 0), (vS none 0 0)]), (vA #[(vB false), (vI .i64 0), (vI .i64 0), (vS none 0 0), (vS none 0 0)]), (vB false)])) (run_results3 rfl ⟨_, rfl, load_resN Try.underlying59 rfl z59 rfl (vs := [(vB false), (vI .i64 0), (vI .i64 0), (vS none 0 0), (vS none 0 0)]) (Holds.cl_cells H143_ 4 rfl 0 rfl)⟩ ⟨_, rfl, load_resN Try.underlying59 rfl z59 rfl (vs := [(vB false), (vI .i64 0), (vI .i64 0), (vS none 0 0), (vS none 0 0)]) (Holds.cl_cells H143_ 3 rfl 0 rfl)⟩ rfl) ?_
    have H147_ := Holds.pkF H143_ [0] 5
    exact ⟨R19_, _, _, rfl, hs18_, (.inl ⟨rfl, rfl⟩), S145_, H147_⟩
   ·skip
    refine C_skip (X_then (hK74_ _ _ ?_))
    refine C_seq (fun _ hK148_ => C_reg ?_)
    refine sm (vI .i64 ord) ?_
    refine sm (vS oa21_ (List.length O23_) oc22_) ?_
    refine sv (v := (vA #[(vI .i64 o.kind), (Value.string o.in__In_Begin), (Value.string o.in__In_End), (vB o.in__In_Point), (vI .i64 o.in__From), (vI .i64 o.in__Till), (vI .i64 o.val), (vI .i64 o.n), (vS none 0 0), (vS none 0 0)])) (x_loadN (vs := [(vI .i64 o.kind), (Value.string o.in__In_Begin), (Value.string o.in__In_End), (vB o.in__In_Point), (vI .i64 o.in__From), (vI .i64 o.in__Till), (vI .i64 o.val), (vI .i64 o.n), (vS none 0 0), (vS none 0 0)]) rfl Try.underlying63 rfl z63 rfl (Rd.cells (Holds.rd H111_ 5 rfl) 0 rfl)) ?_
    refine S_list (T_new (obj := .cells #[(vI .i64 o.kind), (Value.string o.in__In_Begin), (Value.string o.in__In_End), (vB o.in__In_Point), (vI .i64 o.in__From), (vI .i64 o.in__Till), (vI .i64 o.val), (vI .i64 o.n), (vS none 0 0), (vS none 0 0)] 63) (f := fun b__ => .slice (some ⟨b__, 0, none⟩) 1 1) (A := fun b__ => cl b__ 63 [(vI .i64 o.kind), (Value.string o.in__In_Begin), (Value.string o.in__In_End), (vB o.in__In_Point), (vI .i64 o.in__From), (vI .i64 o.in__Till), (vI .i64 o.val), (vI .i64 o.n), (vS none 0 0), (vS none 0 0)]) (by kernel_rfl) (fun l h => h.alloc _ _) H111_ ?_)
    intro b149_ w150_ S152_ H151_
    have S153_ := Same.trans S114_ S152_
    refine S_list (T_append rfl rfl Try.underlying66 z63 rfl (by decide) H151_ 3 rfl (Holds.cl_src H151_ 0 rfl Try.underlying66 (by simp [Value.oneCell']) rfl) (by first | omega | (simp only [List.length_append, List.length_cons, List.length_nil]; omega)) ?_)
    intro v154_ w155_ S157_ H156_
    have S158_ := Same.trans S153_ S157_
    have H159_ := Holds.resl H156_ 3 rfl (by rw [List.flatMap_append]; rfl : (O23_.flatMap TX.cells) ++ [(vI .i64 o.kind), (Value.string o.in__In_Begin), (Value.string o.in__In_End), (vB o.in__In_Point), (vI .i64 o.in__From), (vI .i64 o.in__Till), (vI .i64 o.val), (vI .i64 o.n), (vS none 0 0), (vS none 0 0)] = (O23_ ++ [TO.bare o]).flatMap TX.cells) (by rw [List.length_append]; rfl : (List.length O23_) + 1 = (List.length (O23_ ++ [TO.bare o])))
    have hor_ := hrg_ (by simpa using c76_f)
    have hsp_ : spanB ord o.sn = true := by simpa using c115_f
    have hOl_ : ((O23_ ++ [TO.bare o])).length = O23_.length + 1 := by rw [List.length_append]; rfl
    have H160_ := ((Holds.bring (Holds.bring H159_ 3 rfl) 2 rfl) :)
    obtain ⟨R161_, hs162_, ⟨R163_, ha164_, hs165_⟩, H166_⟩ := Holds.gift H160_
    have hz_R_R161_ := Sub.trans' hs18_ hs162_
    have hr167_ : RS R161_ 10 v154_ (List.length (O23_ ++ [TO.bare o])) ((O23_ ++ [TO.bare o]).flatMap TX.cells) := (sl_RS ha164_ (Sub.rfl' _)).mono hs165_
    refine S_list (T_callG (al := [(vI .i64 ord), v154_]) (pre := []) rfl rfl cb35 (tdTree R161_ ord v154_ (O23_ ++ [TO.bare o]) hr167_ (by omega) (Fil.ops hF_ hor_ (by omega) ⟨(by have h__ : (TO.bare o).q.kind = 5 := hk; omega), spanB_ok hsp_ hor_ ho.1 ho.2, hF_.mlen hpl_, fun h => by have h__ : o.kind = 3 := h; omega, fun _ => ⟨by rw [hF_.t]; exact hF_.p, spanB_prp hsp_⟩, fun h => by have h__ : o.kind = 10 := h; omega⟩)) H166_ ?_)
    rintro R169_ v170_ p178_ w175_ hs168_ ⟨_, A171_, rfl, rfl, he172_, he173_, he174_⟩ S177_ H176_
    have S179_ := Same.trans S158_ S177_
    have hz_R_R169_ := Sub.trans' hz_R_R161_ hs168_
    have hz_R19__R169_ := Sub.trans' hs162_ hs168_
    have hAl_ := he173_
    refine sv (v := v170_) (x_assign rfl) ?_
    refine wn (hK148_ _ _ ?_)
    refine C_seq (fun _ hK180_ => ?_)
    refine C_seq (fun _ hK181_ => C_reg ?_)
    refine sv (v := v170_) (x_move rfl) ?_
    refine sv (v := (vI .i64 ((List.length A171_) : Int))) (x_lenRS rfl he172_ Try.underlying71) ?_
    refine sm (vS oa21_ (List.length O23_) oc22_) ?_
    refine sv (v := (vI .i64 ((List.length O23_) : Int))) (x_lenS rfl Try.underlying66) ?_
    refine sv (v := (vI .i64 (((List.length O23_) : Int) + 1))) (x_bin rfl rfl (ib_add (IntWalk.i64_in _ (by omega)))) ?_
    refine sv (v := (vB (decide (((List.length A171_) : Int) ≠ ((List.length O23_) : Int) + 1)))) (x_bin rfl rfl rfl) ?_
    refine wn (hK181_ _ _ ?_)
    refine C_cond (b := decide (((List.length A171_) : Int) ≠ ((List.length O23_) : Int) + 1)) rfl (fun c182_t => ?_) (fun c182_f => ?_)
    ·have c182_tp : ((List.length A171_) : Int) ≠ ((List.length O23_) : Int) + 1 := of_decide_eq_true c182_t
     omega
    ·have c182_fp : ¬ (((List.length A171_) : Int) ≠ ((List.length O23_) : Int) + 1) := of_decide_eq_false c182_f
     refine C_skip (X_then (hK180_ _ _ ?_))
     refine C_seq (fun _ hK183_ => ?_)
     refine A_start (S := fun w => Rd pb24_ [(vI .i64 ord), pv25_] w ∧ Rd b2_ [(vI .i64 o.kind), (Value.string o.in__In_Begin), (Value.string o.in__In_End), (vB o.in__In_Point), (vI .i64 o.in__From), (vI .i64 o.in__Till), (vI .i64 o.val), (vI .i64 o.n), (vS none 0 0), (vS none 0 0)] w ∧ Sub R169_ (hp w)) (N := 11) foll rfl rfl ?_
     have H184_ := Holds.drew_ H176_
     have hq185_ := And.intro (Holds.rd H184_ 2 rfl) (And.intro (Holds.rd H184_ 5 rfl) ((Holds.ro_at H184_ 0 rfl)))
     refine A_tk 0 (v := v170_) rfl (by kernel_rfl) (fun w hS => x_move rfl) hq185_ ?_
     refine A_tk 1 (v := (vS oa21_ (List.length O23_) oc22_)) rfl (by kernel_rfl) (fun w hS => x_move rfl) hq185_ ?_
     refine A_tk 2 (v := (vI .i64 ((List.length O23_) : Int))) rfl (by kernel_rfl) (fun w hS => x_lenS rfl Try.underlying66) hq185_ ?_
     obtain ⟨x186_, hx187_, hm188_⟩ := elem_at A171_ (List.length O23_) (by omega)
     have hAa189_ := AnsTo.last (he174_) hx187_
     refine A_tk 3 (v := (vP (some ⟨(sb v170_), so v170_ + ((List.length O23_) * 5 + 0), none⟩))) rfl (by kernel_rfl) (fun w hS => x_idxRS (v := v170_) rfl he172_ rfl Try.underlying71 z59 (by omega) (by omega) (by omega : _ = (List.length O23_)) rfl) hq185_ ?_
     refine A_tk 4 (v := (vA #[(vB x186_.oK), (vI .i64 x186_.n), (vI .i64 x186_.most), x186_.list, x186_.vals])) rfl (by kernel_rfl) (fun w hS => x_loadN (vs := [(vB x186_.oK), (vI .i64 x186_.n), (vI .i64 x186_.most), x186_.list, x186_.vals]) rfl Try.underlying59 rfl z59 rfl (RC.cells (RS.rc he172_) hS.2.2 ((List.length O23_) * 5 + 0) (fm_cells TA.len hx187_ (i := 0) rfl))) hq185_ ?_
     refine A_tk 5 (v := (vQ pb24_)) rfl (by kernel_rfl) (fun w hS => x_move rfl) hq185_ ?_
     refine A_tk 6 (v := (vA #[(vI .i64 o.kind), (Value.string o.in__In_Begin), (Value.string o.in__In_End), (vB o.in__In_Point), (vI .i64 o.in__From), (vI .i64 o.in__Till), (vI .i64 o.val), (vI .i64 o.n), (vS none 0 0), (vS none 0 0)])) rfl (by kernel_rfl) (fun w hS => x_loadN (vs := [(vI .i64 o.kind), (Value.string o.in__In_Begin), (Value.string o.in__In_End), (vB o.in__In_Point), (vI .i64 o.in__From), (vI .i64 o.in__Till), (vI .i64 o.val), (vI .i64 o.n), (vS none 0 0), (vS none 0 0)]) rfl Try.underlying63 rfl z63 rfl (Rd.cells hS.2.1 0 rfl)) hq185_ ?_
     refine A_ready (i := 7) (rs := []) (by kernel_rfl) ?_
     refine AllR.cons ?_ AllR.nil
     have H195_ := ((Holds.bring (Holds.bring H184_ 2 rfl) 1 rfl) :)
     refine A_op (ls' := #[true, true, true, true, true, true, true, true, false, false, false]) rfl (by kernel_rfl) (T_callG (al := [(vQ pb24_), (vA #[(vI .i64 (((TO.bare o).q).kind)), (Value.string (((TO.bare o).q).in__In_Begin)), (Value.string (((TO.bare o).q).in__In_End)), (vB (((TO.bare o).q).in__In_Point)), (vI .i64 (((TO.bare o).q).in__From)), (vI .i64 (((TO.bare o).q).in__Till)), (vI .i64 (((TO.bare o).q).val)), (vI .i64 (((TO.bare o).q).n)), (((TO.bare o).q).other), (((TO.bare o).q).vals)])]) (pre := [cl pb24_ 75 [(vI .i64 ord), pv25_]]) rfl (lcons rfl (lcons (congrArg (fun l => vA (List.toArray l)) (lcons (congrArg (vI .i64) ((by first | rfl | omega | (simp; done) | (simp; omega)) : o.kind = ((TO.bare o).q).kind)) (lcons (congrArg Value.string ((by first | rfl | omega | (simp; done) | (simp; omega)) : o.in__In_Begin = (((TO.bare o).q).in__In_Begin))) (lcons (congrArg Value.string ((by first | rfl | omega | (simp; done) | (simp; omega)) : o.in__In_End = (((TO.bare o).q).in__In_End))) (lcons (congrArg vB ((by first | rfl | omega | (simp; done) | (simp; omega)) : o.in__In_Point = (((TO.bare o).q).in__In_Point))) (lcons (congrArg (vI .i64) ((by first | rfl | omega | (simp; done) | (simp; omega)) : o.in__From = ((TO.bare o).q).in__From)) (lcons (congrArg (vI .i64) ((by first | rfl | omega | (simp; done) | (simp; omega)) : o.in__Till = ((TO.bare o).q).in__Till)) (lcons (congrArg (vI .i64) ((by first | rfl | omega | (simp; done) | (simp; omega)) : o.val = ((TO.bare o).q).val)) (lcons (congrArg (vI .i64) ((by first | rfl | omega | (simp; done) | (simp; omega)) : o.n = ((TO.bare o).q).n)) (lcons ((by first | rfl | omega | (simp; done) | (simp; omega)) : (vS none 0 0) = (((TO.bare o).q).other)) (lcons ((by first | rfl | omega | (simp; done) | (simp; omega)) : (vS none 0 0) = (((TO.bare o).q).vals)) rfl))))))))))) rfl)) cb59 (spDo5 R169_ ord pb24_ pv25_ P26_ ((TO.bare o).q) ((he28_.mono hz_R19__R169_)) (hF_.z) (ho.1) (by omega) (hk)) H195_ ?_)
     rintro R191_ v192_ p199_ w196_ hs190_ ⟨a193_, rfl, rfl, he194_⟩ S198_ H197_
     have S200_ := Same.trans (Same.trans S179_ (Same.drew _)) S198_
     have hz_R_R191_ := Sub.trans' hz_R_R169_ hs190_
     have hz_R19__R191_ := Sub.trans' hz_R19__R169_ hs190_
     have hz_R161__R191_ := Sub.trans' hs168_ hs190_
     refine ⟨⟨Holds.rd H197_ 1 rfl, Holds.rd H197_ 5 rfl, (Sub.trans' hs190_ (Holds.ro_at H197_ 0 rfl))⟩, ?_⟩
     refine A_ready (i := 8) (rs := []) (by kernel_rfl) ?_
     refine AllR.cons ?_ AllR.nil
     refine A_op0 (ls' := #[true, true, true, true, true, true, true, true, true, false, false]) rfl (by kernel_rfl) (T_storeN (vs := [(vB x186_.oK), (vI .i64 x186_.n), (vI .i64 x186_.most), x186_.list, x186_.vals]) rfl rfl z59 rfl (List.forall_mem_cons.2 ⟨rfl, (List.forall_mem_cons.2 ⟨rfl, (List.forall_mem_cons.2 ⟨rfl, (List.forall_mem_cons.2 ⟨(RS.one (RS.mono (hAa189_.2.2.1) hs190_)), (List.forall_mem_cons.2 ⟨(RS.one (RS.mono (hAa189_.2.2.2) hs190_)), (fun _ h__ => by cases h__)⟩)⟩)⟩)⟩)⟩) H197_ 4 rfl (Nat.le_of_ble_eq_true (by rfl)) ?_)
     intro w201_ S203_ H202_
     have S204_ := Same.trans S200_ S203_
     refine ⟨⟨Holds.rd H202_ 1 rfl, Holds.rd H202_ 5 rfl, (Sub.trans' hs190_ (Holds.ro_at H202_ 0 rfl))⟩, ?_⟩
     refine A_ready (i := 9) (rs := []) (by kernel_rfl) ?_
     refine AllR.cons ?_ AllR.nil
     refine A_op0 (ls' := #[true, true, true, true, true, true, true, true, true, true, false]) rfl (by kernel_rfl) (T_storeN (vs := [(vB a193_.oK), (vI .i64 a193_.n), (vI .i64 a193_.most), a193_.list, a193_.vals]) rfl rfl z59 rfl (List.forall_mem_cons.2 ⟨rfl, (List.forall_mem_cons.2 ⟨rfl, (List.forall_mem_cons.2 ⟨rfl, (List.forall_mem_cons.2 ⟨(RS.one (he194_.2.2.1)), (List.forall_mem_cons.2 ⟨(RS.one (he194_.2.2.2)), (fun _ h__ => by cases h__)⟩)⟩)⟩)⟩)⟩) H202_ 3 rfl (Nat.le_of_ble_eq_true (by rfl)) ?_)
     intro w205_ S207_ H206_
     have S208_ := Same.trans S204_ S207_
     refine ⟨⟨Holds.rd H206_ 1 rfl, Holds.rd H206_ 5 rfl, (Sub.trans' hs190_ (Holds.ro_at H206_ 0 rfl))⟩, ?_⟩
     have hq209_ := And.intro (Holds.rd H206_ 1 rfl) (And.intro (Holds.rd H206_ 5 rfl) ((Sub.trans' hs190_ (Holds.ro_at H206_ 0 rfl))))
     refine A_tk 10 (v := (vB true)) rfl (by kernel_rfl) (fun w hS => x_assign rfl) hq209_ ?_
     refine A_done (by kernel_rfl) ?_
     refine (X_then (hK183_ _ _ ?_))
     refine C_ret ?_
     refine R_any (v := (vT #[(vA #[(vB x186_.oK), (vI .i64 x186_.n), (vI .i64 x186_.most), x186_.list, x186_.vals]), (vA #[(vB a193_.oK), (vI .i64 a193_.n), (vI .i64 a193_.most), a193_.list, a193_.vals]), (vB true)])) (run_results3 rfl ⟨_, rfl, load_resN Try.underlying59 rfl z59 rfl (vs := [(vB x186_.oK), (vI .i64 x186_.n), (vI .i64 x186_.most), x186_.list, x186_.vals]) (Holds.cl_cells H206_ 4 rfl 0 rfl)⟩ ⟨_, rfl, load_resN Try.underlying59 rfl z59 rfl (vs := [(vB a193_.oK), (vI .i64 a193_.n), (vI .i64 a193_.most), a193_.list, a193_.vals]) (Holds.cl_cells H206_ 3 rfl 0 rfl)⟩ rfl) ?_
     have H210_ := Holds.pkF H206_ [0] 5
     exact ⟨R191_, _, _, rfl, hz_R_R191_, (.inr ⟨x186_, a193_, (⟨false, 0, List.map spanOf (visS o.n (List.filter (meetK ord (o.sn.lo ord) (o.sn.hi ord)) (List.map (PN.ie ord) P26_))), List.map IE.val (visS o.n (List.filter (meetK ord (o.sn.lo ord) (o.sn.hi ord)) (List.map (PN.ie ord) P26_)))⟩ : TAx), (⟨false, 0, List.map PN.sn (visL o.n (List.filter (fun x => sMeet ord x.sn o.sn) P26_)), List.map PN.val (visL o.n (List.filter (fun x => sMeet ord x.sn o.sn) P26_))⟩ : TAx), rfl, rfl, (by have h__ := AnsTo.last ((he174_.mono hs190_)) hx187_; rw [show tdoX ord (tdoAll ord O23_) (TO.bare o) = (⟨false, 0, List.map spanOf (visS o.n (List.filter (meetK ord (o.sn.lo ord) (o.sn.hi ord)) (tdoAll ord O23_))), List.map IE.val (visS o.n (List.filter (meetK ord (o.sn.lo ord) (o.sn.hi ord)) (tdoAll ord O23_)))⟩ : TAx) by unfold tdoX; rw [if_neg (by have h__ : (TO.bare o).q.kind = 5 := hk; omega), if_pos (show (TO.bare o).q.kind = 5 from hk)]; rfl, hF_.t] at h__; exact h__), (he194_), (vis_agree o.n hF_.z hpl_)⟩), S208_, H210_⟩
end Go.Proofs.Ytlnihndjepjagaa
set_option linter.unusedVariables false
set_option linter.unusedSimpArgs false
namespace Go.Proofs.Ytlnihndjepjagaa
open Go Go.RowKit Gw
open Go.Value renaming int → vI, bool → vB, slice → vS, pointer → vP, agg → vA, tuple → vT

set_option maxHeartbeats 8000000 in
theorem fnTreeVisit (R : HP) (ord : Int) (v : Value) (l : List SN) (q : SN) (n : Int) (hv : RS R 5 v (List.length l) (l.flatMap SN.cells)) :
    Tri Try.prog 9 #[(vI .i64 ord), v, (vA #[(Value.string q.in__Begin), (Value.string q.in__End), (vB q.in__Point), (vI .i64 q.from_), (vI .i64 q.till)]), (vI .i64 n)] R [] (fun v__ post__ => v__ = (vB true) ∧ post__ = []) := by
 refine Tri.into (n := 44) (al := [(vI .i64 ord), v, (vA #[(Value.string q.in__Begin), (Value.string q.in__End), (vB q.in__Point), (vI .i64 q.from_), (vI .i64 q.till)]), (vI .i64 n)]) Try.func9 rfl Try.ntmps9 rfl rfl fun w F H => ?_
 refine C_seq (fun _ hK1_ => C_reg ?_)
 refine S_list (T_box (v := (vA #[(Value.string q.in__Begin), (Value.string q.in__End), (vB q.in__Point), (vI .i64 q.from_), (vI .i64 q.till)])) rfl H ?_)
 intro b2_ w3_ S5_ H4_
 have S6_ := Same.trans (Same.refl w) S5_
 refine sv (v := (vB false)) (x_assign rfl) ?_
 refine wn (hK1_ _ _ ?_)
 refine C_seq (fun _ hK7_ => ?_)
 refine C_seq (fun _ hK8_ => C_reg ?_)
 refine sv (v := v) (x_move rfl) ?_
 have H12_ := ((Holds.bring H4_ 1 rfl) :)
 refine S_list (T_call (al := [v]) (pre := []) rfl rfl cb28 (lwFits38 R v l hv) H12_ ?_)
 rintro v9_ p16_ w13_ ⟨b10_, rfl, rfl, he11_⟩ S15_ H14_
 have S17_ := Same.trans S6_ S15_
 refine sv (v := (vB (!b10_))) (x_not rfl) ?_
 refine sm (vB (!b10_)) ?_
 rcases Bool.eq_false_or_eq_true (!b10_) with c18_t | c18_f
 ·skip
  refine S_no (j := 3) (dj := 15) (b := true) rfl rfl (congrArg vB c18_t) (by decide) ?_
  refine S_no (j := 3) (dj := 15) (b := true) rfl rfl (congrArg vB c18_t) (by decide) ?_
  refine S_no (j := 3) (dj := 15) (b := true) rfl rfl (congrArg vB c18_t) (by decide) ?_
  refine S_list (T_pickT (v := (vB true)) (congrArg vB c18_t) rfl ?_)
  refine wn (hK8_ _ _ ?_)
  refine C_condT rfl ?_
  refine C_seq (fun _ hK19_ => C_reg ?_)
  refine sv (v := (vB true)) (x_assign rfl) ?_
  refine wn (hK19_ _ _ ?_)
  refine C_ret (X_thenR ?_)
  refine R_any (v := (vB true)) (run_results1 rfl rfl) ?_
  have H20_ := Holds.pkF H14_ [0] 1
  exact ⟨_, _, rfl, ⟨rfl, rfl⟩, S17_, H20_⟩
 ·skip
  refine S_yes (j := 3) (dj := 15) (b := false) rfl rfl (congrArg vB c18_f) (T_val (v := (vA #[(Value.string q.in__Begin), (Value.string q.in__End), (vB q.in__Point), (vI .i64 q.from_), (vI .i64 q.till)])) (x_loadN (vs := [(Value.string q.in__Begin), (Value.string q.in__End), (vB q.in__Point), (vI .i64 q.from_), (vI .i64 q.till)]) rfl Try.underlying44 rfl z44 rfl (Rd.cells (Holds.rd H14_ 1 rfl) 0 rfl)) ?_)
  refine S_yes (j := 3) (dj := 15) (b := false) rfl rfl (congrArg vB c18_f) (T_call (al := [(vA #[(Value.string q.in__Begin), (Value.string q.in__End), (vB q.in__Point), (vI .i64 q.from_), (vI .i64 q.till)])]) (pre := []) rfl rfl cb29 (lwFits36 R q) H14_ ?_)
  rintro v21_ p27_ w24_ ⟨b22_, rfl, rfl, he23_⟩ S26_ H25_
  have S28_ := Same.trans S17_ S26_
  refine S_yes (j := 3) (dj := 15) (b := false) rfl rfl (congrArg vB c18_f) (T_val (v := (vB (!b22_))) (x_not rfl) ?_)
  refine S_list (T_pickF (v := (vB (!b22_))) (congrArg vB c18_f) rfl ?_)
  refine wn (hK8_ _ _ ?_)
  refine C_cond (b := !b22_) rfl (fun c29_t => ?_) (fun c29_f => ?_)
  ·skip
   refine C_seq (fun _ hK30_ => C_reg ?_)
   refine sv (v := (vB true)) (x_assign rfl) ?_
   refine wn (hK30_ _ _ ?_)
   refine C_ret (X_thenR ?_)
   refine R_any (v := (vB true)) (run_results1 rfl rfl) ?_
   have H31_ := Holds.pkF H25_ [0] 1
   exact ⟨_, _, rfl, ⟨rfl, rfl⟩, S28_, H31_⟩
  ·skip
   refine C_skip (X_then (hK7_ _ _ ?_))
   refine C_seq (fun _ hK32_ => ?_)
   refine C_seq (fun _ hK33_ => C_reg ?_)
   refine sm (vI .i64 n) ?_
   refine sv (v := (vB (decide (n < 1)))) (x_bin rfl rfl rfl) ?_
   refine wn (hK33_ _ _ ?_)
   refine C_cond (b := decide (n < 1)) rfl (fun c34_t => ?_) (fun c34_f => ?_)
   ·have c34_tp : n < 1 := of_decide_eq_true c34_t
    refine C_seq (fun _ hK35_ => C_reg ?_)
    refine S_list (T_call (al := []) (pre := []) rfl rfl cb32 (lwLive R) H25_ ?_)
    rintro v36_ p40_ w37_ ⟨rfl, rfl⟩ S39_ H38_
    have S41_ := Same.trans S28_ S39_
    refine sv (v := (vB true)) (x_assign rfl) ?_
    refine wn (hK35_ _ _ ?_)
    refine C_ret (X_thenR ?_)
    refine R_any (v := (vB true)) (run_results1 rfl rfl) ?_
    have H42_ := Holds.pkF H38_ [0] 1
    exact ⟨_, _, rfl, ⟨rfl, rfl⟩, S41_, H42_⟩
   ·have c34_fp : ¬ (n < 1) := of_decide_eq_false c34_f
    refine C_skip (X_then (hK32_ _ _ ?_))
    refine C_seq (fun _ hK43_ => C_reg ?_)
    refine sm (vI .i64 ord) ?_
    refine sv (v := v) (x_move rfl) ?_
    refine sv (v := (vA #[(Value.string q.in__Begin), (Value.string q.in__End), (vB q.in__Point), (vI .i64 q.from_), (vI .i64 q.till)])) (x_loadN (vs := [(Value.string q.in__Begin), (Value.string q.in__End), (vB q.in__Point), (vI .i64 q.from_), (vI .i64 q.till)]) rfl Try.underlying44 rfl z44 rfl (Rd.cells (Holds.rd H25_ 1 rfl) 0 rfl)) ?_
    refine sm (vI .i64 n) ?_
    refine sv (v := (vA #[(vI .i64 5), (Value.string q.in__Begin), (Value.string q.in__End), (vB q.in__Point), (vI .i64 q.from_), (vI .i64 q.till), (vI .i64 0), (vI .i64 n), (vS none 0 0), (vS none 0 0)])) (by kernel_rfl) ?_
    have hf8_ := he11_ (by simpa using c18_f)
    have hf6_ := he23_ (by simpa using c29_f)
    refine S_list (T_callG (al := [(vI .i64 ord), v, (vA #[(vI .i64 ((⟨5, q.in__Begin, q.in__End, q.in__Point, q.from_, q.till, 0, n, .slice none 0 0, .slice none 0 0⟩ : TO).kind)), (Value.string ((⟨5, q.in__Begin, q.in__End, q.in__Point, q.from_, q.till, 0, n, .slice none 0 0, .slice none 0 0⟩ : TO).in__In_Begin)), (Value.string ((⟨5, q.in__Begin, q.in__End, q.in__Point, q.from_, q.till, 0, n, .slice none 0 0, .slice none 0 0⟩ : TO).in__In_End)), (vB ((⟨5, q.in__Begin, q.in__End, q.in__Point, q.from_, q.till, 0, n, .slice none 0 0, .slice none 0 0⟩ : TO).in__In_Point)), (vI .i64 ((⟨5, q.in__Begin, q.in__End, q.in__Point, q.from_, q.till, 0, n, .slice none 0 0, .slice none 0 0⟩ : TO).in__From)), (vI .i64 ((⟨5, q.in__Begin, q.in__End, q.in__Point, q.from_, q.till, 0, n, .slice none 0 0, .slice none 0 0⟩ : TO).in__Till)), (vI .i64 ((⟨5, q.in__Begin, q.in__End, q.in__Point, q.from_, q.till, 0, n, .slice none 0 0, .slice none 0 0⟩ : TO).val)), (vI .i64 ((⟨5, q.in__Begin, q.in__End, q.in__Point, q.from_, q.till, 0, n, .slice none 0 0, .slice none 0 0⟩ : TO).n)), (vS none 0 0), (vS none 0 0)])]) (pre := []) rfl (lcons rfl (lcons rfl (lcons (congrArg (fun l => vA (List.toArray l)) (lcons (congrArg (vI .i64) ((by first | rfl | omega | (simp; done) | (simp; omega)) : 5 = (⟨5, q.in__Begin, q.in__End, q.in__Point, q.from_, q.till, 0, n, .slice none 0 0, .slice none 0 0⟩ : TO).kind)) (lcons (congrArg Value.string ((by first | rfl | omega | (simp; done) | (simp; omega)) : q.in__Begin = ((⟨5, q.in__Begin, q.in__End, q.in__Point, q.from_, q.till, 0, n, .slice none 0 0, .slice none 0 0⟩ : TO).in__In_Begin))) (lcons (congrArg Value.string ((by first | rfl | omega | (simp; done) | (simp; omega)) : q.in__End = ((⟨5, q.in__Begin, q.in__End, q.in__Point, q.from_, q.till, 0, n, .slice none 0 0, .slice none 0 0⟩ : TO).in__In_End))) (lcons (congrArg vB ((by first | rfl | omega | (simp; done) | (simp; omega)) : q.in__Point = ((⟨5, q.in__Begin, q.in__End, q.in__Point, q.from_, q.till, 0, n, .slice none 0 0, .slice none 0 0⟩ : TO).in__In_Point))) (lcons (congrArg (vI .i64) ((by first | rfl | omega | (simp; done) | (simp; omega)) : q.from_ = (⟨5, q.in__Begin, q.in__End, q.in__Point, q.from_, q.till, 0, n, .slice none 0 0, .slice none 0 0⟩ : TO).in__From)) (lcons (congrArg (vI .i64) ((by first | rfl | omega | (simp; done) | (simp; omega)) : q.till = (⟨5, q.in__Begin, q.in__End, q.in__Point, q.from_, q.till, 0, n, .slice none 0 0, .slice none 0 0⟩ : TO).in__Till)) (lcons (congrArg (vI .i64) ((by first | rfl | omega | (simp; done) | (simp; omega)) : 0 = (⟨5, q.in__Begin, q.in__End, q.in__Point, q.from_, q.till, 0, n, .slice none 0 0, .slice none 0 0⟩ : TO).val)) (lcons (congrArg (vI .i64) ((by first | rfl | omega | (simp; done) | (simp; omega)) : n = (⟨5, q.in__Begin, q.in__End, q.in__Point, q.from_, q.till, 0, n, .slice none 0 0, .slice none 0 0⟩ : TO).n)) rfl))))))))) rfl))) cb30 (lwAsk5 R ord v l (⟨5, q.in__Begin, q.in__End, q.in__Point, q.from_, q.till, 0, n, .slice none 0 0, .slice none 0 0⟩ : TO) hv (hf8_.2) (hf8_.1) (hf6_) (rfl)) H25_ ?_)
    rintro R45_ v46_ p57_ w54_ hs44_ hq58_ S56_ H55_
    rcases hq58_ with ⟨rfl, rfl⟩ | ⟨a47_, b48_, x49_, y50_, rfl, rfl, he51_, he52_, he53_⟩
    ·skip
     have S59_ := Same.trans S28_ S56_
     refine sm (vT #[(vA #[(vB false), (vI .i64 0), (vI .i64 0), (vS none 0 0), (vS none 0 0)]), (vA #[(vB false), (vI .i64 0), (vI .i64 0), (vS none 0 0), (vS none 0 0)]), (vB false)]) ?_
     refine sv (v := (vA #[(vB false), (vI .i64 0), (vI .i64 0), (vS none 0 0), (vS none 0 0)])) (by kernel_rfl) ?_
     refine sv (v := (vA #[(vB false), (vI .i64 0), (vI .i64 0), (vS none 0 0), (vS none 0 0)])) (by kernel_rfl) ?_
     refine sv (v := (vB false)) (by kernel_rfl) ?_
     refine S_list (T_alloc z59 H55_ ?_)
     intro b61_ w62_ S64_ H63_
     have S65_ := Same.trans S59_ S64_
     refine S_list (T_alloc z59 H63_ ?_)
     intro b66_ w67_ S69_ H68_
     have S70_ := Same.trans S65_ S69_
     refine S_list0 (T_storeN (vs := [(vB false), (vI .i64 0), (vI .i64 0), (vS none 0 0), (vS none 0 0)]) rfl rfl z59 rfl (by simp [Value.oneCell']) H68_ 1 rfl (Nat.le_of_ble_eq_true (by rfl)) ?_)
     intro w71_ S73_ H72_
     have S74_ := Same.trans S70_ S73_
     refine S_list0 (T_storeN (vs := [(vB false), (vI .i64 0), (vI .i64 0), (vS none 0 0), (vS none 0 0)]) rfl rfl z59 rfl (by simp [Value.oneCell']) H72_ 0 rfl (Nat.le_of_ble_eq_true (by rfl)) ?_)
     intro w75_ S77_ H76_
     have S78_ := Same.trans S74_ S77_
     refine sv (v := (vB false)) (x_assign rfl) ?_
     refine wn (hK43_ _ _ ?_)
     refine C_seq (fun _ hK79_ => C_reg ?_)
     refine sm (vB false) ?_
     refine sv (v := (vB true)) (x_cast (x_not (b := false) rfl) rfl) ?_
     refine sm (vB true) ?_
     refine S_no (j := 2) (dj := 35) (b := true) rfl rfl rfl (by decide) ?_
     refine S_no (j := 2) (dj := 35) (b := true) rfl rfl rfl (by decide) ?_
     refine S_no (j := 2) (dj := 35) (b := true) rfl rfl rfl (by decide) ?_
     refine S_no (j := 2) (dj := 35) (b := true) rfl rfl rfl (by decide) ?_
     refine S_list (T_pickT (v := (vB true)) rfl rfl ?_)
     refine sm (vB true) ?_
     have H81_ := ((Holds.bring H76_ 2 rfl) :)
     refine S_yes (j := 8) (dj := 41) (b := true) rfl rfl rfl (T_call (al := []) (pre := []) rfl rfl cb32 (lwLive R45_) H81_ ?_)
     rintro v80_ p85_ w82_ ⟨rfl, rfl⟩ S84_ H83_
     have S86_ := Same.trans S78_ S84_
     refine S_list (T_pickT (v := (vB true)) rfl rfl ?_)
     refine sv (v := (vB true)) (x_assign rfl) ?_
     refine wn (hK79_ _ _ ?_)
     refine C_ret ?_
     refine R_any (v := (vB true)) (run_results1 rfl rfl) ?_
     have H87_ : Holds w82_ (ro R :: cl b66_ 59 [(vB false), (vI .i64 0), (vI .i64 0), (vS none 0 0), (vS none 0 0)] :: cl b61_ 59 [(vB false), (vI .i64 0), (vI .i64 0), (vS none 0 0), (vS none 0 0)] :: cl b2_ 44 [(Value.string q.in__Begin), (Value.string q.in__End), (vB q.in__Point), (vI .i64 q.from_), (vI .i64 q.till)] :: F) := Holds.ro_less H83_ hs44_
     have H88_ := Holds.pkF H87_ [0] 3
     exact ⟨_, _, rfl, ⟨rfl, rfl⟩, S86_, H88_⟩
    ·skip
     have S60_ := Same.trans S28_ S56_
     refine sm (vT #[(vA #[(vB a47_.oK), (vI .i64 a47_.n), (vI .i64 a47_.most), a47_.list, a47_.vals]), (vA #[(vB b48_.oK), (vI .i64 b48_.n), (vI .i64 b48_.most), b48_.list, b48_.vals]), (vB true)]) ?_
     refine sv (v := (vA #[(vB a47_.oK), (vI .i64 a47_.n), (vI .i64 a47_.most), a47_.list, a47_.vals])) (by kernel_rfl) ?_
     refine sv (v := (vA #[(vB b48_.oK), (vI .i64 b48_.n), (vI .i64 b48_.most), b48_.list, b48_.vals])) (by kernel_rfl) ?_
     refine sv (v := (vB true)) (by kernel_rfl) ?_
     refine S_list (T_alloc z59 H55_ ?_)
     intro b89_ w90_ S92_ H91_
     have S93_ := Same.trans S60_ S92_
     refine S_list (T_alloc z59 H91_ ?_)
     intro b94_ w95_ S97_ H96_
     have S98_ := Same.trans S93_ S97_
     refine S_list0 (T_storeN (vs := [(vB a47_.oK), (vI .i64 a47_.n), (vI .i64 a47_.most), a47_.list, a47_.vals]) rfl rfl z59 rfl (List.forall_mem_cons.2 ⟨rfl, (List.forall_mem_cons.2 ⟨rfl, (List.forall_mem_cons.2 ⟨rfl, (List.forall_mem_cons.2 ⟨(RS.one (he51_.2.2.1)), (List.forall_mem_cons.2 ⟨(RS.one (he51_.2.2.2)), (fun _ h__ => by cases h__)⟩)⟩)⟩)⟩)⟩) H96_ 1 rfl (Nat.le_of_ble_eq_true (by rfl)) ?_)
     intro w99_ S101_ H100_
     have S102_ := Same.trans S98_ S101_
     refine S_list0 (T_storeN (vs := [(vB b48_.oK), (vI .i64 b48_.n), (vI .i64 b48_.most), b48_.list, b48_.vals]) rfl rfl z59 rfl (List.forall_mem_cons.2 ⟨rfl, (List.forall_mem_cons.2 ⟨rfl, (List.forall_mem_cons.2 ⟨rfl, (List.forall_mem_cons.2 ⟨(RS.one (he52_.2.2.1)), (List.forall_mem_cons.2 ⟨(RS.one (he52_.2.2.2)), (fun _ h__ => by cases h__)⟩)⟩)⟩)⟩)⟩) H100_ 0 rfl (Nat.le_of_ble_eq_true (by rfl)) ?_)
     intro w103_ S105_ H104_
     have S106_ := Same.trans S102_ S105_
     refine sv (v := (vB true)) (x_assign rfl) ?_
     refine wn (hK43_ _ _ ?_)
     refine C_seq (fun _ hK107_ => C_reg ?_)
     refine sm (vB true) ?_
     refine sv (v := (vB false)) (x_cast (x_not (b := true) rfl) rfl) ?_
     refine sm (vB false) ?_
     refine S_yes (j := 2) (dj := 35) (b := false) rfl rfl rfl (T_val (v := (vI .i64 ord)) (x_move rfl) ?_)
     refine S_yes (j := 2) (dj := 35) (b := false) rfl rfl rfl (T_val (v := (vA #[(vB a47_.oK), (vI .i64 a47_.n), (vI .i64 a47_.most), a47_.list, a47_.vals])) (x_loadN (vs := [(vB a47_.oK), (vI .i64 a47_.n), (vI .i64 a47_.most), a47_.list, a47_.vals]) rfl Try.underlying59 rfl z59 rfl (Rd.cells (Holds.rd H104_ 1 rfl) 0 rfl)) ?_)
     refine S_yes (j := 2) (dj := 35) (b := false) rfl rfl rfl (T_val (v := (vA #[(vB b48_.oK), (vI .i64 b48_.n), (vI .i64 b48_.most), b48_.list, b48_.vals])) (x_loadN (vs := [(vB b48_.oK), (vI .i64 b48_.n), (vI .i64 b48_.most), b48_.list, b48_.vals]) rfl Try.underlying59 rfl z59 rfl (Rd.cells (Holds.rd H104_ 0 rfl) 0 rfl)) ?_)
     have H109_ := ((Holds.bring H104_ 2 rfl) :)
     refine S_yes (j := 2) (dj := 35) (b := false) rfl rfl rfl (T_call (al := [(vI .i64 ord), (vA #[(vB a47_.oK), (vI .i64 a47_.n), (vI .i64 a47_.most), a47_.list, a47_.vals]), (vA #[(vB b48_.oK), (vI .i64 b48_.n), (vI .i64 b48_.most), b48_.list, b48_.vals])]) (pre := []) rfl rfl cb31 (lwSame R45_ ord a47_ b48_ x49_ y50_ (he51_) (he52_) (he53_)) H109_ ?_)
     rintro v108_ p113_ w110_ ⟨rfl, rfl⟩ S112_ H111_
     have S114_ := Same.trans S106_ S112_
     refine S_list (T_pickF (v := (vB true)) rfl rfl ?_)
     refine sm (vB true) ?_
     refine S_yes (j := 8) (dj := 41) (b := true) rfl rfl rfl (T_call (al := []) (pre := []) rfl rfl cb32 (lwLive R45_) H111_ ?_)
     rintro v115_ p119_ w116_ ⟨rfl, rfl⟩ S118_ H117_
     have S120_ := Same.trans S114_ S118_
     refine S_list (T_pickT (v := (vB true)) rfl rfl ?_)
     refine sv (v := (vB true)) (x_assign rfl) ?_
     refine wn (hK107_ _ _ ?_)
     refine C_ret ?_
     refine R_any (v := (vB true)) (run_results1 rfl rfl) ?_
     have H121_ : Holds w116_ (ro R :: cl b94_ 59 [(vB b48_.oK), (vI .i64 b48_.n), (vI .i64 b48_.most), b48_.list, b48_.vals] :: cl b89_ 59 [(vB a47_.oK), (vI .i64 a47_.n), (vI .i64 a47_.most), a47_.list, a47_.vals] :: cl b2_ 44 [(Value.string q.in__Begin), (Value.string q.in__End), (vB q.in__Point), (vI .i64 q.from_), (vI .i64 q.till)] :: F) := Holds.ro_less H117_ hs44_
     have H122_ := Holds.pkF H121_ [0] 3
     exact ⟨_, _, rfl, ⟨rfl, rfl⟩, S120_, H122_⟩
end Go.Proofs.Ytlnihndjepjagaa
