/- The smallest life of a key is told. -/
import Derived.Test.YtiblemgccgbhoaaKyZ0
set_option linter.unusedVariables false
set_option linter.unusedSimpArgs false
namespace Go.Proofs.Ytiblemgccgbhoaa
open Go Go.RowKit Gw

def liveO : List KO := [⟨1, 2, 0, 0, 0, 0, 0⟩, ⟨5, 0, 0, 0, 0, 0, 2⟩]
def liveR : List KM := [⟨true, 0, 0, 0, 0, 0, [], 2, 0, [⟨1, 2, 0, [⟨2, 0⟩]⟩]⟩, ⟨true, 2, 0, 2, 0, 1, [], 2, 0, [⟨1, 2, 0, [⟨2, 0⟩]⟩]⟩]
theorem live_run : iRun (0, 0, ([] : List GN).map GN.m) [] liveO = some liveR := by
  simp [iRun, liveO, liveR, iDo, vLessB, iPut, iNew, iAdd, gLast, iEmp, iGet, iFind, iFindN, gBeg, gEnd, rLastN, kmGet, KM.to, kmOk]
theorem live_at {A : List KA} (h : A.map KA.m = liveR) : A.length = 2 ∧ ∀ x, A[1]? = some x → x.oK = true ∧ x.ver = 1 ∧ x.mod_Main = 2 ∧ x.mod_Sub = 0 := by
  refine ⟨by have := congrArg List.length h; simpa [liveR] using this, fun x hx => ?_⟩
  have e := congrArg (·[1]?) h
  simp only [List.getElem?_map, hx, Option.map_some] at e
  have e2 : x.m = ⟨true, 2, 0, 2, 0, 1, [], 2, 0, [⟨1, 2, 0, [⟨2, 0⟩]⟩]⟩ := Option.some.inj e
  exact ⟨congrArg KM.ok e2, congrArg KM.ver e2, congrArg KM.mm e2, congrArg KM.ms e2⟩

set_option maxHeartbeats 400000 in
theorem kLive (R : HP) :
    Tri Try.prog 7 #[] R [] (fun v__ post__ => v__ = (Value.bool true) ∧ post__ = []) := by
 refine Tri.into (n := 39) (al := []) Try.func7 rfl Try.ntmps7 rfl rfl fun w F H => ?_
 refine C_seq (fun K1_ hK1_ => ?_)
 refine C_reg ?_
 refine S_list (T_val (v := (Value.bool false)) (x_assign rfl) ?_)
 refine wpList_nil ?_
 refine (X_then (hK1_ _ _ ?_))
 clear hK1_
 refine C_seq (fun K2_ hK2_ => ?_)
 refine C_reg ?_
 refine S_list (T_val (v := (Value.agg #[(Value.int .i64 0), (Value.int .i64 0), (Value.slice none 0 0)])) (by kernel_rfl) ?_)
 refine S_list (T_val (v := (Value.agg #[(Value.int .i64 2), (Value.int .i64 0)])) (by kernel_rfl) ?_)
 refine S_list (T_val (v := (Value.agg #[(Value.int .i64 1), (Value.int .i64 2), (Value.int .i64 0), (Value.int .i64 0), (Value.int .i64 0), (Value.int .i64 0), (Value.int .i64 0)])) (by kernel_rfl) ?_)
 refine S_list (T_val (v := (Value.agg #[(Value.int .i64 5), (Value.int .i64 0), (Value.int .i64 0), (Value.int .i64 0), (Value.int .i64 0), (Value.int .i64 0), (Value.int .i64 2)])) (by kernel_rfl) ?_)
 refine S_list (T_new (obj := .cells #[(Value.int .i64 1), (Value.int .i64 2), (Value.int .i64 0), (Value.int .i64 0), (Value.int .i64 0), (Value.int .i64 0), (Value.int .i64 0), (Value.int .i64 5), (Value.int .i64 0), (Value.int .i64 0), (Value.int .i64 0), (Value.int .i64 0), (Value.int .i64 0), (Value.int .i64 2)] 39) (f := fun b__ => .slice (some ⟨b__, 0, none⟩) 2 2) (A := fun b__ => cl b__ 39 [(Value.int .i64 1), (Value.int .i64 2), (Value.int .i64 0), (Value.int .i64 0), (Value.int .i64 0), (Value.int .i64 0), (Value.int .i64 0), (Value.int .i64 5), (Value.int .i64 0), (Value.int .i64 0), (Value.int .i64 0), (Value.int .i64 0), (Value.int .i64 0), (Value.int .i64 2)]) (by kernel_rfl) (fun l h => h.alloc _ _) H ?_)
 intro b3_ w4_ S6_ H5_
 have S7_ := Same.trans (Same.refl w) S6_
 have H8_ := ((Holds.bring H5_ 1 rfl) :)
 replace H8_ : Holds w4_ (ro R :: cl b3_ 39 [(Value.int .i64 1), (Value.int .i64 2), (Value.int .i64 0), (Value.int .i64 0), (Value.int .i64 0), (Value.int .i64 0), (Value.int .i64 0), (Value.int .i64 5), (Value.int .i64 0), (Value.int .i64 0), (Value.int .i64 0), (Value.int .i64 0), (Value.int .i64 0), (Value.int .i64 2)] :: F) := H8_
 obtain ⟨R9_, hs10_, ⟨R11_, ha12_, hs13_⟩, H14_⟩ := Holds.gift H8_
 have hr15_ : RS R9_ 7 (Value.slice (some ⟨b3_, 0, none⟩) 2 2) 2 [(Value.int .i64 1), (Value.int .i64 2), (Value.int .i64 0), (Value.int .i64 0), (Value.int .i64 0), (Value.int .i64 0), (Value.int .i64 0), (Value.int .i64 5), (Value.int .i64 0), (Value.int .i64 0), (Value.int .i64 0), (Value.int .i64 0), (Value.int .i64 0), (Value.int .i64 2)] := (RS.set_ (cl_RSn (sz := 7) ha12_ (Sub.rfl' _) (by rfl) (by omega)) rfl rfl).mono hs13_
 refine S_list (T_callG (al := [(Value.string (ByteArray.mk #[107])), (Value.agg #[(Value.int .i64 0), (Value.int .i64 0), ((Value.slice none 0 0))]), (Value.slice (some ⟨b3_, 0, none⟩) 2 2)]) (pre := []) rfl (lcons rfl (lcons (congrArg (fun l => Value.agg (List.toArray l)) (lcons rfl (lcons rfl (lcons (rfl : (Value.slice none 0 0) = ((Value.slice none 0 0))) rfl)))) rfl)) cb8 (kKey R9_ (ByteArray.mk #[107]) 0 0 (Value.slice none 0 0) (some ⟨b3_, 0, none⟩) 2 2 ([] : List GN) liveO 0 liveR (RS.nil R9_ 4) (fun x hx => by cases hx) hr15_ (by decide) (⟨Nat.le_refl 0, fun g hg => by cases hg⟩) (by first | assumption | omega) (live_run)) H14_ ?_)
 rintro R17_ v18_ p27_ w24_ hs16_ ⟨av19_, A20_, rfl, rfl, he21_, he22_, he23_⟩ S26_ H25_
 have S28_ := Same.trans S7_ S26_
 have hz_R_R17_ := Sub.trans' hs10_ hs16_
 obtain ⟨hal_, hax_⟩ := live_at he23_
 refine S_list (T_val (v := (Value.tuple #[av19_, (Value.bool true)])) (x_move rfl) ?_)
 refine S_list (T_val (v := av19_) (by kernel_rfl) ?_)
 refine S_list (T_val (v := (Value.bool true)) (by kernel_rfl) ?_)
 refine S_list (T_val (v := av19_) (x_assign rfl) ?_)
 refine S_list (T_val (v := (Value.bool true)) (x_assign rfl) ?_)
 refine wpList_nil ?_
 refine (X_then (hK2_ _ _ ?_))
 clear hK2_
 refine C_seq (fun K29_ hK29_ => ?_)
 refine C_reg ?_
 refine S_list (T_val (v := (Value.bool true)) (x_move rfl) ?_)
 refine S_list (T_val (v := (Value.bool true)) (x_move rfl) ?_)
 refine S_yes (j := 1) (dj := 13) (b := true) rfl rfl rfl (T_val (v := av19_) (x_move rfl) ?_)
 refine S_yes (j := 1) (dj := 13) (b := true) rfl rfl rfl (T_val (v := (Value.int .i64 ((List.length A20_) : Int))) (x_lenRS rfl he21_ Try.underlying24) ?_)
 refine S_yes (j := 1) (dj := 13) (b := true) rfl rfl rfl (T_val (v := (Value.bool (decide (((List.length A20_) : Int) = 2)))) (x_bin rfl rfl rfl) ?_)
 refine S_list (T_pickT (v := (Value.bool (decide (((List.length A20_) : Int) = 2)))) rfl rfl ?_)
 refine S_list (T_val (v := (Value.bool (decide (((List.length A20_) : Int) = 2)))) (x_move rfl) ?_)
 rcases Bool.eq_false_or_eq_true (decide (((List.length A20_) : Int) = 2)) with c30_t | c30_f
 ·have c30_tp : ((List.length A20_) : Int) = 2 := of_decide_eq_true c30_t
  refine S_yes (j := 6) (dj := 18) (b := true) rfl rfl (congrArg Value.bool c30_t) (T_val (v := av19_) (x_move rfl) ?_)
  obtain ⟨x31_, hx32_, hm33_⟩ := elem_at A20_ 1 (by omega)
  have hp34_ := he22_ x31_ hm33_
  obtain ⟨hx1_, hx2_, hx3_, hx4_⟩ := hax_ x31_ hx32_
  refine S_yes (j := 6) (dj := 18) (b := true) rfl rfl (congrArg Value.bool c30_t) (T_val (v := (Value.pointer (some ⟨(sb av19_), so av19_ + (10 + 0), none⟩))) (x_idxRS (v := av19_) rfl he21_ rfl Try.underlying24 z43 (by omega) (by omega) (by omega : _ = 1) rfl) ?_)
  refine S_yes (j := 6) (dj := 18) (b := true) rfl rfl (congrArg Value.bool c30_t) (T_val (v := (Value.pointer (some ⟨(sb av19_), so av19_ + (10 + 0), none⟩))) (by kernel_rfl) ?_)
  refine S_yes (j := 6) (dj := 18) (b := true) rfl rfl (congrArg Value.bool c30_t) (T_val (v := (Value.bool x31_.oK)) (x_load1 rfl Try.underlying4 rfl (RC.cell (RS.rc he21_) (Holds.ro_at H25_ 0 rfl) (j := 10 + 0) (u := (Value.bool x31_.oK)) (fm_cell KA.len hx32_ (i := 0) rfl))) ?_)
  refine S_list (T_pickT (v := (Value.bool x31_.oK)) (congrArg Value.bool c30_t) rfl ?_)
  refine S_list (T_val (v := (Value.bool x31_.oK)) (x_move rfl) ?_)
  rcases Bool.eq_false_or_eq_true (x31_.oK) with c35_t | c35_f
  ·skip
   refine S_yes (j := 12) (dj := 24) (b := true) rfl rfl (congrArg Value.bool c35_t) (T_val (v := av19_) (x_move rfl) ?_)
   refine S_yes (j := 12) (dj := 24) (b := true) rfl rfl (congrArg Value.bool c35_t) (T_val (v := (Value.pointer (some ⟨(sb av19_), so av19_ + (10 + 0), none⟩))) (x_idxRS (v := av19_) rfl he21_ rfl Try.underlying24 z43 (by omega) (by omega) (by omega : _ = 1) rfl) ?_)
   refine S_yes (j := 12) (dj := 24) (b := true) rfl rfl (congrArg Value.bool c35_t) (T_val (v := (Value.pointer (some ⟨(sb av19_), so av19_ + (10 + 5), none⟩))) (by kernel_rfl) ?_)
   refine S_yes (j := 12) (dj := 24) (b := true) rfl rfl (congrArg Value.bool c35_t) (T_val (v := (Value.int .i64 x31_.ver)) (x_load1 rfl Try.underlying2 rfl (RC.cell (RS.rc he21_) (Holds.ro_at H25_ 0 rfl) (j := 10 + 5) (u := (Value.int .i64 x31_.ver)) (fm_cell KA.len hx32_ (i := 5) rfl))) ?_)
   refine S_yes (j := 12) (dj := 24) (b := true) rfl rfl (congrArg Value.bool c35_t) (T_val (v := (Value.bool (decide (x31_.ver = 1)))) (x_bin rfl rfl rfl) ?_)
   refine S_list (T_pickT (v := (Value.bool (decide (x31_.ver = 1)))) (congrArg Value.bool c35_t) rfl ?_)
   refine S_list (T_val (v := (Value.bool (decide (x31_.ver = 1)))) (x_move rfl) ?_)
   rcases Bool.eq_false_or_eq_true (decide (x31_.ver = 1)) with c36_t | c36_f
   ·have c36_tp : x31_.ver = 1 := of_decide_eq_true c36_t
    refine S_yes (j := 19) (dj := 31) (b := true) rfl rfl (congrArg Value.bool c36_t) (T_val (v := av19_) (x_move rfl) ?_)
    refine S_yes (j := 19) (dj := 31) (b := true) rfl rfl (congrArg Value.bool c36_t) (T_val (v := (Value.pointer (some ⟨(sb av19_), so av19_ + (10 + 0), none⟩))) (x_idxRS (v := av19_) rfl he21_ rfl Try.underlying24 z43 (by omega) (by omega) (by omega : _ = 1) rfl) ?_)
    refine S_yes (j := 19) (dj := 31) (b := true) rfl rfl (congrArg Value.bool c36_t) (T_val (v := (Value.pointer (some ⟨(sb av19_), so av19_ + (10 + 1), none⟩))) (by kernel_rfl) ?_)
    refine S_yes (j := 19) (dj := 31) (b := true) rfl rfl (congrArg Value.bool c36_t) (T_val (v := (Value.agg #[(Value.int .i64 x31_.mod_Main), (Value.int .i64 x31_.mod_Sub)])) (x_loadN (vs := [(Value.int .i64 x31_.mod_Main), (Value.int .i64 x31_.mod_Sub)]) rfl Try.underlying31 rfl z31 rfl (RC.cells (RS.rc he21_) (Holds.ro_at H25_ 0 rfl) (10 + 1) (fm_cells KA.len hx32_ (i := 1) rfl))) ?_)
    refine S_yes (j := 19) (dj := 31) (b := true) rfl rfl (congrArg Value.bool c36_t) (T_val (v := (Value.agg #[(Value.int .i64 2), (Value.int .i64 0)])) (by kernel_rfl) ?_)
    refine S_yes (j := 19) (dj := 31) (b := true) rfl rfl (congrArg Value.bool c36_t) (T_val (v := (Value.bool ((decide (x31_.mod_Main = 2)) && ((decide (x31_.mod_Sub = 0)) && (true))))) (x_eqS rfl rfl (by kernel_rfl) (eq_struct Try.underlying31 (by kernel_rfl) (eqf_cons rfl (run_part1 Try.underlying2 rfl rfl) (run_part1 Try.underlying2 rfl rfl) (eq_int Try.underlying2) (eqf_cons rfl (run_part1 Try.underlying2 rfl rfl) (run_part1 Try.underlying2 rfl rfl) (eq_int Try.underlying2) (eqf_nil))))) ?_)
    refine S_list (T_pickT (v := (Value.bool ((decide (x31_.mod_Main = 2)) && ((decide (x31_.mod_Sub = 0)) && (true))))) (congrArg Value.bool c36_t) rfl ?_)
    refine S_list (T_val (v := (Value.bool ((decide (x31_.mod_Main = 2)) && ((decide (x31_.mod_Sub = 0)) && (true))))) (x_assign rfl) ?_)
    refine wpList_nil ?_
    refine (X_then (hK29_ _ _ ?_))
    clear hK29_
    refine C_ret ?_
    refine R_any (v := (Value.bool ((decide (x31_.mod_Main = 2)) && ((decide (x31_.mod_Sub = 0)) && (true))))) (run_results1 rfl rfl) ?_
    have H37_ : Holds w24_ (ro R :: F) := Holds.ro_less H25_ hz_R_R17_
    exact ⟨_, _, rfl, ⟨(congrArg Value.bool ((by simp_all) : ((decide (x31_.mod_Main = 2)) && ((decide (x31_.mod_Sub = 0)) && (true))) = true)), rfl⟩, S28_, H37_⟩
   ·have c36_fp : ¬ (x31_.ver = 1) := of_decide_eq_false c36_f
    simp_all
  ·skip
   simp_all
 ·have c30_fp : ¬ (((List.length A20_) : Int) = 2) := of_decide_eq_false c30_f
  simp_all
end Go.Proofs.Ytiblemgccgbhoaa
