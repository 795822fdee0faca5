/- Words, and proved steps, on which the proof leans. -/
import Derived.LaidEqlPtr
import Derived.Shelf.Sort.Plain
import Derived.Shelf.Slices.In.SortNone
import Derived.Test.YtlnihndjepjagaaProg
import Derived.Test.YtlnihndjepjagaaOf4
set_option linter.unusedVariables false
set_option linter.unusedSimpArgs false
namespace Go.Proofs.Ytlnihndjepjagaa
open Go Go.RowKit Gw Try
open Go.Value renaming int → vI, bool → vB, slice → vS, pointer → vP, agg → vA, tuple → vT

structure SN where
  in__Begin : ByteArray
  in__End : ByteArray
  in__Point : Bool
  from_ : Int
  till : Int
def SN.cells (x : SN) : List Value := [(Value.string x.in__Begin), (Value.string x.in__End), (vB x.in__Point), (vI .i64 x.from_), (vI .i64 x.till)]
theorem SN.len (x : SN) : x.cells.length = 5 := rfl

theorem if_ff {α : Type} (a b : α) : (if (false : Bool) = true then a else b) = b := rfl
theorem if_tt {α : Type} (a b : α) : (if (true : Bool) = true then a else b) = a := rfl
/-! ### Intervals as data -/
def SN.plain (s : SN) : SN := if s.in__Point = true then ⟨s.in__Begin, s.in__Begin ++ ByteArray.mk #[0], false, s.from_, s.till⟩ else s
def SN.lo (ord : Int) (s : SN) : EK := ek ord s.plain.in__Begin s.plain.from_
def SN.hi (ord : Int) (s : SN) : EK := ek ord s.plain.in__End s.plain.till
def sAhead (ord : Int) (s t : SN) : Bool := decide (ecm ord (s.lo ord) (t.lo ord) < 0) || (decide (ecm ord (s.lo ord) (t.lo ord) = 0) && decide (ecm ord (s.hi ord) (t.hi ord) < 0))
def sMeet (ord : Int) (s t : SN) : Bool := decide (ecm ord (s.lo ord) (t.hi ord) < 0) && decide (ecm ord (t.lo ord) (s.hi ord) < 0)
def sSame (ord : Int) (s t : SN) : Bool := !(sAhead ord s t) && !(sAhead ord t s)
attribute [irreducible] sAhead sMeet sSame
def EK.text : EK → ByteArray | .t x => ⟨x.toArray⟩ | .n _ => ⟨#[]⟩
def EK.num : EK → Int | .t _ => 0 | .n x => x
def ekSpan (b e : EK) : SN := ⟨b.text, e.text, false, b.num, e.num⟩
theorem text_t (s : ByteArray) : EK.text (.t s.data.toList) = s := by
  cases s; simp [EK.text]
theorem num_t (x : List UInt8) : EK.num (.t x) = 0 := rfl
theorem app0 (s : ByteArray) : (s ++ ByteArray.mk #[0]).data.toList = s.data.toList ++ [0] := by simp
theorem text_strN (A : List Int) : EK.text (.t (u8s A)) = strN A := by
  rw [← strN_u8s, text_t]


set_option maxHeartbeats 1600000 in
theorem spEnds (R : HP) (ord : Int) (s t : ByteArray) (a b : Int) :
    Tri Try.prog 77 #[(vI .i64 ord), (Value.string s), (Value.string t), (vI .i64 a), (vI .i64 b)] R [] (fun v__ post__ => v__ = (vI .i64 (ecm ord (ek ord s a) (ek ord t b))) ∧ post__ = []) := by
 refine Tri.into (n := 46) (al := [(vI .i64 ord), (Value.string s), (Value.string t), (vI .i64 a), (vI .i64 b)]) func77 rfl ntmps77 rfl rfl fun w F H => ?_
 refine cr fun _ hK1_ => ?_
 refine sv (v := (vI .i64 0)) (x_assign rfl) ?_
 refine wn (hK1_ _ _ ?_)
 refine cr fun _ hK2_ => ?_
 refine sm (Value.string s) ?_
 refine sm (Value.string t) ?_
 refine sv (v := (vB (Op.bytesLess s.toList t.toList))) (x_str rfl rfl rfl (by decide)) ?_
 refine sm (Value.string s) ?_
 refine sm (Value.string t) ?_
 refine sv (v := (vB (!(Op.bytesLess s.toList t.toList || s.toList == t.toList)))) (x_str rfl rfl rfl (by decide)) ?_
 refine sv (v := (vB (Op.bytesLess s.toList t.toList))) (x_assign rfl) ?_
 refine sv (v := (vB (!(Op.bytesLess s.toList t.toList || s.toList == t.toList)))) (x_assign rfl) ?_
 refine wn (hK2_ _ _ ?_)
 refine C_seq (fun _ hK3_ => ?_)
 refine C_block ?_
 refine cr fun _ hK4_ => ?_
 refine sm (vI .i64 ord) ?_
 refine sv (v := (vB (decide (ord = 3)))) (x_bin rfl rfl rfl) ?_
 refine sv (v := (vB (decide (ord = 3)))) (x_assign rfl) ?_
 refine wn (hK4_ _ _ ?_)
 refine C_cond (b := decide (ord = 3)) rfl (fun c5_t => ?_) (fun c5_f => ?_)
 ·have c5_tp : ord = 3 := of_decide_eq_true c5_t
  refine C_reg ?_
  refine sm (vI .i64 a) ?_
  refine sm (vI .i64 b) ?_
  refine sv (v := (vB (decide (a < b)))) (x_bin rfl rfl rfl) ?_
  refine sm (vI .i64 a) ?_
  refine sm (vI .i64 b) ?_
  refine sv (v := (vB (decide (b < a)))) (x_bin rfl rfl rfl) ?_
  refine sv (v := (vB (decide (a < b)))) (x_assign rfl) ?_
  refine sv (v := (vB (decide (b < a)))) (x_assign rfl) ?_
  refine wpList_nil (X_blkN (X_then (hK3_ _ _ ?_)))
  refine C_seq (fun _ hK6_ => ?_)
  refine C_block ?_
  refine cr fun _ hK7_ => ?_
  refine sm (vB (decide (a < b))) ?_
  refine sv (v := (vB (decide (a < b)))) (x_assign rfl) ?_
  refine wn (hK7_ _ _ ?_)
  refine C_cond (b := decide (a < b)) rfl (fun c8_t => ?_) (fun c8_f => ?_)
  ·have c8_tp : a < b := of_decide_eq_true c8_t
   refine cr fun _ hK9_ => ?_
   refine sv (v := (vI .i64 (-1))) (x_assign rfl) ?_
   refine wn (hK9_ _ _ ?_)
   refine C_ret (X_blkR (X_thenR ?_))
   refine R_any (v := (vI .i64 (-1))) (run_results1 rfl rfl) ?_
   exact ⟨_, _, rfl, ⟨(congrArg (vI .i64) ((by rw [ecm_ends]; unfold endsL endsM; rw [if_pos c5_tp, if_pos c5_tp, c8_t] <;> rfl) : -1 = ecm ord (ek ord s a) (ek ord t b))), rfl⟩, (Same.refl w), H⟩
  ·have c8_fp : ¬ (a < b) := of_decide_eq_false c8_f
   refine cr fun _ hK10_ => ?_
   refine sm (vB (decide (b < a))) ?_
   refine sv (v := (vB (decide (b < a)))) (x_assign rfl) ?_
   refine wn (hK10_ _ _ ?_)
   refine C_cond (b := decide (b < a)) rfl (fun c11_t => ?_) (fun c11_f => ?_)
   ·have c11_tp : b < a := of_decide_eq_true c11_t
    refine cr fun _ hK12_ => ?_
    refine sv (v := (vI .i64 1)) (x_assign rfl) ?_
    refine wn (hK12_ _ _ ?_)
    refine C_ret (X_blkR (X_thenR ?_))
    refine R_any (v := (vI .i64 1)) (run_results1 rfl rfl) ?_
    exact ⟨_, _, rfl, ⟨(congrArg (vI .i64) ((by rw [ecm_ends]; unfold endsL endsM; rw [if_pos c5_tp, if_pos c5_tp, c11_t, c8_f] <;> rfl) : 1 = ecm ord (ek ord s a) (ek ord t b))), rfl⟩, (Same.refl w), H⟩
   ·have c11_fp : ¬ (b < a) := of_decide_eq_false c11_f
    refine C_skip (X_blkN (X_then (hK6_ _ _ ?_)))
    refine cr fun _ hK13_ => ?_
    refine sv (v := (vI .i64 0)) (x_assign rfl) ?_
    refine wn (hK13_ _ _ ?_)
    refine C_ret ?_
    refine R_any (v := (vI .i64 0)) (run_results1 rfl rfl) ?_
    exact ⟨_, _, rfl, ⟨(congrArg (vI .i64) ((by rw [ecm_ends]; unfold endsL endsM; rw [if_pos c5_tp, if_pos c5_tp, c11_f, c8_f] <;> rfl) : 0 = ecm ord (ek ord s a) (ek ord t b))), rfl⟩, (Same.refl w), H⟩
 ·have c5_fp : ¬ (ord = 3) := of_decide_eq_false c5_f
  refine cr fun _ hK14_ => ?_
  refine sm (vI .i64 ord) ?_
  refine sv (v := (vB (decide (ord ≠ 0)))) (x_bin rfl rfl rfl) ?_
  refine sm (vB (decide (ord ≠ 0))) ?_
  rcases Bool.eq_false_or_eq_true (decide (ord ≠ 0)) with c15_t | c15_f
  ·have c15_tp : ord ≠ 0 := of_decide_eq_true c15_t
   refine S_yes (j := 2) (dj := 31) (b := true) rfl rfl (congrArg vB c15_t) (T_val (v := (Value.string s)) (x_move rfl) ?_)
   refine S_yes (j := 2) (dj := 31) (b := true) rfl rfl (congrArg vB c15_t) (T_val (v := (vB (s.toList == (ByteArray.mk #[]).toList))) (x_str rfl rfl rfl (by decide)) ?_)
   refine S_yes (j := 2) (dj := 31) (b := true) rfl rfl (congrArg vB c15_t) (T_val (v := (Value.string t)) (x_move rfl) ?_)
   refine S_yes (j := 2) (dj := 31) (b := true) rfl rfl (congrArg vB c15_t) (T_val (v := (vB (t.toList == (ByteArray.mk #[]).toList))) (x_str rfl rfl rfl (by decide)) ?_)
   refine S_yes (j := 2) (dj := 31) (b := true) rfl rfl (congrArg vB c15_t) (T_val (v := (vB (!((s.toList == (ByteArray.mk #[]).toList) == (t.toList == (ByteArray.mk #[]).toList))))) (x_neqB rfl rfl underlying4) ?_)
   refine S_list (T_pickT (v := (vB (!((s.toList == (ByteArray.mk #[]).toList) == (t.toList == (ByteArray.mk #[]).toList))))) (congrArg vB c15_t) rfl ?_)
   refine sv (v := (vB (!((s.toList == (ByteArray.mk #[]).toList) == (t.toList == (ByteArray.mk #[]).toList))))) (x_assign rfl) ?_
   refine wn (hK14_ _ _ ?_)
   refine C_cond (b := !((s.toList == (ByteArray.mk #[]).toList) == (t.toList == (ByteArray.mk #[]).toList))) rfl (fun c16_t => ?_) (fun c16_f => ?_)
   ·skip
    refine C_reg ?_
    refine sm (Value.string t) ?_
    refine sv (v := (vB (t.toList == (ByteArray.mk #[]).toList))) (x_str rfl rfl rfl (by decide)) ?_
    refine sm (Value.string s) ?_
    refine sv (v := (vB (s.toList == (ByteArray.mk #[]).toList))) (x_str rfl rfl rfl (by decide)) ?_
    refine sv (v := (vB (t.toList == (ByteArray.mk #[]).toList))) (x_assign rfl) ?_
    refine sv (v := (vB (s.toList == (ByteArray.mk #[]).toList))) (x_assign rfl) ?_
    refine wpList_nil (X_blkN (X_then (hK3_ _ _ ?_)))
    refine C_seq (fun _ hK17_ => ?_)
    refine C_block ?_
    refine cr fun _ hK18_ => ?_
    refine sm (vB (t.toList == (ByteArray.mk #[]).toList)) ?_
    refine sv (v := (vB (t.toList == (ByteArray.mk #[]).toList))) (x_assign rfl) ?_
    refine wn (hK18_ _ _ ?_)
    refine C_cond (b := t.toList == (ByteArray.mk #[]).toList) rfl (fun c19_t => ?_) (fun c19_f => ?_)
    ·skip
     refine cr fun _ hK20_ => ?_
     refine sv (v := (vI .i64 (-1))) (x_assign rfl) ?_
     refine wn (hK20_ _ _ ?_)
     refine C_ret (X_blkR (X_thenR ?_))
     refine R_any (v := (vI .i64 (-1))) (run_results1 rfl rfl) ?_
     exact ⟨_, _, rfl, ⟨(congrArg (vI .i64) ((by rw [ecm_ends]; unfold endsL endsM; rw [if_neg c5_fp, if_neg c5_fp, c15_t, Bool.true_and, c16_t, if_tt, if_tt, c19_t] <;> rfl) : -1 = ecm ord (ek ord s a) (ek ord t b))), rfl⟩, (Same.refl w), H⟩
    ·skip
     refine cr fun _ hK21_ => ?_
     refine sm (vB (s.toList == (ByteArray.mk #[]).toList)) ?_
     refine sv (v := (vB (s.toList == (ByteArray.mk #[]).toList))) (x_assign rfl) ?_
     refine wn (hK21_ _ _ ?_)
     refine C_cond (b := s.toList == (ByteArray.mk #[]).toList) rfl (fun c22_t => ?_) (fun c22_f => ?_)
     ·skip
      refine cr fun _ hK23_ => ?_
      refine sv (v := (vI .i64 1)) (x_assign rfl) ?_
      refine wn (hK23_ _ _ ?_)
      refine C_ret (X_blkR (X_thenR ?_))
      refine R_any (v := (vI .i64 1)) (run_results1 rfl rfl) ?_
      exact ⟨_, _, rfl, ⟨(congrArg (vI .i64) ((by rw [ecm_ends]; unfold endsL endsM; rw [if_neg c5_fp, if_neg c5_fp, c15_t, Bool.true_and, c16_t, if_tt, if_tt, c22_t, c19_f] <;> rfl) : 1 = ecm ord (ek ord s a) (ek ord t b))), rfl⟩, (Same.refl w), H⟩
     ·skip
      refine C_skip (X_blkN (X_then (hK17_ _ _ ?_)))
      refine cr fun _ hK24_ => ?_
      refine sv (v := (vI .i64 0)) (x_assign rfl) ?_
      refine wn (hK24_ _ _ ?_)
      refine C_ret ?_
      refine R_any (v := (vI .i64 0)) (run_results1 rfl rfl) ?_
      exact ⟨_, _, rfl, ⟨(congrArg (vI .i64) ((by rw [ecm_ends]; unfold endsL endsM; rw [if_neg c5_fp, if_neg c5_fp, c15_t, Bool.true_and, c16_t, if_tt, if_tt, c22_f, c19_f] <;> rfl) : 0 = ecm ord (ek ord s a) (ek ord t b))), rfl⟩, (Same.refl w), H⟩
   ·skip
    refine C_skip (X_blkN (X_then (hK3_ _ _ ?_)))
    refine C_seq (fun _ hK25_ => ?_)
    refine C_block ?_
    refine cr fun _ hK26_ => ?_
    refine sm (vB (Op.bytesLess s.toList t.toList)) ?_
    refine sv (v := (vB (Op.bytesLess s.toList t.toList))) (x_assign rfl) ?_
    refine wn (hK26_ _ _ ?_)
    refine C_cond (b := Op.bytesLess s.toList t.toList) rfl (fun c27_t => ?_) (fun c27_f => ?_)
    ·skip
     refine cr fun _ hK28_ => ?_
     refine sv (v := (vI .i64 (-1))) (x_assign rfl) ?_
     refine wn (hK28_ _ _ ?_)
     refine C_ret (X_blkR (X_thenR ?_))
     refine R_any (v := (vI .i64 (-1))) (run_results1 rfl rfl) ?_
     exact ⟨_, _, rfl, ⟨(congrArg (vI .i64) ((by rw [ecm_ends]; unfold endsL endsM; rw [if_neg c5_fp, if_neg c5_fp, c15_t, Bool.true_and, c16_f, if_ff, if_ff, c27_t] <;> rfl) : -1 = ecm ord (ek ord s a) (ek ord t b))), rfl⟩, (Same.refl w), H⟩
    ·skip
     refine cr fun _ hK29_ => ?_
     refine sm (vB (!(Op.bytesLess s.toList t.toList || s.toList == t.toList))) ?_
     refine sv (v := (vB (!(Op.bytesLess s.toList t.toList || s.toList == t.toList)))) (x_assign rfl) ?_
     refine wn (hK29_ _ _ ?_)
     refine C_cond (b := !(Op.bytesLess s.toList t.toList || s.toList == t.toList)) rfl (fun c30_t => ?_) (fun c30_f => ?_)
     ·skip
      refine cr fun _ hK31_ => ?_
      refine sv (v := (vI .i64 1)) (x_assign rfl) ?_
      refine wn (hK31_ _ _ ?_)
      refine C_ret (X_blkR (X_thenR ?_))
      refine R_any (v := (vI .i64 1)) (run_results1 rfl rfl) ?_
      exact ⟨_, _, rfl, ⟨(congrArg (vI .i64) ((by rw [ecm_ends]; unfold endsL endsM; rw [if_neg c5_fp, if_neg c5_fp, c15_t, Bool.true_and, c16_f, if_ff, if_ff, c30_t, c27_f] <;> rfl) : 1 = ecm ord (ek ord s a) (ek ord t b))), rfl⟩, (Same.refl w), H⟩
     ·skip
      refine C_skip (X_blkN (X_then (hK25_ _ _ ?_)))
      refine cr fun _ hK32_ => ?_
      refine sv (v := (vI .i64 0)) (x_assign rfl) ?_
      refine wn (hK32_ _ _ ?_)
      refine C_ret ?_
      refine R_any (v := (vI .i64 0)) (run_results1 rfl rfl) ?_
      exact ⟨_, _, rfl, ⟨(congrArg (vI .i64) ((by rw [ecm_ends]; unfold endsL endsM; rw [if_neg c5_fp, if_neg c5_fp, c15_t, Bool.true_and, c16_f, if_ff, if_ff, c30_f, c27_f] <;> rfl) : 0 = ecm ord (ek ord s a) (ek ord t b))), rfl⟩, (Same.refl w), H⟩
  ·have c15_fp : ¬ (ord ≠ 0) := of_decide_eq_false c15_f
   refine S_no (j := 2) (dj := 31) (b := false) rfl rfl (congrArg vB c15_f) (by decide) ?_
   refine S_no (j := 2) (dj := 31) (b := false) rfl rfl (congrArg vB c15_f) (by decide) ?_
   refine S_no (j := 2) (dj := 31) (b := false) rfl rfl (congrArg vB c15_f) (by decide) ?_
   refine S_no (j := 2) (dj := 31) (b := false) rfl rfl (congrArg vB c15_f) (by decide) ?_
   refine S_no (j := 2) (dj := 31) (b := false) rfl rfl (congrArg vB c15_f) (by decide) ?_
   refine S_list (T_pickF (v := (vB false)) (congrArg vB c15_f) rfl ?_)
   refine sv (v := (vB false)) (x_assign rfl) ?_
   refine wn (hK14_ _ _ ?_)
   refine C_condF rfl ?_
   refine C_skip (X_blkN (X_then (hK3_ _ _ ?_)))
   refine C_seq (fun _ hK33_ => ?_)
   refine C_block ?_
   refine cr fun _ hK34_ => ?_
   refine sm (vB (Op.bytesLess s.toList t.toList)) ?_
   refine sv (v := (vB (Op.bytesLess s.toList t.toList))) (x_assign rfl) ?_
   refine wn (hK34_ _ _ ?_)
   refine C_cond (b := Op.bytesLess s.toList t.toList) rfl (fun c35_t => ?_) (fun c35_f => ?_)
   ·skip
    refine cr fun _ hK36_ => ?_
    refine sv (v := (vI .i64 (-1))) (x_assign rfl) ?_
    refine wn (hK36_ _ _ ?_)
    refine C_ret (X_blkR (X_thenR ?_))
    refine R_any (v := (vI .i64 (-1))) (run_results1 rfl rfl) ?_
    exact ⟨_, _, rfl, ⟨(congrArg (vI .i64) ((by rw [ecm_ends]; unfold endsL endsM; rw [if_neg c5_fp, if_neg c5_fp, c15_f, Bool.false_and, if_ff, if_ff, c35_t] <;> rfl) : -1 = ecm ord (ek ord s a) (ek ord t b))), rfl⟩, (Same.refl w), H⟩
   ·skip
    refine cr fun _ hK37_ => ?_
    refine sm (vB (!(Op.bytesLess s.toList t.toList || s.toList == t.toList))) ?_
    refine sv (v := (vB (!(Op.bytesLess s.toList t.toList || s.toList == t.toList)))) (x_assign rfl) ?_
    refine wn (hK37_ _ _ ?_)
    refine C_cond (b := !(Op.bytesLess s.toList t.toList || s.toList == t.toList)) rfl (fun c38_t => ?_) (fun c38_f => ?_)
    ·skip
     refine cr fun _ hK39_ => ?_
     refine sv (v := (vI .i64 1)) (x_assign rfl) ?_
     refine wn (hK39_ _ _ ?_)
     refine C_ret (X_blkR (X_thenR ?_))
     refine R_any (v := (vI .i64 1)) (run_results1 rfl rfl) ?_
     exact ⟨_, _, rfl, ⟨(congrArg (vI .i64) ((by rw [ecm_ends]; unfold endsL endsM; rw [if_neg c5_fp, if_neg c5_fp, c15_f, Bool.false_and, if_ff, if_ff, c38_t, c35_f] <;> rfl) : 1 = ecm ord (ek ord s a) (ek ord t b))), rfl⟩, (Same.refl w), H⟩
    ·skip
     refine C_skip (X_blkN (X_then (hK33_ _ _ ?_)))
     refine cr fun _ hK40_ => ?_
     refine sv (v := (vI .i64 0)) (x_assign rfl) ?_
     refine wn (hK40_ _ _ ?_)
     refine C_ret ?_
     refine R_any (v := (vI .i64 0)) (run_results1 rfl rfl) ?_
     exact ⟨_, _, rfl, ⟨(congrArg (vI .i64) ((by rw [ecm_ends]; unfold endsL endsM; rw [if_neg c5_fp, if_neg c5_fp, c15_f, Bool.false_and, if_ff, if_ff, c38_f, c35_f] <;> rfl) : 0 = ecm ord (ek ord s a) (ek ord t b))), rfl⟩, (Same.refl w), H⟩

end Go.Proofs.Ytlnihndjepjagaa
set_option linter.unusedVariables false
set_option linter.unusedSimpArgs false
namespace Go.Proofs.Ytlnihndjepjagaa
open Go Go.RowKit Gw Try
open Go.Value renaming int → vI, bool → vB, slice → vS, pointer → vP, agg → vA, tuple → vT

end Go.Proofs.Ytlnihndjepjagaa
set_option linter.unusedVariables false
set_option linter.unusedSimpArgs false
namespace Go.Proofs.Ytlnihndjepjagaa
open Go Go.RowKit Gw Try
open Go.Value renaming int → vI, bool → vB, slice → vS, pointer → vP, agg → vA, tuple → vT

set_option maxHeartbeats 1600000 in
theorem spOut0 (R : HP) (a b : ByteArray) :
    Tri Try.prog 54 #[(vA #[(Value.iface 167 (Value.string a)), (Value.iface 167 (Value.string b))])] R [] (fun v__ post__ => v__ = (vA #[(Value.string a), (Value.string b), (vB false), (vI .i64 0), (vI .i64 0)]) ∧ post__ = []) := by
 refine Tri.into (n := 66) (al := [(vA #[(Value.iface 167 (Value.string a)), (Value.iface 167 (Value.string b))])]) func54 rfl ntmps54 rfl rfl fun w F H => ?_
 refine cr fun _ hK1_ => ?_
 refine S_list (T_box (v := (vA #[(Value.iface 167 (Value.string a)), (Value.iface 167 (Value.string b))])) rfl H ?_)
 intro b2_ w3_ S5_ H4_
 have S6_ := Same.trans (Same.refl w) S5_
 refine S_list (T_alloc z44 H4_ ?_)
 intro b7_ w8_ S10_ H9_
 have S11_ := Same.trans S6_ S10_
 refine wn (hK1_ _ _ ?_)
 refine cr fun _ hK12_ => ?_
 refine sv (v := (vA #[(Value.string ByteArray.empty), (Value.string ByteArray.empty), (vB false), (vI .i64 0), (vI .i64 0)])) (by kernel_rfl) ?_
 refine S_list (T_alloc z44 H9_ ?_)
 intro b13_ w14_ S16_ H15_
 have S17_ := Same.trans S11_ S16_
 refine S_list0 (T_storeN (vs := [(Value.string ByteArray.empty), (Value.string ByteArray.empty), (vB false), (vI .i64 0), (vI .i64 0)]) rfl rfl z44 rfl (by simp [Value.oneCell']) H15_ 0 rfl (Nat.le_of_ble_eq_true (by rfl)) ?_)
 intro w18_ S20_ H19_
 have S21_ := Same.trans S17_ S20_
 refine wn (hK12_ _ _ ?_)
 refine C_seq (fun _ hK22_ => ?_)
 refine cr fun _ hK23_ => ?_
 refine sv (v := (vQ b2_)) (by kernel_rfl) ?_
 refine sv (v := (Value.iface 167 (Value.string a))) (x_load1 rfl underlying109 rfl ((Holds.rd H19_ 2 rfl) 0 (Value.iface 167 (Value.string a)) rfl)) ?_
 refine wn (hK23_ _ _ ?_)
 refine C_block ?_
 refine cr fun _ hK24_ => ?_
 refine sv (v := (vT #[(Value.string a), (vB true)])) (by kernel_rfl) ?_
 refine sv (v := (vB true)) (by kernel_rfl) ?_
 refine sv (v := (Value.string a)) (by kernel_rfl) ?_
 refine wn (hK24_ _ _ ?_)
 refine C_condT rfl ?_
 refine cr fun _ hK25_ => ?_
 refine sv (v := (Value.string a)) (x_assign rfl) ?_
 refine wn (hK25_ _ _ ?_)
 refine C_reg ?_
 refine sm (Value.string a) ?_
 refine sv (v := (vQ b13_)) (by kernel_rfl) ?_
 refine sv (v := (vQ b13_)) (by kernel_rfl) ?_
 refine S_list0 (T_store1 (v := (Value.string a)) rfl rfl z9 rfl H19_ 0 rfl (Nat.le_of_ble_eq_true (by rfl)) ?_)
 intro w26_ S28_ H27_
 have S29_ := Same.trans S21_ S28_
 refine wpList_nil (X_blkN (X_then (hK22_ _ _ ?_)))
 refine C_seq (fun _ hK30_ => ?_)
 refine cr fun _ hK31_ => ?_
 refine sv (v := (vP (some ⟨b2_, 1, none⟩))) (by kernel_rfl) ?_
 refine sv (v := (Value.iface 167 (Value.string b))) (x_load1 rfl underlying109 rfl ((Holds.rd H27_ 2 rfl) 1 (Value.iface 167 (Value.string b)) rfl)) ?_
 refine wn (hK31_ _ _ ?_)
 refine C_block ?_
 refine cr fun _ hK32_ => ?_
 refine sv (v := (vT #[(Value.string b), (vB true)])) (by kernel_rfl) ?_
 refine sv (v := (vB true)) (by kernel_rfl) ?_
 refine sv (v := (Value.string b)) (by kernel_rfl) ?_
 refine wn (hK32_ _ _ ?_)
 refine C_condT rfl ?_
 refine cr fun _ hK33_ => ?_
 refine sv (v := (Value.string b)) (x_assign rfl) ?_
 refine wn (hK33_ _ _ ?_)
 refine C_reg ?_
 refine sm (Value.string b) ?_
 refine sv (v := (vQ b13_)) (by kernel_rfl) ?_
 refine sv (v := (vP (some ⟨b13_, 1, none⟩))) (by kernel_rfl) ?_
 refine S_list0 (T_store1 (v := (Value.string b)) rfl rfl z9 rfl H27_ 0 rfl (Nat.le_of_ble_eq_true (by rfl)) ?_)
 intro w34_ S36_ H35_
 have S37_ := Same.trans S29_ S36_
 refine wpList_nil (X_blkN (X_then (hK30_ _ _ ?_)))
 refine cr fun _ hK38_ => ?_
 refine sv (v := (vA #[(Value.string a), (Value.string b), (vB false), (vI .i64 0), (vI .i64 0)])) (x_loadN (vs := [(Value.string a), (Value.string b), (vB false), (vI .i64 0), (vI .i64 0)]) rfl underlying44 rfl z44 rfl (Rd.cells (Holds.rd H35_ 0 rfl) 0 rfl)) ?_
 refine S_list0 (T_storeN (vs := [(Value.string a), (Value.string b), (vB false), (vI .i64 0), (vI .i64 0)]) rfl rfl z44 rfl (by simp [Value.oneCell']) H35_ 1 rfl (Nat.le_of_ble_eq_true (by rfl)) ?_)
 intro w39_ S41_ H40_
 have S42_ := Same.trans S37_ S41_
 refine wn (hK38_ _ _ ?_)
 refine C_ret ?_
 refine R_any (v := (vA #[(Value.string a), (Value.string b), (vB false), (vI .i64 0), (vI .i64 0)])) (run_results1 rfl ⟨_, rfl, load_resN underlying44 rfl z44 rfl (vs := [(Value.string a), (Value.string b), (vB false), (vI .i64 0), (vI .i64 0)]) (Holds.cl_cells H40_ 1 rfl 0 rfl)⟩) ?_
 have H43_ := Holds.pkF H40_ [3] 3
 exact ⟨_, _, rfl, ⟨rfl, rfl⟩, S42_, H43_⟩

set_option maxHeartbeats 1600000 in
theorem spOut1 (R : HP) (a b : ByteArray) :
    Tri Try.prog 54 #[(vA #[(Value.iface 166 (Value.string a)), (Value.iface 166 (Value.string b))])] R [] (fun v__ post__ => v__ = (vA #[(Value.string a), (Value.string b), (vB false), (vI .i64 0), (vI .i64 0)]) ∧ post__ = []) := by
 refine Tri.into (n := 66) (al := [(vA #[(Value.iface 166 (Value.string a)), (Value.iface 166 (Value.string b))])]) func54 rfl ntmps54 rfl rfl fun w F H => ?_
 refine cr fun _ hK1_ => ?_
 refine S_list (T_box (v := (vA #[(Value.iface 166 (Value.string a)), (Value.iface 166 (Value.string b))])) rfl H ?_)
 intro b2_ w3_ S5_ H4_
 have S6_ := Same.trans (Same.refl w) S5_
 refine S_list (T_alloc z44 H4_ ?_)
 intro b7_ w8_ S10_ H9_
 have S11_ := Same.trans S6_ S10_
 refine wn (hK1_ _ _ ?_)
 refine cr fun _ hK12_ => ?_
 refine sv (v := (vA #[(Value.string ByteArray.empty), (Value.string ByteArray.empty), (vB false), (vI .i64 0), (vI .i64 0)])) (by kernel_rfl) ?_
 refine S_list (T_alloc z44 H9_ ?_)
 intro b13_ w14_ S16_ H15_
 have S17_ := Same.trans S11_ S16_
 refine S_list0 (T_storeN (vs := [(Value.string ByteArray.empty), (Value.string ByteArray.empty), (vB false), (vI .i64 0), (vI .i64 0)]) rfl rfl z44 rfl (by simp [Value.oneCell']) H15_ 0 rfl (Nat.le_of_ble_eq_true (by rfl)) ?_)
 intro w18_ S20_ H19_
 have S21_ := Same.trans S17_ S20_
 refine wn (hK12_ _ _ ?_)
 refine C_seq (fun _ hK22_ => ?_)
 refine cr fun _ hK23_ => ?_
 refine sv (v := (vQ b2_)) (by kernel_rfl) ?_
 refine sv (v := (Value.iface 166 (Value.string a))) (x_load1 rfl underlying109 rfl ((Holds.rd H19_ 2 rfl) 0 (Value.iface 166 (Value.string a)) rfl)) ?_
 refine wn (hK23_ _ _ ?_)
 refine C_block ?_
 refine cr fun _ hK24_ => ?_
 refine sv (v := (vT #[(Value.string ByteArray.empty), (vB false)])) (by kernel_rfl) ?_
 refine sv (v := (vB false)) (by kernel_rfl) ?_
 refine sv (v := (Value.string ByteArray.empty)) (by kernel_rfl) ?_
 refine wn (hK24_ _ _ ?_)
 refine C_condF rfl ?_
 refine cr fun _ hK25_ => ?_
 refine sv (v := (vT #[(Value.string a), (vB true)])) (by kernel_rfl) ?_
 refine sv (v := (vB true)) (by kernel_rfl) ?_
 refine sv (v := (Value.string a)) (by kernel_rfl) ?_
 refine wn (hK25_ _ _ ?_)
 refine C_condT rfl ?_
 refine cr fun _ hK26_ => ?_
 refine sv (v := (Value.string a)) (x_assign rfl) ?_
 refine wn (hK26_ _ _ ?_)
 refine C_reg ?_
 refine sm (Value.string a) ?_
 refine sv (v := (vQ b13_)) (by kernel_rfl) ?_
 refine sv (v := (vQ b13_)) (by kernel_rfl) ?_
 refine S_list0 (T_store1 (v := (Value.string a)) rfl rfl z9 rfl H19_ 0 rfl (Nat.le_of_ble_eq_true (by rfl)) ?_)
 intro w27_ S29_ H28_
 have S30_ := Same.trans S21_ S29_
 refine wpList_nil (X_blkN (X_then (hK22_ _ _ ?_)))
 refine C_seq (fun _ hK31_ => ?_)
 refine cr fun _ hK32_ => ?_
 refine sv (v := (vP (some ⟨b2_, 1, none⟩))) (by kernel_rfl) ?_
 refine sv (v := (Value.iface 166 (Value.string b))) (x_load1 rfl underlying109 rfl ((Holds.rd H28_ 2 rfl) 1 (Value.iface 166 (Value.string b)) rfl)) ?_
 refine wn (hK32_ _ _ ?_)
 refine C_block ?_
 refine cr fun _ hK33_ => ?_
 refine sv (v := (vT #[(Value.string ByteArray.empty), (vB false)])) (by kernel_rfl) ?_
 refine sv (v := (vB false)) (by kernel_rfl) ?_
 refine sv (v := (Value.string ByteArray.empty)) (by kernel_rfl) ?_
 refine wn (hK33_ _ _ ?_)
 refine C_condF rfl ?_
 refine cr fun _ hK34_ => ?_
 refine sv (v := (vT #[(Value.string b), (vB true)])) (by kernel_rfl) ?_
 refine sv (v := (vB true)) (by kernel_rfl) ?_
 refine sv (v := (Value.string b)) (by kernel_rfl) ?_
 refine wn (hK34_ _ _ ?_)
 refine C_condT rfl ?_
 refine cr fun _ hK35_ => ?_
 refine sv (v := (Value.string b)) (x_assign rfl) ?_
 refine wn (hK35_ _ _ ?_)
 refine C_reg ?_
 refine sm (Value.string b) ?_
 refine sv (v := (vQ b13_)) (by kernel_rfl) ?_
 refine sv (v := (vP (some ⟨b13_, 1, none⟩))) (by kernel_rfl) ?_
 refine S_list0 (T_store1 (v := (Value.string b)) rfl rfl z9 rfl H28_ 0 rfl (Nat.le_of_ble_eq_true (by rfl)) ?_)
 intro w36_ S38_ H37_
 have S39_ := Same.trans S30_ S38_
 refine wpList_nil (X_blkN (X_then (hK31_ _ _ ?_)))
 refine cr fun _ hK40_ => ?_
 refine sv (v := (vA #[(Value.string a), (Value.string b), (vB false), (vI .i64 0), (vI .i64 0)])) (x_loadN (vs := [(Value.string a), (Value.string b), (vB false), (vI .i64 0), (vI .i64 0)]) rfl underlying44 rfl z44 rfl (Rd.cells (Holds.rd H37_ 0 rfl) 0 rfl)) ?_
 refine S_list0 (T_storeN (vs := [(Value.string a), (Value.string b), (vB false), (vI .i64 0), (vI .i64 0)]) rfl rfl z44 rfl (by simp [Value.oneCell']) H37_ 1 rfl (Nat.le_of_ble_eq_true (by rfl)) ?_)
 intro w41_ S43_ H42_
 have S44_ := Same.trans S39_ S43_
 refine wn (hK40_ _ _ ?_)
 refine C_ret ?_
 refine R_any (v := (vA #[(Value.string a), (Value.string b), (vB false), (vI .i64 0), (vI .i64 0)])) (run_results1 rfl ⟨_, rfl, load_resN underlying44 rfl z44 rfl (vs := [(Value.string a), (Value.string b), (vB false), (vI .i64 0), (vI .i64 0)]) (Holds.cl_cells H42_ 1 rfl 0 rfl)⟩) ?_
 have H45_ := Holds.pkF H42_ [3] 3
 exact ⟨_, _, rfl, ⟨rfl, rfl⟩, S44_, H45_⟩

set_option maxHeartbeats 1600000 in
theorem spOut3 (R : HP) (a b : Int) :
    Tri Try.prog 54 #[(vA #[(Value.iface 169 (vI .i64 a)), (Value.iface 169 (vI .i64 b))])] R [] (fun v__ post__ => v__ = (vA #[(Value.string (ByteArray.mk #[])), (Value.string (ByteArray.mk #[])), (vB false), (vI .i64 a), (vI .i64 b)]) ∧ post__ = []) := by
 refine Tri.into (n := 66) (al := [(vA #[(Value.iface 169 (vI .i64 a)), (Value.iface 169 (vI .i64 b))])]) func54 rfl ntmps54 rfl rfl fun w F H => ?_
 refine cr fun _ hK1_ => ?_
 refine S_list (T_box (v := (vA #[(Value.iface 169 (vI .i64 a)), (Value.iface 169 (vI .i64 b))])) rfl H ?_)
 intro b2_ w3_ S5_ H4_
 have S6_ := Same.trans (Same.refl w) S5_
 refine S_list (T_alloc z44 H4_ ?_)
 intro b7_ w8_ S10_ H9_
 have S11_ := Same.trans S6_ S10_
 refine wn (hK1_ _ _ ?_)
 refine cr fun _ hK12_ => ?_
 refine sv (v := (vA #[(Value.string ByteArray.empty), (Value.string ByteArray.empty), (vB false), (vI .i64 0), (vI .i64 0)])) (by kernel_rfl) ?_
 refine S_list (T_alloc z44 H9_ ?_)
 intro b13_ w14_ S16_ H15_
 have S17_ := Same.trans S11_ S16_
 refine S_list0 (T_storeN (vs := [(Value.string ByteArray.empty), (Value.string ByteArray.empty), (vB false), (vI .i64 0), (vI .i64 0)]) rfl rfl z44 rfl (by simp [Value.oneCell']) H15_ 0 rfl (Nat.le_of_ble_eq_true (by rfl)) ?_)
 intro w18_ S20_ H19_
 have S21_ := Same.trans S17_ S20_
 refine wn (hK12_ _ _ ?_)
 refine C_seq (fun _ hK22_ => ?_)
 refine cr fun _ hK23_ => ?_
 refine sv (v := (vQ b2_)) (by kernel_rfl) ?_
 refine sv (v := (Value.iface 169 (vI .i64 a))) (x_load1 rfl underlying109 rfl ((Holds.rd H19_ 2 rfl) 0 (Value.iface 169 (vI .i64 a)) rfl)) ?_
 refine wn (hK23_ _ _ ?_)
 refine C_block ?_
 refine cr fun _ hK24_ => ?_
 refine sv (v := (vT #[(Value.string ByteArray.empty), (vB false)])) (by kernel_rfl) ?_
 refine sv (v := (vB false)) (by kernel_rfl) ?_
 refine sv (v := (Value.string ByteArray.empty)) (by kernel_rfl) ?_
 refine wn (hK24_ _ _ ?_)
 refine C_condF rfl ?_
 refine cr fun _ hK25_ => ?_
 refine sv (v := (vT #[(Value.string ByteArray.empty), (vB false)])) (by kernel_rfl) ?_
 refine sv (v := (vB false)) (by kernel_rfl) ?_
 refine sv (v := (Value.string ByteArray.empty)) (by kernel_rfl) ?_
 refine wn (hK25_ _ _ ?_)
 refine C_condF rfl ?_
 refine cr fun _ hK26_ => ?_
 refine sv (v := (vT #[(vS none 0 0), (vB false)])) (by kernel_rfl) ?_
 refine sv (v := (vB false)) (by kernel_rfl) ?_
 refine sv (v := (vS none 0 0)) (by kernel_rfl) ?_
 refine wn (hK26_ _ _ ?_)
 refine C_condF rfl ?_
 refine cr fun _ hK27_ => ?_
 refine sv (v := (vT #[(vI .i64 a), (vB true)])) (by kernel_rfl) ?_
 refine sv (v := (vB true)) (by kernel_rfl) ?_
 refine sv (v := (vI .i64 a)) (by kernel_rfl) ?_
 refine wn (hK27_ _ _ ?_)
 refine C_condT rfl ?_
 refine cr fun _ hK28_ => ?_
 refine sv (v := (vI .i64 a)) (x_assign rfl) ?_
 refine wn (hK28_ _ _ ?_)
 refine C_reg ?_
 refine sm (vI .i64 a) ?_
 refine sv (v := (vP (some ⟨b13_, 3, none⟩))) (by kernel_rfl) ?_
 refine S_list0 (T_store1 (v := (vI .i64 a)) rfl rfl z2 rfl H19_ 0 rfl (Nat.le_of_ble_eq_true (by rfl)) ?_)
 intro w29_ S31_ H30_
 have S32_ := Same.trans S21_ S31_
 refine wpList_nil (X_blkN (X_then (hK22_ _ _ ?_)))
 refine C_seq (fun _ hK33_ => ?_)
 refine cr fun _ hK34_ => ?_
 refine sv (v := (vP (some ⟨b2_, 1, none⟩))) (by kernel_rfl) ?_
 refine sv (v := (Value.iface 169 (vI .i64 b))) (x_load1 rfl underlying109 rfl ((Holds.rd H30_ 2 rfl) 1 (Value.iface 169 (vI .i64 b)) rfl)) ?_
 refine wn (hK34_ _ _ ?_)
 refine C_block ?_
 refine cr fun _ hK35_ => ?_
 refine sv (v := (vT #[(Value.string ByteArray.empty), (vB false)])) (by kernel_rfl) ?_
 refine sv (v := (vB false)) (by kernel_rfl) ?_
 refine sv (v := (Value.string ByteArray.empty)) (by kernel_rfl) ?_
 refine wn (hK35_ _ _ ?_)
 refine C_condF rfl ?_
 refine cr fun _ hK36_ => ?_
 refine sv (v := (vT #[(Value.string ByteArray.empty), (vB false)])) (by kernel_rfl) ?_
 refine sv (v := (vB false)) (by kernel_rfl) ?_
 refine sv (v := (Value.string ByteArray.empty)) (by kernel_rfl) ?_
 refine wn (hK36_ _ _ ?_)
 refine C_condF rfl ?_
 refine cr fun _ hK37_ => ?_
 refine sv (v := (vT #[(vS none 0 0), (vB false)])) (by kernel_rfl) ?_
 refine sv (v := (vB false)) (by kernel_rfl) ?_
 refine sv (v := (vS none 0 0)) (by kernel_rfl) ?_
 refine wn (hK37_ _ _ ?_)
 refine C_condF rfl ?_
 refine cr fun _ hK38_ => ?_
 refine sv (v := (vT #[(vI .i64 b), (vB true)])) (by kernel_rfl) ?_
 refine sv (v := (vB true)) (by kernel_rfl) ?_
 refine sv (v := (vI .i64 b)) (by kernel_rfl) ?_
 refine wn (hK38_ _ _ ?_)
 refine C_condT rfl ?_
 refine cr fun _ hK39_ => ?_
 refine sv (v := (vI .i64 b)) (x_assign rfl) ?_
 refine wn (hK39_ _ _ ?_)
 refine C_reg ?_
 refine sm (vI .i64 b) ?_
 refine sv (v := (vP (some ⟨b13_, 4, none⟩))) (by kernel_rfl) ?_
 refine S_list0 (T_store1 (v := (vI .i64 b)) rfl rfl z2 rfl H30_ 0 rfl (Nat.le_of_ble_eq_true (by rfl)) ?_)
 intro w40_ S42_ H41_
 have S43_ := Same.trans S32_ S42_
 refine wpList_nil (X_blkN (X_then (hK33_ _ _ ?_)))
 refine cr fun _ hK44_ => ?_
 refine sv (v := (vA #[(Value.string ByteArray.empty), (Value.string ByteArray.empty), (vB false), (vI .i64 a), (vI .i64 b)])) (x_loadN (vs := [(Value.string ByteArray.empty), (Value.string ByteArray.empty), (vB false), (vI .i64 a), (vI .i64 b)]) rfl underlying44 rfl z44 rfl (Rd.cells (Holds.rd H41_ 0 rfl) 0 rfl)) ?_
 refine S_list0 (T_storeN (vs := [(Value.string ByteArray.empty), (Value.string ByteArray.empty), (vB false), (vI .i64 a), (vI .i64 b)]) rfl rfl z44 rfl (by simp [Value.oneCell']) H41_ 1 rfl (Nat.le_of_ble_eq_true (by rfl)) ?_)
 intro w45_ S47_ H46_
 have S48_ := Same.trans S43_ S47_
 refine wn (hK44_ _ _ ?_)
 refine C_ret ?_
 refine R_any (v := (vA #[(Value.string ByteArray.empty), (Value.string ByteArray.empty), (vB false), (vI .i64 a), (vI .i64 b)])) (run_results1 rfl ⟨_, rfl, load_resN underlying44 rfl z44 rfl (vs := [(Value.string ByteArray.empty), (Value.string ByteArray.empty), (vB false), (vI .i64 a), (vI .i64 b)]) (Holds.cl_cells H46_ 1 rfl 0 rfl)⟩) ?_
 have H49_ := Holds.pkF H46_ [3] 3
 exact ⟨_, _, rfl, ⟨(congrArg (fun l => vA (List.toArray l)) (lcons (congrArg Value.string ((by first | rfl | omega | (simp; done) | (simp; omega)) : ByteArray.empty = (ByteArray.mk #[]))) (lcons (congrArg Value.string ((by first | rfl | omega | (simp; done) | (simp; omega)) : ByteArray.empty = (ByteArray.mk #[]))) rfl))), rfl⟩, S48_, H49_⟩

set_option maxHeartbeats 1600000 in
theorem spOut2 (R : HP) (x y : Value) (A C : List Int) (hx : RS R 1 x (List.length A) (bytesV A)) (hy : RS R 1 y (List.length C) (bytesV C)) :
    Tri Try.prog 54 #[(vA #[(Value.iface 168 x), (Value.iface 168 y)])] R [] (fun v__ post__ => v__ = (vA #[(Value.string (strN A)), (Value.string (strN C)), (vB false), (vI .i64 0), (vI .i64 0)]) ∧ post__ = []) := by
 refine Tri.into (n := 66) (al := [(vA #[(Value.iface 168 x), (Value.iface 168 y)])]) func54 rfl ntmps54 rfl rfl fun w F H => ?_
 refine cr fun _ hK1_ => ?_
 refine S_list (T_box (v := (vA #[(Value.iface 168 x), (Value.iface 168 y)])) rfl H ?_)
 intro b2_ w3_ S5_ H4_
 have S6_ := Same.trans (Same.refl w) S5_
 refine S_list (T_alloc z44 H4_ ?_)
 intro b7_ w8_ S10_ H9_
 have S11_ := Same.trans S6_ S10_
 refine wn (hK1_ _ _ ?_)
 refine cr fun _ hK12_ => ?_
 refine sv (v := (vA #[(Value.string ByteArray.empty), (Value.string ByteArray.empty), (vB false), (vI .i64 0), (vI .i64 0)])) (by kernel_rfl) ?_
 refine S_list (T_alloc z44 H9_ ?_)
 intro b13_ w14_ S16_ H15_
 have S17_ := Same.trans S11_ S16_
 refine S_list0 (T_storeN (vs := [(Value.string ByteArray.empty), (Value.string ByteArray.empty), (vB false), (vI .i64 0), (vI .i64 0)]) rfl rfl z44 rfl (by simp [Value.oneCell']) H15_ 0 rfl (Nat.le_of_ble_eq_true (by rfl)) ?_)
 intro w18_ S20_ H19_
 have S21_ := Same.trans S17_ S20_
 refine wn (hK12_ _ _ ?_)
 refine C_seq (fun _ hK22_ => ?_)
 refine cr fun _ hK23_ => ?_
 refine sv (v := (vQ b2_)) (by kernel_rfl) ?_
 refine sv (v := (Value.iface 168 x)) (x_load1 rfl underlying109 rfl ((Holds.rd H19_ 2 rfl) 0 (Value.iface 168 x) rfl)) ?_
 refine wn (hK23_ _ _ ?_)
 refine C_block ?_
 refine cr fun _ hK24_ => ?_
 refine sv (v := (vT #[(Value.string ByteArray.empty), (vB false)])) (by kernel_rfl) ?_
 refine sv (v := (vB false)) (by kernel_rfl) ?_
 refine sv (v := (Value.string ByteArray.empty)) (by kernel_rfl) ?_
 refine wn (hK24_ _ _ ?_)
 refine C_condF rfl ?_
 refine cr fun _ hK25_ => ?_
 refine sv (v := (vT #[(Value.string ByteArray.empty), (vB false)])) (by kernel_rfl) ?_
 refine sv (v := (vB false)) (by kernel_rfl) ?_
 refine sv (v := (Value.string ByteArray.empty)) (by kernel_rfl) ?_
 refine wn (hK25_ _ _ ?_)
 refine C_condF rfl ?_
 refine cr fun _ hK26_ => ?_
 refine sv (v := (vT #[x, (vB true)])) (by kernel_rfl) ?_
 refine sv (v := (vB true)) (by kernel_rfl) ?_
 refine sv (v := x) (by kernel_rfl) ?_
 refine wn (hK26_ _ _ ?_)
 refine C_condT rfl ?_
 refine cr fun _ hK27_ => ?_
 refine sv (v := x) (x_assign rfl) ?_
 refine wn (hK27_ _ _ ?_)
 refine C_reg ?_
 refine sv (v := x) (x_move rfl) ?_
 refine sv (v := (Value.string (strN A))) (x_b2sRS rfl hx (Holds.ro_at H19_ 3 rfl) underlying168 underlying5 underlying9) ?_
 refine sv (v := (vQ b13_)) (by kernel_rfl) ?_
 refine sv (v := (vQ b13_)) (by kernel_rfl) ?_
 refine S_list0 (T_store1 (v := (Value.string (strN A))) rfl rfl z9 rfl H19_ 0 rfl (Nat.le_of_ble_eq_true (by rfl)) ?_)
 intro w28_ S30_ H29_
 have S31_ := Same.trans S21_ S30_
 refine wpList_nil (X_blkN (X_then (hK22_ _ _ ?_)))
 refine C_seq (fun _ hK32_ => ?_)
 refine cr fun _ hK33_ => ?_
 refine sv (v := (vP (some ⟨b2_, 1, none⟩))) (by kernel_rfl) ?_
 refine sv (v := (Value.iface 168 y)) (x_load1 rfl underlying109 rfl ((Holds.rd H29_ 2 rfl) 1 (Value.iface 168 y) rfl)) ?_
 refine wn (hK33_ _ _ ?_)
 refine C_block ?_
 refine cr fun _ hK34_ => ?_
 refine sv (v := (vT #[(Value.string ByteArray.empty), (vB false)])) (by kernel_rfl) ?_
 refine sv (v := (vB false)) (by kernel_rfl) ?_
 refine sv (v := (Value.string ByteArray.empty)) (by kernel_rfl) ?_
 refine wn (hK34_ _ _ ?_)
 refine C_condF rfl ?_
 refine cr fun _ hK35_ => ?_
 refine sv (v := (vT #[(Value.string ByteArray.empty), (vB false)])) (by kernel_rfl) ?_
 refine sv (v := (vB false)) (by kernel_rfl) ?_
 refine sv (v := (Value.string ByteArray.empty)) (by kernel_rfl) ?_
 refine wn (hK35_ _ _ ?_)
 refine C_condF rfl ?_
 refine cr fun _ hK36_ => ?_
 refine sv (v := (vT #[y, (vB true)])) (by kernel_rfl) ?_
 refine sv (v := (vB true)) (by kernel_rfl) ?_
 refine sv (v := y) (by kernel_rfl) ?_
 refine wn (hK36_ _ _ ?_)
 refine C_condT rfl ?_
 refine cr fun _ hK37_ => ?_
 refine sv (v := y) (x_assign rfl) ?_
 refine wn (hK37_ _ _ ?_)
 refine C_reg ?_
 refine sv (v := y) (x_move rfl) ?_
 refine sv (v := (Value.string (strN C))) (x_b2sRS rfl hy (Holds.ro_at H29_ 3 rfl) underlying168 underlying5 underlying9) ?_
 refine sv (v := (vQ b13_)) (by kernel_rfl) ?_
 refine sv (v := (vP (some ⟨b13_, 1, none⟩))) (by kernel_rfl) ?_
 refine S_list0 (T_store1 (v := (Value.string (strN C))) rfl rfl z9 rfl H29_ 0 rfl (Nat.le_of_ble_eq_true (by rfl)) ?_)
 intro w38_ S40_ H39_
 have S41_ := Same.trans S31_ S40_
 refine wpList_nil (X_blkN (X_then (hK32_ _ _ ?_)))
 refine cr fun _ hK42_ => ?_
 refine sv (v := (vA #[(Value.string (strN A)), (Value.string (strN C)), (vB false), (vI .i64 0), (vI .i64 0)])) (x_loadN (vs := [(Value.string (strN A)), (Value.string (strN C)), (vB false), (vI .i64 0), (vI .i64 0)]) rfl underlying44 rfl z44 rfl (Rd.cells (Holds.rd H39_ 0 rfl) 0 rfl)) ?_
 refine S_list0 (T_storeN (vs := [(Value.string (strN A)), (Value.string (strN C)), (vB false), (vI .i64 0), (vI .i64 0)]) rfl rfl z44 rfl (by simp [Value.oneCell']) H39_ 1 rfl (Nat.le_of_ble_eq_true (by rfl)) ?_)
 intro w43_ S45_ H44_
 have S46_ := Same.trans S41_ S45_
 refine wn (hK42_ _ _ ?_)
 refine C_ret ?_
 refine R_any (v := (vA #[(Value.string (strN A)), (Value.string (strN C)), (vB false), (vI .i64 0), (vI .i64 0)])) (run_results1 rfl ⟨_, rfl, load_resN underlying44 rfl z44 rfl (vs := [(Value.string (strN A)), (Value.string (strN C)), (vB false), (vI .i64 0), (vI .i64 0)]) (Holds.cl_cells H44_ 1 rfl 0 rfl)⟩) ?_
 have H47_ := Holds.pkF H44_ [3] 3
 exact ⟨_, _, rfl, ⟨rfl, rfl⟩, S46_, H47_⟩

theorem spOut (R : HP) (ord : Int) (vb ve : Value) (kb ke : EK) (hb : EVal ord R vb kb) (he : EVal ord R ve ke) :
    Tri Try.prog 54 #[(vA #[vb, ve])] R [] (fun v__ post__ => v__ = (vA #[(Value.string ((ekSpan kb ke).in__Begin)), (Value.string ((ekSpan kb ke).in__End)), (vB ((ekSpan kb ke).in__Point)), (vI .i64 ((ekSpan kb ke).from_)), (vI .i64 ((ekSpan kb ke).till))]) ∧ post__ = []) := by
  rcases hb with ⟨o1, s, rfl, rfl⟩ | ⟨o1, s, rfl, rfl⟩ | ⟨o1, x, A, rfl, r1, rfl⟩ | ⟨o1, i, rfl, _, rfl⟩ <;> rcases he with ⟨o2, t, rfl, rfl⟩ | ⟨o2, t, rfl, rfl⟩ | ⟨o2, y, C, rfl, r2, rfl⟩ | ⟨o2, j, rfl, _, rfl⟩ <;> first | (exfalso; omega) | skip
  · refine (spOut0 R s t).mono fun v l h => ?_
    simpa only [ekSpan, text_t, num_t] using h
  · refine (spOut1 R s t).mono fun v l h => ?_
    simpa only [ekSpan, text_t, num_t] using h
  · refine (spOut2 R x y A C r1 r2).mono fun v l h => ?_
    simpa only [ekSpan, text_strN, num_t] using h
  · exact (spOut3 R i j).mono fun v l h => h
end Go.Proofs.Ytlnihndjepjagaa
set_option linter.unusedVariables false
set_option linter.unusedSimpArgs false
namespace Go.Proofs.Ytlnihndjepjagaa
open Go Go.RowKit Gw Try
open Go.Value renaming int → vI, bool → vB, slice → vS, pointer → vP, agg → vA, tuple → vT

/-! ### Puts and deletes, as the server reads them -/
theorem strN_ints (s : ByteArray) : strN (ints s) = s := by
  apply ByteArray.ext
  apply Array.toList_inj.1
  rw [strN_data]
  unfold ints
  rw [List.map_map]
  have : ((fun n : Int => UInt8.ofNat n.toNat) ∘ fun b : UInt8 => (b.toNat : Int)) = id := by
    funext b; simp
  rw [this, List.map_id]
def kS (x : RT) : ByteArray := strN (ints x.q.key)
def eS (x : RT) : ByteArray := strN (ints x.q.end_)
def dlo (x : RT) : EK := .t (kS x).data.toList
def dhi (x : RT) : EK := if x.q.end_.size = 0 then .t (kS x ++ ByteArray.mk #[0]).data.toList else .t (eS x).data.toList
def PrpR (x : RT) : Prop := (x.q.kind = 2 → x.q.key.size ≠ 0) ∧ (x.q.kind = 3 → x.q.key.size ≠ 0 ∧ (x.q.end_.size ≠ 0 → Op.bytesLess x.q.key.toList x.q.end_.toList = true))
def PutAt (R : HP) (b : Nat) (x : RT) : Prop := ∃ (kv c1 c2 c3 c4 c5 : Value), RS R 1 kv (List.length (ints x.q.key)) (bytesV (ints x.q.key)) ∧ RC R b 0 [kv, c1, c2, c3, c4, c5]
def DelAt (R : HP) (b : Nat) (x : RT) : Prop := ∃ (kv ev c2 : Value), RS R 1 kv (List.length (ints x.q.key)) (bytesV (ints x.q.key)) ∧ RS R 1 ev (List.length (ints x.q.end_)) (bytesV (ints x.q.end_)) ∧ RC R b 0 [kv, ev, c2]
theorem PutAt.mono {R R' : HP} (s : Sub R R') {b : Nat} {x : RT} (h : PutAt R b x) : PutAt R' b x := by
  obtain ⟨kv, c1, c2, c3, c4, c5, h1, h2⟩ := h; exact ⟨kv, c1, c2, c3, c4, c5, h1.mono s, h2.mono s⟩
theorem DelAt.mono {R R' : HP} (s : Sub R R') {b : Nat} {x : RT} (h : DelAt R b x) : DelAt R' b x := by
  obtain ⟨kv, ev, c2, h1, h2, h3⟩ := h; exact ⟨kv, ev, c2, h1.mono s, h2.mono s, h3.mono s⟩
inductive FOp (R : HP) (b : Nat) (x : RT) : Prop
  | rng (b1 : Nat) : x.q.kind = 1 → RC R b 0 [.iface 150 (pv b1)] → FOp R b x
  | put (b1 b2 : Nat) : x.q.kind = 2 → RC R b 0 [.iface 155 (pv b1)] → RC R b1 0 [pv b2] → PutAt R b2 x → FOp R b x
  | del (b1 b2 : Nat) : x.q.kind = 3 → RC R b 0 [.iface 158 (pv b1)] → RC R b1 0 [pv b2] → DelAt R b2 x → FOp R b x
theorem FOp.mono {R R' : HP} (s : Sub R R') {b : Nat} {x : RT} (h : FOp R b x) : FOp R' b x := by
  cases h with
  | rng b1 h1 h2 => exact .rng b1 h1 (h2.mono s)
  | put b1 b2 h1 h2 h3 h4 => exact .put b1 b2 h1 (h2.mono s) (h3.mono s) (h4.mono s)
  | del b1 b2 h1 h2 h3 h4 => exact .del b1 b2 h1 (h2.mono s) (h3.mono s) (h4.mono s)
theorem FOp.all {R R' : HP} (s : Sub R R') {C : List Nat} {l : List RT} (h : All2 (FOp R) C l) : All2 (FOp R') C l := h.mono fun _ _ h => h.mono s
theorem FOp.inv {R : HP} {b : Nat} {x : RT} (h : FOp R b x) : (∃ b1, x.q.kind = 1 ∧ RC R b 0 [.iface 150 (pv b1)]) ∨ (∃ (b1 b2 : Nat) (kv c1 c2 c3 c4 c5 : Value), x.q.kind = 2 ∧ RC R b 0 [.iface 155 (pv b1)] ∧ RC R b1 0 [pv b2] ∧ RC R b2 0 [kv, c1, c2, c3, c4, c5] ∧ RS R 1 kv (List.length (ints x.q.key)) (bytesV (ints x.q.key))) ∨
    (∃ (b1 b2 : Nat) (kv ev c2 : Value), x.q.kind = 3 ∧ RC R b 0 [.iface 158 (pv b1)] ∧ RC R b1 0 [pv b2] ∧ RC R b2 0 [kv, ev, c2] ∧ RS R 1 kv (List.length (ints x.q.key)) (bytesV (ints x.q.key)) ∧ RS R 1 ev (List.length (ints x.q.end_)) (bytesV (ints x.q.end_))) := by
  cases h with
  | rng b1 h1 h2 => exact .inl ⟨b1, h1, h2⟩
  | put b1 b2 h1 h2 h3 h4 => obtain ⟨kv, c1, c2, c3, c4, c5, h5, h6⟩ := h4; exact .inr (.inl ⟨b1, b2, kv, c1, c2, c3, c4, c5, h1, h2, h3, h6, h5⟩)
  | del b1 b2 h1 h2 h3 h4 => obtain ⟨kv, ev, c2, h5, h6, h7⟩ := h4; exact .inr (.inr ⟨b1, b2, kv, ev, c2, h1, h2, h3, h7, h5, h6⟩)


set_option maxHeartbeats 1600000 in
theorem ovBytes (R : HP) (t : ByteArray) :
    TriG Try.prog 67 #[(Value.string t)] R [] (fun R' v__ post__ => ∃ (a' : Option Addr) (m' c' : Nat), v__ = (vS a' m' c') ∧ post__ = [] ∧ (RS R' 1 (vS a' m' c') (List.length (ints t)) (bytesV (ints t)))) := by
 refine TriG.into (n := 7) (al := [(Value.string t)]) func67 rfl ntmps67 rfl rfl fun w F H => ?_
 refine cr fun _ hK1_ => ?_
 refine sv (v := (vS none 0 0)) (x_assign rfl) ?_
 refine wn (hK1_ _ _ ?_)
 refine C_seq (fun _ hK2_ => ?_)
 refine cr fun _ hK3_ => ?_
 refine sm (Value.string t) ?_
 refine sv (v := (vB (t.toList == (ByteArray.mk #[]).toList))) (x_str rfl rfl rfl (by decide)) ?_
 refine wn (hK3_ _ _ ?_)
 refine C_cond (b := t.toList == (ByteArray.mk #[]).toList) rfl (fun c4_t => ?_) (fun c4_f => ?_)
 ·skip
  refine cr fun _ hK5_ => ?_
  refine sv (v := (vS none 0 0)) (x_assign rfl) ?_
  refine wn (hK5_ _ _ ?_)
  refine C_ret (X_thenR ?_)
  refine R_any (v := (vS none 0 0)) (run_results1 rfl rfl) ?_
  have hl_ : t.toList = [] := by have h__ := c4_t; simpa using h__
  have hi_ : ints t = [] := by unfold ints; rw [← toList_data, hl_]; rfl
  exact ⟨R, _, _, rfl, (Sub.rfl' _), ⟨none, 0, 0, rfl, rfl, (by rw [hi_]; exact RS.nil _ _)⟩, (Same.refl w), H⟩
 ·skip
  refine C_skip (X_then (hK2_ _ _ ?_))
  refine cr fun _ hK6_ => ?_
  refine sm (Value.string t) ?_
  refine S_list (T_s2b rfl underlying9 underlying122 underlying5 H ?_)
  intro b7_ cp8_ w9_ S11_ hc12_ H10_
  have S13_ := Same.trans (Same.refl w) S11_
  have H14_ := Holds.resl H10_ 0 rfl (byteCells_bytesV _ : byteCells t = bytesV (ints t)) rfl
  have H15_ := Holds.resl H14_ 0 rfl (rfl : bytesV (ints t) = bytesV (ints t)) ((ints_length _).symm : t.size = (List.length (ints t)))
  refine sv (v := (vS (some ⟨b7_, 0, none⟩) t.size cp8_)) (x_assign rfl) ?_
  refine wn (hK6_ _ _ ?_)
  refine C_ret ?_
  refine R_any (v := (vS (some ⟨b7_, 0, none⟩) t.size cp8_)) (run_results1 rfl rfl) ?_
  have H16_ := ((Holds.bring H15_ 1 rfl) :)
  obtain ⟨R17_, hs18_, ⟨R19_, ha20_, hs21_⟩, H22_⟩ := Holds.gift H16_
  have hr23_ : RS R17_ 1 (vS (some ⟨b7_, 0, none⟩) t.size cp8_) (List.length (ints t)) (bytesV (ints t)) := (sl_RS ha20_ (Sub.rfl' _)).mono hs21_
  exact ⟨R17_, _, _, rfl, hs18_, ⟨(some ⟨b7_, 0, none⟩), t.size, cp8_, rfl, rfl, (hr23_)⟩, S13_, H22_⟩

set_option maxHeartbeats 1600000 in
theorem ovPutIn (R : HP) (x : RT) :
    TriG Try.prog 44 #[(vA #[(vI .i64 x.q.kind), (Value.string x.q.key), (Value.string x.q.end_), (Value.string x.q.value), (vI .i64 x.q.lease), (vI .i64 x.q.rev), (vI .i64 x.q.limit), (vI .i64 x.q.sortOrder), (vI .i64 x.q.sortTarget), (vI .i64 x.q.minMod), (vI .i64 x.q.maxMod), (vI .i64 x.q.minCreate), (vI .i64 x.q.maxCreate), (vB x.q.keysOnly), (vB x.q.countOnly), (vB x.q.prev), (vB x.q.ignoreValue), (vB x.q.ignoreLease), x.q.cmps, x.q.then_, x.q.else_])] R [] (fun R' v__ post__ => ∃ (b' : Nat), v__ = (vQ b') ∧ post__ = [] ∧ (PutAt R' b' x)) := by
 refine TriG.into (n := 19) (al := [(vA #[(vI .i64 x.q.kind), (Value.string x.q.key), (Value.string x.q.end_), (Value.string x.q.value), (vI .i64 x.q.lease), (vI .i64 x.q.rev), (vI .i64 x.q.limit), (vI .i64 x.q.sortOrder), (vI .i64 x.q.sortTarget), (vI .i64 x.q.minMod), (vI .i64 x.q.maxMod), (vI .i64 x.q.minCreate), (vI .i64 x.q.maxCreate), (vB x.q.keysOnly), (vB x.q.countOnly), (vB x.q.prev), (vB x.q.ignoreValue), (vB x.q.ignoreLease), x.q.cmps, x.q.then_, x.q.else_])]) func44 rfl ntmps44 rfl rfl fun w F H => ?_
 refine cr fun _ hK1_ => ?_
 refine S_list (T_box (v := (vA #[(vI .i64 x.q.kind), (Value.string x.q.key), (Value.string x.q.end_), (Value.string x.q.value), (vI .i64 x.q.lease), (vI .i64 x.q.rev), (vI .i64 x.q.limit), (vI .i64 x.q.sortOrder), (vI .i64 x.q.sortTarget), (vI .i64 x.q.minMod), (vI .i64 x.q.maxMod), (vI .i64 x.q.minCreate), (vI .i64 x.q.maxCreate), (vB x.q.keysOnly), (vB x.q.countOnly), (vB x.q.prev), (vB x.q.ignoreValue), (vB x.q.ignoreLease), x.q.cmps, x.q.then_, x.q.else_])) rfl H ?_)
 intro b2_ w3_ S5_ H4_
 have S6_ := Same.trans (Same.refl w) S5_
 refine sv (v := (vP none)) (x_assign rfl) ?_
 refine wn (hK1_ _ _ ?_)
 refine cr fun _ hK7_ => ?_
 refine sv (v := (vP (some ⟨b2_, 1, none⟩))) (by kernel_rfl) ?_
 refine sv (v := (Value.string x.q.key)) (x_load1 rfl underlying9 rfl ((Holds.rd H4_ 0 rfl) 1 (Value.string x.q.key) rfl)) ?_
 refine S_list (T_s2b rfl underlying9 underlying122 underlying5 H4_ ?_)
 intro b8_ cp9_ w10_ S12_ hc13_ H11_
 have S14_ := Same.trans S6_ S12_
 have H15_ := Holds.resl H11_ 0 rfl (byteCells_bytesV _ : byteCells x.q.key = bytesV (ints x.q.key)) rfl
 have H16_ := Holds.resl H15_ 0 rfl (rfl : bytesV (ints x.q.key) = bytesV (ints x.q.key)) ((ints_length _).symm : x.q.key.size = (List.length (ints x.q.key)))
 refine sv (v := (vP (some ⟨b2_, 3, none⟩))) (by kernel_rfl) ?_
 refine sv (v := (Value.string x.q.value)) (x_load1 rfl underlying9 rfl ((Holds.rd H16_ 1 rfl) 3 (Value.string x.q.value) rfl)) ?_
 refine S_list (T_s2b rfl underlying9 underlying122 underlying5 H16_ ?_)
 intro b17_ cp18_ w19_ S21_ hc22_ H20_
 have S23_ := Same.trans S14_ S21_
 have H24_ := Holds.resl H20_ 0 rfl (byteCells_bytesV _ : byteCells x.q.value = bytesV (ints x.q.value)) rfl
 have H25_ := Holds.resl H24_ 0 rfl (rfl : bytesV (ints x.q.value) = bytesV (ints x.q.value)) ((ints_length _).symm : x.q.value.size = (List.length (ints x.q.value)))
 refine sv (v := (vP (some ⟨b2_, 4, none⟩))) (by kernel_rfl) ?_
 refine sv (v := (vI .i64 x.q.lease)) (x_load1 rfl underlying2 rfl ((Holds.rd H25_ 2 rfl) 4 (vI .i64 x.q.lease) rfl)) ?_
 refine sv (v := (vP (some ⟨b2_, 15, none⟩))) (by kernel_rfl) ?_
 refine sv (v := (vB x.q.prev)) (x_load1 rfl underlying4 rfl ((Holds.rd H25_ 2 rfl) 15 (vB x.q.prev) rfl)) ?_
 refine sv (v := (vP (some ⟨b2_, 16, none⟩))) (by kernel_rfl) ?_
 refine sv (v := (vB x.q.ignoreValue)) (x_load1 rfl underlying4 rfl ((Holds.rd H25_ 2 rfl) 16 (vB x.q.ignoreValue) rfl)) ?_
 refine sv (v := (vP (some ⟨b2_, 17, none⟩))) (by kernel_rfl) ?_
 refine sv (v := (vB x.q.ignoreLease)) (x_load1 rfl underlying4 rfl ((Holds.rd H25_ 2 rfl) 17 (vB x.q.ignoreLease) rfl)) ?_
 refine sv (v := (vA #[(vS (some ⟨b8_, 0, none⟩) x.q.key.size cp9_), (vS (some ⟨b17_, 0, none⟩) x.q.value.size cp18_), (vI .i64 x.q.lease), (vB x.q.prev), (vB x.q.ignoreValue), (vB x.q.ignoreLease)])) (by kernel_rfl) ?_
 refine S_list (T_box (v := (vA #[(vS (some ⟨b8_, 0, none⟩) x.q.key.size cp9_), (vS (some ⟨b17_, 0, none⟩) x.q.value.size cp18_), (vI .i64 x.q.lease), (vB x.q.prev), (vB x.q.ignoreValue), (vB x.q.ignoreLease)])) rfl H25_ ?_)
 intro b26_ w27_ S29_ H28_
 have S30_ := Same.trans S23_ S29_
 refine sv (v := (vQ b26_)) (x_assign rfl) ?_
 refine wn (hK7_ _ _ ?_)
 refine C_ret ?_
 refine R_any (v := (vQ b26_)) (run_results1 rfl rfl) ?_
 have H31_ := ((Holds.bring (Holds.bring H28_ 2 rfl) 4 rfl) :)
 obtain ⟨R32_, hs33_, ⟨R34_, ha35_, hs36_⟩, H37_⟩ := Holds.gift H31_
 have hr38_ : RS R32_ 1 (vS (some ⟨b8_, 0, none⟩) x.q.key.size cp9_) (List.length (ints x.q.key)) (bytesV (ints x.q.key)) := (sl_RS ha35_ (Sub.rfl' _)).mono hs36_
 obtain ⟨R39_, hs40_, ⟨R41_, ha42_, hs43_⟩, H44_⟩ := Holds.gift H37_
 have hz_R_R39_ := Sub.trans' hs33_ hs40_
 have hr45_ : RC R39_ b26_ 0 [(vS (some ⟨b8_, 0, none⟩) x.q.key.size cp9_), (vS (some ⟨b17_, 0, none⟩) x.q.value.size cp18_), (vI .i64 x.q.lease), (vB x.q.prev), (vB x.q.ignoreValue), (vB x.q.ignoreLease)] := (cl_RC ha42_ (Sub.rfl' _)).mono hs43_
 have H46_ := Holds.pkF H44_ [0] 2
 exact ⟨R39_, _, _, rfl, hz_R_R39_, ⟨b26_, rfl, rfl, (⟨_, _, _, _, _, _, (RS.mono hr38_ hs40_), hr45_⟩)⟩, S30_, H46_⟩

set_option maxHeartbeats 1600000 in
theorem ovDelIn (R : HP) (x : RT) :
    TriG Try.prog 46 #[(vA #[(vI .i64 x.q.kind), (Value.string x.q.key), (Value.string x.q.end_), (Value.string x.q.value), (vI .i64 x.q.lease), (vI .i64 x.q.rev), (vI .i64 x.q.limit), (vI .i64 x.q.sortOrder), (vI .i64 x.q.sortTarget), (vI .i64 x.q.minMod), (vI .i64 x.q.maxMod), (vI .i64 x.q.minCreate), (vI .i64 x.q.maxCreate), (vB x.q.keysOnly), (vB x.q.countOnly), (vB x.q.prev), (vB x.q.ignoreValue), (vB x.q.ignoreLease), x.q.cmps, x.q.then_, x.q.else_])] R [] (fun R' v__ post__ => ∃ (b' : Nat), v__ = (vQ b') ∧ post__ = [] ∧ (DelAt R' b' x)) := by
 refine TriG.into (n := 13) (al := [(vA #[(vI .i64 x.q.kind), (Value.string x.q.key), (Value.string x.q.end_), (Value.string x.q.value), (vI .i64 x.q.lease), (vI .i64 x.q.rev), (vI .i64 x.q.limit), (vI .i64 x.q.sortOrder), (vI .i64 x.q.sortTarget), (vI .i64 x.q.minMod), (vI .i64 x.q.maxMod), (vI .i64 x.q.minCreate), (vI .i64 x.q.maxCreate), (vB x.q.keysOnly), (vB x.q.countOnly), (vB x.q.prev), (vB x.q.ignoreValue), (vB x.q.ignoreLease), x.q.cmps, x.q.then_, x.q.else_])]) func46 rfl ntmps46 rfl rfl fun w F H => ?_
 refine cr fun _ hK1_ => ?_
 refine S_list (T_box (v := (vA #[(vI .i64 x.q.kind), (Value.string x.q.key), (Value.string x.q.end_), (Value.string x.q.value), (vI .i64 x.q.lease), (vI .i64 x.q.rev), (vI .i64 x.q.limit), (vI .i64 x.q.sortOrder), (vI .i64 x.q.sortTarget), (vI .i64 x.q.minMod), (vI .i64 x.q.maxMod), (vI .i64 x.q.minCreate), (vI .i64 x.q.maxCreate), (vB x.q.keysOnly), (vB x.q.countOnly), (vB x.q.prev), (vB x.q.ignoreValue), (vB x.q.ignoreLease), x.q.cmps, x.q.then_, x.q.else_])) rfl H ?_)
 intro b2_ w3_ S5_ H4_
 have S6_ := Same.trans (Same.refl w) S5_
 refine sv (v := (vP none)) (x_assign rfl) ?_
 refine wn (hK1_ _ _ ?_)
 refine C_seq (fun _ hK7_ => ?_)
 refine A_start (S := fun w => Rd b2_ [(vI .i64 x.q.kind), (Value.string x.q.key), (Value.string x.q.end_), (Value.string x.q.value), (vI .i64 x.q.lease), (vI .i64 x.q.rev), (vI .i64 x.q.limit), (vI .i64 x.q.sortOrder), (vI .i64 x.q.sortTarget), (vI .i64 x.q.minMod), (vI .i64 x.q.maxMod), (vI .i64 x.q.minCreate), (vI .i64 x.q.maxCreate), (vB x.q.keysOnly), (vB x.q.countOnly), (vB x.q.prev), (vB x.q.ignoreValue), (vB x.q.ignoreLease), x.q.cmps, x.q.then_, x.q.else_] w ∧ Sub R (hp w)) (N := 11) foll rfl rfl ?_
 have H8_ := Holds.drew_ H4_
 have hq9_ := And.intro (Holds.rd H8_ 0 rfl) ((Holds.ro_at H8_ 1 rfl))
 refine A_tk 0 (v := (vP (some ⟨b2_, 1, none⟩))) rfl (by kernel_rfl) (fun w hS => by kernel_rfl) hq9_ ?_
 refine A_tk 1 (v := (Value.string x.q.key)) rfl (by kernel_rfl) (fun w hS => x_load1 rfl underlying9 rfl (hS.1 1 (Value.string x.q.key) rfl)) hq9_ ?_
 refine A_tk 3 (v := (vP (some ⟨b2_, 2, none⟩))) rfl (by kernel_rfl) (fun w hS => by kernel_rfl) hq9_ ?_
 refine A_tk 4 (v := (Value.string x.q.end_)) rfl (by kernel_rfl) (fun w hS => x_load1 rfl underlying9 rfl (hS.1 2 (Value.string x.q.end_) rfl)) hq9_ ?_
 refine A_tk 6 (v := (vP (some ⟨b2_, 15, none⟩))) rfl (by kernel_rfl) (fun w hS => by kernel_rfl) hq9_ ?_
 refine A_tk 7 (v := (vB x.q.prev)) rfl (by kernel_rfl) (fun w hS => x_load1 rfl underlying4 rfl (hS.1 15 (vB x.q.prev) rfl)) hq9_ ?_
 refine A_ready (i := 2) (rs := [5]) (by kernel_rfl) ?_
 refine AllR.cons ?_ ?_
 ·skip
  refine A_op (ls' := #[true, true, true, true, true, false, true, true, false, false, false]) rfl (by kernel_rfl) (T_s2b rfl underlying9 underlying122 underlying5 H8_ ?_)
  intro b10_ cp11_ w12_ S14_ hc15_ H13_
  have S16_ := Same.trans (Same.trans S6_ (Same.drew _)) S14_
  have H17_ := Holds.resl H13_ 0 rfl (byteCells_bytesV _ : byteCells x.q.key = bytesV (ints x.q.key)) rfl
  have H18_ := Holds.resl H17_ 0 rfl (rfl : bytesV (ints x.q.key) = bytesV (ints x.q.key)) ((ints_length _).symm : x.q.key.size = (List.length (ints x.q.key)))
  refine ⟨⟨Holds.rd H18_ 1 rfl, (Holds.ro_at H18_ 2 rfl)⟩, ?_⟩
  refine A_ready (i := 5) (rs := []) (by kernel_rfl) ?_
  refine AllR.cons ?_ AllR.nil
  have H26_ := ((Holds.bring H18_ 2 rfl) :)
  refine A_op (ls' := #[true, true, true, true, true, true, true, true, false, false, false]) rfl (by kernel_rfl) (T_callG (al := [(Value.string x.q.end_)]) (pre := []) rfl rfl cb67 (ovBytes R x.q.end_) H26_ ?_)
  rintro R20_ v21_ p30_ w27_ hs19_ ⟨a22_, m23_, c24_, rfl, rfl, he25_⟩ S29_ H28_
  have S31_ := Same.trans S16_ S29_
  refine ⟨⟨Holds.rd H28_ 2 rfl, (Sub.trans' hs19_ (Holds.ro_at H28_ 0 rfl))⟩, ?_⟩
  have hq32_ := And.intro (Holds.rd H28_ 2 rfl) ((Sub.trans' hs19_ (Holds.ro_at H28_ 0 rfl)))
  refine A_tk 8 (v := (vA #[(vS (some ⟨b10_, 0, none⟩) x.q.key.size cp11_), (vS a22_ m23_ c24_), (vB x.q.prev)])) rfl (by kernel_rfl) (fun w hS => by kernel_rfl) hq32_ ?_
  refine A_ready (i := 9) (rs := []) (by kernel_rfl) ?_
  refine AllR.cons ?_ AllR.nil
  refine A_op (ls' := #[true, true, true, true, true, true, true, true, true, true, false]) rfl (by kernel_rfl) (T_box (v := (vA #[(vS (some ⟨b10_, 0, none⟩) x.q.key.size cp11_), (vS a22_ m23_ c24_), (vB x.q.prev)])) rfl H28_ ?_)
  intro b33_ w34_ S36_ H35_
  have S37_ := Same.trans S31_ S36_
  refine ⟨⟨Holds.rd H35_ 3 rfl, (Sub.trans' hs19_ (Holds.ro_at H35_ 1 rfl))⟩, ?_⟩
  have hq38_ := And.intro (Holds.rd H35_ 3 rfl) ((Sub.trans' hs19_ (Holds.ro_at H35_ 1 rfl)))
  refine A_tk 10 (v := (vQ b33_)) rfl (by kernel_rfl) (fun w hS => x_assign rfl) hq38_ ?_
  refine A_done (by kernel_rfl) ?_
  refine (X_then (hK7_ _ _ ?_))
  refine C_ret ?_
  refine R_any (v := (vQ b33_)) (run_results1 rfl rfl) ?_
  have H39_ := ((Holds.bring (Holds.bring H35_ 2 rfl) 2 rfl) :)
  obtain ⟨R40_, hs41_, ⟨R42_, ha43_, hs44_⟩, H45_⟩ := Holds.gift H39_
  have hz_R_R40_ := Sub.trans' hs19_ hs41_
  have hr46_ : RS R40_ 1 (vS (some ⟨b10_, 0, none⟩) x.q.key.size cp11_) (List.length (ints x.q.key)) (bytesV (ints x.q.key)) := (sl_RS ha43_ (Sub.rfl' _)).mono hs44_
  obtain ⟨R47_, hs48_, ⟨R49_, ha50_, hs51_⟩, H52_⟩ := Holds.gift H45_
  have hz_R_R47_ := Sub.trans' hz_R_R40_ hs48_
  have hz_R20__R47_ := Sub.trans' hs41_ hs48_
  have hr53_ : RC R47_ b33_ 0 [(vS (some ⟨b10_, 0, none⟩) x.q.key.size cp11_), (vS a22_ m23_ c24_), (vB x.q.prev)] := (cl_RC ha50_ (Sub.rfl' _)).mono hs51_
  have H54_ := Holds.pkF H52_ [0] 1
  exact ⟨R47_, _, _, rfl, hz_R_R47_, ⟨b33_, rfl, rfl, (⟨_, _, _, (RS.mono hr46_ hs48_), (he25_.mono hz_R20__R47_), hr53_⟩)⟩, S37_, H54_⟩
 refine AllR.cons ?_ AllR.nil
 have H62_ := ((Holds.bring H8_ 1 rfl) :)
 refine A_op (ls' := #[true, true, false, true, true, true, true, true, false, false, false]) rfl (by kernel_rfl) (T_callG (al := [(Value.string x.q.end_)]) (pre := []) rfl rfl cb67 (ovBytes R x.q.end_) H62_ ?_)
 rintro R56_ v57_ p66_ w63_ hs55_ ⟨a58_, m59_, c60_, rfl, rfl, he61_⟩ S65_ H64_
 have S67_ := Same.trans (Same.trans S6_ (Same.drew _)) S65_
 refine ⟨⟨Holds.rd H64_ 1 rfl, (Sub.trans' hs55_ (Holds.ro_at H64_ 0 rfl))⟩, ?_⟩
 refine A_ready (i := 2) (rs := []) (by kernel_rfl) ?_
 refine AllR.cons ?_ AllR.nil
 refine A_op (ls' := #[true, true, true, true, true, true, true, true, false, false, false]) rfl (by kernel_rfl) (T_s2b rfl underlying9 underlying122 underlying5 H64_ ?_)
 intro b68_ cp69_ w70_ S72_ hc73_ H71_
 have S74_ := Same.trans S67_ S72_
 have H75_ := Holds.resl H71_ 0 rfl (byteCells_bytesV _ : byteCells x.q.key = bytesV (ints x.q.key)) rfl
 have H76_ := Holds.resl H75_ 0 rfl (rfl : bytesV (ints x.q.key) = bytesV (ints x.q.key)) ((ints_length _).symm : x.q.key.size = (List.length (ints x.q.key)))
 refine ⟨⟨Holds.rd H76_ 2 rfl, (Sub.trans' hs55_ (Holds.ro_at H76_ 1 rfl))⟩, ?_⟩
 have hq77_ := And.intro (Holds.rd H76_ 2 rfl) ((Sub.trans' hs55_ (Holds.ro_at H76_ 1 rfl)))
 refine A_tk 8 (v := (vA #[(vS (some ⟨b68_, 0, none⟩) x.q.key.size cp69_), (vS a58_ m59_ c60_), (vB x.q.prev)])) rfl (by kernel_rfl) (fun w hS => by kernel_rfl) hq77_ ?_
 refine A_ready (i := 9) (rs := []) (by kernel_rfl) ?_
 refine AllR.cons ?_ AllR.nil
 refine A_op (ls' := #[true, true, true, true, true, true, true, true, true, true, false]) rfl (by kernel_rfl) (T_box (v := (vA #[(vS (some ⟨b68_, 0, none⟩) x.q.key.size cp69_), (vS a58_ m59_ c60_), (vB x.q.prev)])) rfl H76_ ?_)
 intro b78_ w79_ S81_ H80_
 have S82_ := Same.trans S74_ S81_
 refine ⟨⟨Holds.rd H80_ 3 rfl, (Sub.trans' hs55_ (Holds.ro_at H80_ 2 rfl))⟩, ?_⟩
 have hq83_ := And.intro (Holds.rd H80_ 3 rfl) ((Sub.trans' hs55_ (Holds.ro_at H80_ 2 rfl)))
 refine A_tk 10 (v := (vQ b78_)) rfl (by kernel_rfl) (fun w hS => x_assign rfl) hq83_ ?_
 refine A_done (by kernel_rfl) ?_
 refine (X_then (hK7_ _ _ ?_))
 refine C_ret ?_
 refine R_any (v := (vQ b78_)) (run_results1 rfl rfl) ?_
 have H84_ := ((Holds.bring (Holds.bring H80_ 1 rfl) 2 rfl) :)
 obtain ⟨R85_, hs86_, ⟨R87_, ha88_, hs89_⟩, H90_⟩ := Holds.gift H84_
 have hz_R_R85_ := Sub.trans' hs55_ hs86_
 have hr91_ : RS R85_ 1 (vS (some ⟨b68_, 0, none⟩) x.q.key.size cp69_) (List.length (ints x.q.key)) (bytesV (ints x.q.key)) := (sl_RS ha88_ (Sub.rfl' _)).mono hs89_
 obtain ⟨R92_, hs93_, ⟨R94_, ha95_, hs96_⟩, H97_⟩ := Holds.gift H90_
 have hz_R_R92_ := Sub.trans' hz_R_R85_ hs93_
 have hz_R56__R92_ := Sub.trans' hs86_ hs93_
 have hr98_ : RC R92_ b78_ 0 [(vS (some ⟨b68_, 0, none⟩) x.q.key.size cp69_), (vS a58_ m59_ c60_), (vB x.q.prev)] := (cl_RC ha95_ (Sub.rfl' _)).mono hs96_
 have H99_ := Holds.pkF H97_ [0] 1
 exact ⟨R92_, _, _, rfl, hz_R_R92_, ⟨b78_, rfl, rfl, (⟨_, _, _, (RS.mono hr91_ hs93_), (he61_.mono hz_R56__R92_), hr98_⟩)⟩, S82_, H99_⟩
end Go.Proofs.Ytlnihndjepjagaa
set_option linter.unusedVariables false
set_option linter.unusedSimpArgs false
namespace Go.Proofs.Ytlnihndjepjagaa
open Go Go.RowKit Gw Try
open Go.Value renaming int → vI, bool → vB, slice → vS, pointer → vP, agg → vA, tuple → vT

set_option maxHeartbeats 8000000 in
theorem ovOpsIn (R : HP) (v : Value) (L : List RT) (hL : RS R 21 v (List.length L) (L.flatMap RT.cells)) (hl : L.length ≤ 200) (hK : ∀ y ∈ L, 1 ≤ y.q.kind ∧ y.q.kind ≤ 3) :
    TriG Try.prog 50 #[v] R [] (fun R' v__ post__ => ∃ (v' : Value) (T : List Nat), v__ = v' ∧ post__ = [] ∧ (RS R' 1 v' (List.length T) (T.map pv)) ∧ (All2 (FOp R') T L)) := by
 refine TriG.into (n := 77) (al := [v]) func50 rfl ntmps50 rfl rfl fun w F H => ?_
 refine cr fun _ hK1_ => ?_
 refine sv (v := (vS none 0 0)) (x_assign rfl) ?_
 refine wn (hK1_ _ _ ?_)
 refine cr fun _ hK2_ => ?_
 refine sv (v := (vS none 0 0)) (x_assign rfl) ?_
 refine wn (hK2_ _ _ ?_)
 refine C_seq (fun _ hK3_ => ?_)
 refine cr fun _ hK4_ => ?_
 refine sv (v := (vI .i64 0)) (x_assign rfl) ?_
 refine wn (hK4_ _ _ ?_)
 refine C_block ?_
 have H5_ : Holds w (sl 149 1 (vS none 0 0) (List.length ([] : List Nat)) (([] : List Nat).map pv) :: ro R :: F) := Holds.add_nil H 149 1
 refine C_loop (γ := HP × Nat × Value × (List Nat)) (fun x__ a__ w1__ => match x__ with | ⟨R1, k, cv, C⟩ => ∃ h : Env, a__ = mkA 77 (upd (upd (upd (upd h 0 v) 2 (vS none 0 0)) 3 cv) 4 (vI .i64 (k : Int))) [] ∧ Holds w1__ (sl 149 1 cv (List.length C) (C.map pv) :: ro R1 :: F) ∧ Same w w1__ ∧ (Sub R R1) ∧ (k ≤ L.length) ∧ (C.length = k) ∧ (All2 (FOp R1) C (L.take k))) (fun x__ => match x__ with | ⟨R1, k, cv, C⟩ => L.length - k) (⟨R, 0, (vS none 0 0), ([] : List Nat)⟩) ⟨_, congrArg (fun e => mkA 77 e []) (ch (ch (ch (ch rfl rfl) rfl) (rfl : (vS none 0 0) = ((vS none 0 0)))) (congrArg (vI .i64) ((by first | rfl | omega | (simp; done) | (simp; omega)) : 0 = (0 : Int)))), H5_, (Same.refl w), (Sub.rfl' _), (by first | assumption | omega | exact rfl), (rfl), (All2.nil)⟩ ?_
 rintro ⟨R1, k, cv, C⟩ _ w6_ ⟨h, rfl, H7_, S8_, hsR1, hk, hCl, hC⟩
 refine C_seq (fun _ hK9_ => ?_)
 refine cr fun _ hK10_ => ?_
 refine sm (vI .i64 (k : Int)) ?_
 refine sv (v := v) (x_move rfl) ?_
 refine sv (v := (vI .i64 ((List.length L) : Int))) (x_lenRS rfl (RS.mono hL hsR1) underlying23) ?_
 refine sv (v := (vB (decide ((k : Int) < ((List.length L) : Int))))) (x_bin rfl rfl rfl) ?_
 refine wn (hK10_ _ _ ?_)
 refine C_cond (b := decide ((k : Int) < ((List.length L) : Int))) rfl (fun c11_t => ?_) (fun c11_f => ?_)
 ·have c11_tp : (k : Int) < ((List.length L) : Int) := of_decide_eq_true c11_t
  refine C_skip (X_then (hK9_ _ _ ?_))
  refine C_seq (fun _ hK12_ => ?_)
  refine C_block ?_
  refine cr fun _ hK13_ => ?_
  refine sv (v := v) (x_move rfl) ?_
  refine sm (vI .i64 (k : Int)) ?_
  obtain ⟨x14_, hx15_, hm16_⟩ := elem_at L k (by omega)
  have hp17_ := hK x14_ hm16_
  have hk_ := hK x14_ hm16_
  refine sv (v := (vP (some ⟨(sb v), so v + (k * 21 + 0), none⟩))) (x_idxRS (v := v) rfl (RS.mono hL hsR1) rfl underlying23 z25 (by omega) (by omega) (by omega : _ = k) rfl) ?_
  refine sv (v := (vP (some ⟨(sb v), so v + (k * 21 + 0), none⟩))) (by kernel_rfl) ?_
  refine sv (v := (vI .i64 x14_.q.kind)) (x_load1 rfl underlying3 rfl (RC.cell (RS.rc (RS.mono hL hsR1)) (Holds.ro_at H7_ 1 rfl) (j := k * 21 + 0) (u := (vI .i64 x14_.q.kind)) (fm_cell RT.len hx15_ (i := 0) rfl))) ?_
  refine wn (hK13_ _ _ ?_)
  refine C_block ?_
  refine cr fun _ hK18_ => ?_
  refine sv (v := (vB (decide (x14_.q.kind = 1)))) (x_bin rfl rfl rfl) ?_
  refine sv (v := (vB (decide (x14_.q.kind = 1)))) (x_assign rfl) ?_
  refine wn (hK18_ _ _ ?_)
  refine C_cond (b := decide (x14_.q.kind = 1)) rfl (fun c19_t => ?_) (fun c19_f => ?_)
  ·have c19_tp : x14_.q.kind = 1 := of_decide_eq_true c19_t
   refine C_reg ?_
   refine sv (v := cv) (x_move rfl) ?_
   refine sv (v := v) (x_move rfl) ?_
   refine sm (vI .i64 (k : Int)) ?_
   refine sv (v := (vP (some ⟨(sb v), so v + (k * 21 + 0), none⟩))) (x_idxRS (v := v) rfl (RS.mono hL hsR1) rfl underlying23 z25 (by omega) (by omega) (by omega : _ = k) rfl) ?_
   refine sv (v := (vA #[(vI .i64 x14_.q.kind), (Value.string x14_.q.key), (Value.string x14_.q.end_), (Value.string x14_.q.value), (vI .i64 x14_.q.lease), (vI .i64 x14_.q.rev), (vI .i64 x14_.q.limit), (vI .i64 x14_.q.sortOrder), (vI .i64 x14_.q.sortTarget), (vI .i64 x14_.q.minMod), (vI .i64 x14_.q.maxMod), (vI .i64 x14_.q.minCreate), (vI .i64 x14_.q.maxCreate), (vB x14_.q.keysOnly), (vB x14_.q.countOnly), (vB x14_.q.prev), (vB x14_.q.ignoreValue), (vB x14_.q.ignoreLease), x14_.q.cmps, x14_.q.then_, x14_.q.else_])) (x_loadN (vs := [(vI .i64 x14_.q.kind), (Value.string x14_.q.key), (Value.string x14_.q.end_), (Value.string x14_.q.value), (vI .i64 x14_.q.lease), (vI .i64 x14_.q.rev), (vI .i64 x14_.q.limit), (vI .i64 x14_.q.sortOrder), (vI .i64 x14_.q.sortTarget), (vI .i64 x14_.q.minMod), (vI .i64 x14_.q.maxMod), (vI .i64 x14_.q.minCreate), (vI .i64 x14_.q.maxCreate), (vB x14_.q.keysOnly), (vB x14_.q.countOnly), (vB x14_.q.prev), (vB x14_.q.ignoreValue), (vB x14_.q.ignoreLease), x14_.q.cmps, x14_.q.then_, x14_.q.else_]) rfl underlying25 rfl z25 rfl (RC.cells (RS.rc (RS.mono hL hsR1)) (Holds.ro_at H7_ 1 rfl) (k * 21 + 0) (fm_cells RT.len hx15_ (i := 0) rfl))) ?_
   have H25_ := ((Holds.bring H7_ 1 rfl) :)
   refine S_list (T_callG (al := [(vA #[(vI .i64 x14_.q.kind), (Value.string x14_.q.key), (Value.string x14_.q.end_), (Value.string x14_.q.value), (vI .i64 x14_.q.lease), (vI .i64 x14_.q.rev), (vI .i64 x14_.q.limit), (vI .i64 x14_.q.sortOrder), (vI .i64 x14_.q.sortTarget), (vI .i64 x14_.q.minMod), (vI .i64 x14_.q.maxMod), (vI .i64 x14_.q.minCreate), (vI .i64 x14_.q.maxCreate), (vB x14_.q.keysOnly), (vB x14_.q.countOnly), (vB x14_.q.prev), (vB x14_.q.ignoreValue), (vB x14_.q.ignoreLease), x14_.q.cmps, x14_.q.then_, x14_.q.else_])]) (pre := []) rfl rfl cb42 (ckRangeIn R1 x14_) H25_ ?_)
   rintro R21_ v22_ p29_ w26_ hs20_ ⟨b23_, rfl, rfl, he24_⟩ S28_ H27_
   have S30_ := Same.trans S8_ S28_
   have hz_R_R21_ := Sub.trans' hsR1 hs20_
   refine sv (v := (vA #[(vQ b23_)])) (by kernel_rfl) ?_
   refine S_list (T_box (v := (vA #[(vQ b23_)])) rfl H27_ ?_)
   intro b31_ w32_ S34_ H33_
   have S35_ := Same.trans S30_ S34_
   refine sv (v := (Value.iface 150 (vQ b31_))) (by kernel_rfl) ?_
   refine sv (v := (vA #[(Value.iface 150 (vQ b31_))])) (by kernel_rfl) ?_
   refine S_list (T_box (v := (vA #[(Value.iface 150 (vQ b31_))])) rfl H33_ ?_)
   intro b36_ w37_ S39_ H38_
   have S40_ := Same.trans S35_ S39_
   refine S_list (T_new (obj := .cells #[(vQ b36_)] 149) (f := fun b__ => .slice (some ⟨b__, 0, none⟩) 1 1) (A := fun b__ => cl b__ 149 [(vQ b36_)]) (by kernel_rfl) (fun l h => h.alloc _ _) H38_ ?_)
   intro b41_ w42_ S44_ H43_
   have S45_ := Same.trans S40_ S44_
   refine S_list (T_append rfl rfl underlying104 z149 rfl (by decide) H43_ 4 rfl (Holds.cl_src H43_ 0 rfl underlying104 (by simp [Value.oneCell']) rfl) (by first | omega | (simp only [List.length_append, List.length_cons, List.length_nil]; omega)) ?_)
   intro v46_ w47_ S49_ H48_
   have S50_ := Same.trans S45_ S49_
   refine sv (v := v46_) (x_assign rfl) ?_
   refine wpList_nil (X_blkN (X_blkN (X_then (hK12_ _ _ ?_))))
   refine C_reg ?_
   refine sm (vI .i64 (k : Int)) ?_
   refine sv (v := (vI .i64 ((k : Int) + 1))) (x_bin rfl rfl (ib_add (IntWalk.i64_in _ (by omega)))) ?_
   refine sv (v := (vI .i64 ((k : Int) + 1))) (x_assign rfl) ?_
   refine wpList_nil (X_then ?_)
   have H51_ := ((Holds.bring (Holds.bring H48_ 2 rfl) 3 rfl) :)
   obtain ⟨R52_, hs53_, ⟨R54_, ha55_, hs56_⟩, H57_⟩ := Holds.gift H51_
   have hz_R_R52_ := Sub.trans' hz_R_R21_ hs53_
   have hz_R1_R52_ := Sub.trans' hs20_ hs53_
   have hr58_ : RC R52_ b31_ 0 [(vQ b23_)] := (cl_RC ha55_ (Sub.rfl' _)).mono hs56_
   have H59_ := ((Holds.bring (Holds.bring H57_ 2 rfl) 1 rfl) :)
   obtain ⟨R60_, hs61_, ⟨R62_, ha63_, hs64_⟩, H65_⟩ := Holds.gift H59_
   have hz_R_R60_ := Sub.trans' hz_R_R52_ hs61_
   have hz_R1_R60_ := Sub.trans' hz_R1_R52_ hs61_
   have hz_R21__R60_ := Sub.trans' hs53_ hs61_
   have hr66_ : RC R60_ b36_ 0 [(Value.iface 150 (vQ b31_))] := (cl_RC ha63_ (Sub.rfl' _)).mono hs64_
   have hop67_ : FOp R60_ b36_ x14_ := FOp.rng b31_ (by omega) hr66_
   have H68_ := Holds.resl H65_ 2 rfl (by rw [List.map_append]; rfl : (C.map pv) ++ [(vQ b36_)] = (C ++ [b36_]).map pv) (by rw [List.length_append]; rfl : (List.length C) + 1 = (List.length (C ++ [b36_])))
   have H69_ := Holds.pkF H68_ [2, 0] 1
   exact ⟨⟨R60_, k + 1, v46_, (C ++ [b36_])⟩, ⟨_, congrArg (fun e => mkA 77 e []) (ch (ch (ch (ch rfl rfl) rfl) rfl) (congrArg (vI .i64) ((by first | rfl | omega | (simp; done) | (simp; omega)) : (k : Int) + 1 = ((k + 1 : Nat) : Int)))), H69_, S50_, (hz_R_R60_), (by first | assumption | omega | exact rfl), (by rw [List.length_append, hCl]; rfl), (All2.snoc (FOp.all hz_R1_R60_ hC) hx15_ hop67_)⟩, by first | omega | (dsimp only; omega) | (simp; omega)⟩
  ·have c19_fp : ¬ (x14_.q.kind = 1) := of_decide_eq_false c19_f
   refine cr fun _ hK70_ => ?_
   refine sv (v := (vB (decide (x14_.q.kind = 2)))) (x_bin rfl rfl rfl) ?_
   refine sv (v := (vB (decide (x14_.q.kind = 2)))) (x_assign rfl) ?_
   refine wn (hK70_ _ _ ?_)
   refine C_cond (b := decide (x14_.q.kind = 2)) rfl (fun c71_t => ?_) (fun c71_f => ?_)
   ·have c71_tp : x14_.q.kind = 2 := of_decide_eq_true c71_t
    refine C_reg ?_
    refine sv (v := cv) (x_move rfl) ?_
    refine sv (v := v) (x_move rfl) ?_
    refine sm (vI .i64 (k : Int)) ?_
    refine sv (v := (vP (some ⟨(sb v), so v + (k * 21 + 0), none⟩))) (x_idxRS (v := v) rfl (RS.mono hL hsR1) rfl underlying23 z25 (by omega) (by omega) (by omega : _ = k) rfl) ?_
    refine sv (v := (vA #[(vI .i64 x14_.q.kind), (Value.string x14_.q.key), (Value.string x14_.q.end_), (Value.string x14_.q.value), (vI .i64 x14_.q.lease), (vI .i64 x14_.q.rev), (vI .i64 x14_.q.limit), (vI .i64 x14_.q.sortOrder), (vI .i64 x14_.q.sortTarget), (vI .i64 x14_.q.minMod), (vI .i64 x14_.q.maxMod), (vI .i64 x14_.q.minCreate), (vI .i64 x14_.q.maxCreate), (vB x14_.q.keysOnly), (vB x14_.q.countOnly), (vB x14_.q.prev), (vB x14_.q.ignoreValue), (vB x14_.q.ignoreLease), x14_.q.cmps, x14_.q.then_, x14_.q.else_])) (x_loadN (vs := [(vI .i64 x14_.q.kind), (Value.string x14_.q.key), (Value.string x14_.q.end_), (Value.string x14_.q.value), (vI .i64 x14_.q.lease), (vI .i64 x14_.q.rev), (vI .i64 x14_.q.limit), (vI .i64 x14_.q.sortOrder), (vI .i64 x14_.q.sortTarget), (vI .i64 x14_.q.minMod), (vI .i64 x14_.q.maxMod), (vI .i64 x14_.q.minCreate), (vI .i64 x14_.q.maxCreate), (vB x14_.q.keysOnly), (vB x14_.q.countOnly), (vB x14_.q.prev), (vB x14_.q.ignoreValue), (vB x14_.q.ignoreLease), x14_.q.cmps, x14_.q.then_, x14_.q.else_]) rfl underlying25 rfl z25 rfl (RC.cells (RS.rc (RS.mono hL hsR1)) (Holds.ro_at H7_ 1 rfl) (k * 21 + 0) (fm_cells RT.len hx15_ (i := 0) rfl))) ?_
    have H77_ := ((Holds.bring H7_ 1 rfl) :)
    refine S_list (T_callG (al := [(vA #[(vI .i64 x14_.q.kind), (Value.string x14_.q.key), (Value.string x14_.q.end_), (Value.string x14_.q.value), (vI .i64 x14_.q.lease), (vI .i64 x14_.q.rev), (vI .i64 x14_.q.limit), (vI .i64 x14_.q.sortOrder), (vI .i64 x14_.q.sortTarget), (vI .i64 x14_.q.minMod), (vI .i64 x14_.q.maxMod), (vI .i64 x14_.q.minCreate), (vI .i64 x14_.q.maxCreate), (vB x14_.q.keysOnly), (vB x14_.q.countOnly), (vB x14_.q.prev), (vB x14_.q.ignoreValue), (vB x14_.q.ignoreLease), x14_.q.cmps, x14_.q.then_, x14_.q.else_])]) (pre := []) rfl rfl cb44 (ovPutIn R1 x14_) H77_ ?_)
    rintro R73_ v74_ p81_ w78_ hs72_ ⟨b75_, rfl, rfl, he76_⟩ S80_ H79_
    have S82_ := Same.trans S8_ S80_
    have hz_R_R73_ := Sub.trans' hsR1 hs72_
    refine sv (v := (vA #[(vQ b75_)])) (by kernel_rfl) ?_
    refine S_list (T_box (v := (vA #[(vQ b75_)])) rfl H79_ ?_)
    intro b83_ w84_ S86_ H85_
    have S87_ := Same.trans S82_ S86_
    refine sv (v := (Value.iface 155 (vQ b83_))) (by kernel_rfl) ?_
    refine sv (v := (vA #[(Value.iface 155 (vQ b83_))])) (by kernel_rfl) ?_
    refine S_list (T_box (v := (vA #[(Value.iface 155 (vQ b83_))])) rfl H85_ ?_)
    intro b88_ w89_ S91_ H90_
    have S92_ := Same.trans S87_ S91_
    refine S_list (T_new (obj := .cells #[(vQ b88_)] 149) (f := fun b__ => .slice (some ⟨b__, 0, none⟩) 1 1) (A := fun b__ => cl b__ 149 [(vQ b88_)]) (by kernel_rfl) (fun l h => h.alloc _ _) H90_ ?_)
    intro b93_ w94_ S96_ H95_
    have S97_ := Same.trans S92_ S96_
    refine S_list (T_append rfl rfl underlying104 z149 rfl (by decide) H95_ 4 rfl (Holds.cl_src H95_ 0 rfl underlying104 (by simp [Value.oneCell']) rfl) (by first | omega | (simp only [List.length_append, List.length_cons, List.length_nil]; omega)) ?_)
    intro v98_ w99_ S101_ H100_
    have S102_ := Same.trans S97_ S101_
    refine sv (v := v98_) (x_assign rfl) ?_
    refine wpList_nil (X_blkN (X_blkN (X_then (hK12_ _ _ ?_))))
    refine C_reg ?_
    refine sm (vI .i64 (k : Int)) ?_
    refine sv (v := (vI .i64 ((k : Int) + 1))) (x_bin rfl rfl (ib_add (IntWalk.i64_in _ (by omega)))) ?_
    refine sv (v := (vI .i64 ((k : Int) + 1))) (x_assign rfl) ?_
    refine wpList_nil (X_then ?_)
    have H103_ := ((Holds.bring (Holds.bring H100_ 2 rfl) 3 rfl) :)
    obtain ⟨R104_, hs105_, ⟨R106_, ha107_, hs108_⟩, H109_⟩ := Holds.gift H103_
    have hz_R_R104_ := Sub.trans' hz_R_R73_ hs105_
    have hz_R1_R104_ := Sub.trans' hs72_ hs105_
    have hr110_ : RC R104_ b83_ 0 [(vQ b75_)] := (cl_RC ha107_ (Sub.rfl' _)).mono hs108_
    have H111_ := ((Holds.bring (Holds.bring H109_ 2 rfl) 1 rfl) :)
    obtain ⟨R112_, hs113_, ⟨R114_, ha115_, hs116_⟩, H117_⟩ := Holds.gift H111_
    have hz_R_R112_ := Sub.trans' hz_R_R104_ hs113_
    have hz_R1_R112_ := Sub.trans' hz_R1_R104_ hs113_
    have hz_R73__R112_ := Sub.trans' hs105_ hs113_
    have hr118_ : RC R112_ b88_ 0 [(Value.iface 155 (vQ b83_))] := (cl_RC ha115_ (Sub.rfl' _)).mono hs116_
    have hop119_ : FOp R112_ b88_ x14_ := FOp.put b83_ b75_ (by omega) hr118_ (hr110_.mono hs113_) (he76_.mono hz_R73__R112_)
    have H120_ := Holds.resl H117_ 2 rfl (by rw [List.map_append]; rfl : (C.map pv) ++ [(vQ b88_)] = (C ++ [b88_]).map pv) (by rw [List.length_append]; rfl : (List.length C) + 1 = (List.length (C ++ [b88_])))
    have H121_ := Holds.pkF H120_ [2, 0] 1
    exact ⟨⟨R112_, k + 1, v98_, (C ++ [b88_])⟩, ⟨_, congrArg (fun e => mkA 77 e []) (ch (ch (ch (ch rfl rfl) rfl) rfl) (congrArg (vI .i64) ((by first | rfl | omega | (simp; done) | (simp; omega)) : (k : Int) + 1 = ((k + 1 : Nat) : Int)))), H121_, S102_, (hz_R_R112_), (by first | assumption | omega | exact rfl), (by rw [List.length_append, hCl]; rfl), (All2.snoc (FOp.all hz_R1_R112_ hC) hx15_ hop119_)⟩, by first | omega | (dsimp only; omega) | (simp; omega)⟩
   ·have c71_fp : ¬ (x14_.q.kind = 2) := of_decide_eq_false c71_f
    refine cr fun _ hK122_ => ?_
    refine sv (v := (vB (decide (x14_.q.kind = 3)))) (x_bin rfl rfl rfl) ?_
    refine sv (v := (vB (decide (x14_.q.kind = 3)))) (x_assign rfl) ?_
    refine wn (hK122_ _ _ ?_)
    refine C_cond (b := decide (x14_.q.kind = 3)) rfl (fun c123_t => ?_) (fun c123_f => ?_)
    ·have c123_tp : x14_.q.kind = 3 := of_decide_eq_true c123_t
     refine C_reg ?_
     refine sv (v := cv) (x_move rfl) ?_
     refine sv (v := v) (x_move rfl) ?_
     refine sm (vI .i64 (k : Int)) ?_
     refine sv (v := (vP (some ⟨(sb v), so v + (k * 21 + 0), none⟩))) (x_idxRS (v := v) rfl (RS.mono hL hsR1) rfl underlying23 z25 (by omega) (by omega) (by omega : _ = k) rfl) ?_
     refine sv (v := (vA #[(vI .i64 x14_.q.kind), (Value.string x14_.q.key), (Value.string x14_.q.end_), (Value.string x14_.q.value), (vI .i64 x14_.q.lease), (vI .i64 x14_.q.rev), (vI .i64 x14_.q.limit), (vI .i64 x14_.q.sortOrder), (vI .i64 x14_.q.sortTarget), (vI .i64 x14_.q.minMod), (vI .i64 x14_.q.maxMod), (vI .i64 x14_.q.minCreate), (vI .i64 x14_.q.maxCreate), (vB x14_.q.keysOnly), (vB x14_.q.countOnly), (vB x14_.q.prev), (vB x14_.q.ignoreValue), (vB x14_.q.ignoreLease), x14_.q.cmps, x14_.q.then_, x14_.q.else_])) (x_loadN (vs := [(vI .i64 x14_.q.kind), (Value.string x14_.q.key), (Value.string x14_.q.end_), (Value.string x14_.q.value), (vI .i64 x14_.q.lease), (vI .i64 x14_.q.rev), (vI .i64 x14_.q.limit), (vI .i64 x14_.q.sortOrder), (vI .i64 x14_.q.sortTarget), (vI .i64 x14_.q.minMod), (vI .i64 x14_.q.maxMod), (vI .i64 x14_.q.minCreate), (vI .i64 x14_.q.maxCreate), (vB x14_.q.keysOnly), (vB x14_.q.countOnly), (vB x14_.q.prev), (vB x14_.q.ignoreValue), (vB x14_.q.ignoreLease), x14_.q.cmps, x14_.q.then_, x14_.q.else_]) rfl underlying25 rfl z25 rfl (RC.cells (RS.rc (RS.mono hL hsR1)) (Holds.ro_at H7_ 1 rfl) (k * 21 + 0) (fm_cells RT.len hx15_ (i := 0) rfl))) ?_
     have H129_ := ((Holds.bring H7_ 1 rfl) :)
     refine S_list (T_callG (al := [(vA #[(vI .i64 x14_.q.kind), (Value.string x14_.q.key), (Value.string x14_.q.end_), (Value.string x14_.q.value), (vI .i64 x14_.q.lease), (vI .i64 x14_.q.rev), (vI .i64 x14_.q.limit), (vI .i64 x14_.q.sortOrder), (vI .i64 x14_.q.sortTarget), (vI .i64 x14_.q.minMod), (vI .i64 x14_.q.maxMod), (vI .i64 x14_.q.minCreate), (vI .i64 x14_.q.maxCreate), (vB x14_.q.keysOnly), (vB x14_.q.countOnly), (vB x14_.q.prev), (vB x14_.q.ignoreValue), (vB x14_.q.ignoreLease), x14_.q.cmps, x14_.q.then_, x14_.q.else_])]) (pre := []) rfl rfl cb46 (ovDelIn R1 x14_) H129_ ?_)
     rintro R125_ v126_ p133_ w130_ hs124_ ⟨b127_, rfl, rfl, he128_⟩ S132_ H131_
     have S134_ := Same.trans S8_ S132_
     have hz_R_R125_ := Sub.trans' hsR1 hs124_
     refine sv (v := (vA #[(vQ b127_)])) (by kernel_rfl) ?_
     refine S_list (T_box (v := (vA #[(vQ b127_)])) rfl H131_ ?_)
     intro b135_ w136_ S138_ H137_
     have S139_ := Same.trans S134_ S138_
     refine sv (v := (Value.iface 158 (vQ b135_))) (by kernel_rfl) ?_
     refine sv (v := (vA #[(Value.iface 158 (vQ b135_))])) (by kernel_rfl) ?_
     refine S_list (T_box (v := (vA #[(Value.iface 158 (vQ b135_))])) rfl H137_ ?_)
     intro b140_ w141_ S143_ H142_
     have S144_ := Same.trans S139_ S143_
     refine S_list (T_new (obj := .cells #[(vQ b140_)] 149) (f := fun b__ => .slice (some ⟨b__, 0, none⟩) 1 1) (A := fun b__ => cl b__ 149 [(vQ b140_)]) (by kernel_rfl) (fun l h => h.alloc _ _) H142_ ?_)
     intro b145_ w146_ S148_ H147_
     have S149_ := Same.trans S144_ S148_
     refine S_list (T_append rfl rfl underlying104 z149 rfl (by decide) H147_ 4 rfl (Holds.cl_src H147_ 0 rfl underlying104 (by simp [Value.oneCell']) rfl) (by first | omega | (simp only [List.length_append, List.length_cons, List.length_nil]; omega)) ?_)
     intro v150_ w151_ S153_ H152_
     have S154_ := Same.trans S149_ S153_
     refine sv (v := v150_) (x_assign rfl) ?_
     refine wpList_nil (X_blkN (X_blkN (X_then (hK12_ _ _ ?_))))
     refine C_reg ?_
     refine sm (vI .i64 (k : Int)) ?_
     refine sv (v := (vI .i64 ((k : Int) + 1))) (x_bin rfl rfl (ib_add (IntWalk.i64_in _ (by omega)))) ?_
     refine sv (v := (vI .i64 ((k : Int) + 1))) (x_assign rfl) ?_
     refine wpList_nil (X_then ?_)
     have H155_ := ((Holds.bring (Holds.bring H152_ 2 rfl) 3 rfl) :)
     obtain ⟨R156_, hs157_, ⟨R158_, ha159_, hs160_⟩, H161_⟩ := Holds.gift H155_
     have hz_R_R156_ := Sub.trans' hz_R_R125_ hs157_
     have hz_R1_R156_ := Sub.trans' hs124_ hs157_
     have hr162_ : RC R156_ b135_ 0 [(vQ b127_)] := (cl_RC ha159_ (Sub.rfl' _)).mono hs160_
     have H163_ := ((Holds.bring (Holds.bring H161_ 2 rfl) 1 rfl) :)
     obtain ⟨R164_, hs165_, ⟨R166_, ha167_, hs168_⟩, H169_⟩ := Holds.gift H163_
     have hz_R_R164_ := Sub.trans' hz_R_R156_ hs165_
     have hz_R1_R164_ := Sub.trans' hz_R1_R156_ hs165_
     have hz_R125__R164_ := Sub.trans' hs157_ hs165_
     have hr170_ : RC R164_ b140_ 0 [(Value.iface 158 (vQ b135_))] := (cl_RC ha167_ (Sub.rfl' _)).mono hs168_
     have hop171_ : FOp R164_ b140_ x14_ := FOp.del b135_ b127_ (by omega) hr170_ (hr162_.mono hs165_) (he128_.mono hz_R125__R164_)
     have H172_ := Holds.resl H169_ 2 rfl (by rw [List.map_append]; rfl : (C.map pv) ++ [(vQ b140_)] = (C ++ [b140_]).map pv) (by rw [List.length_append]; rfl : (List.length C) + 1 = (List.length (C ++ [b140_])))
     have H173_ := Holds.pkF H172_ [2, 0] 1
     exact ⟨⟨R164_, k + 1, v150_, (C ++ [b140_])⟩, ⟨_, congrArg (fun e => mkA 77 e []) (ch (ch (ch (ch rfl rfl) rfl) rfl) (congrArg (vI .i64) ((by first | rfl | omega | (simp; done) | (simp; omega)) : (k : Int) + 1 = ((k + 1 : Nat) : Int)))), H173_, S154_, (hz_R_R164_), (by first | assumption | omega | exact rfl), (by rw [List.length_append, hCl]; rfl), (All2.snoc (FOp.all hz_R1_R164_ hC) hx15_ hop171_)⟩, by first | omega | (dsimp only; omega) | (simp; omega)⟩
    ·have c123_fp : ¬ (x14_.q.kind = 3) := of_decide_eq_false c123_f
     omega
 ·have c11_fp : ¬ ((k : Int) < ((List.length L) : Int)) := of_decide_eq_false c11_f
  refine C_exit (X_thenX (X_thenX (X_blkHit ?_)))
  refine (X_then (hK3_ _ _ ?_))
  refine cr fun _ hK174_ => ?_
  refine sv (v := cv) (x_move rfl) ?_
  refine sv (v := cv) (x_assign rfl) ?_
  refine wn (hK174_ _ _ ?_)
  refine C_ret ?_
  refine R_any (v := cv) (run_results1 rfl rfl) ?_
  have H175_ := ((Holds.bring H7_ 1 rfl) :)
  obtain ⟨R176_, hs177_, ⟨R178_, ha179_, hs180_⟩, H181_⟩ := Holds.gift H175_
  have hz_R_R176_ := Sub.trans' hsR1 hs177_
  have hr182_ : RS R176_ 1 cv (List.length C) (C.map pv) := (sl_RS ha179_ (Sub.rfl' _)).mono hs180_
  exact ⟨R176_, _, _, rfl, hz_R_R176_, ⟨cv, C, rfl, rfl, (hr182_), (by rw [List.take_of_length_le (by omega)] at hC; exact FOp.all hs177_ hC)⟩, S8_, H181_⟩
end Go.Proofs.Ytlnihndjepjagaa
set_option linter.unusedVariables false
set_option linter.unusedSimpArgs false
namespace Go.Proofs.Ytlnihndjepjagaa
open Go Go.RowKit Gw Try
open Go.Value renaming int → vI, bool → vB, slice → vS, pointer → vP, agg → vA, tuple → vT

theorem nz {t : ByteArray} (h : (t.toList == (ByteArray.mk #[]).toList) = false) : t.size ≠ 0 := by
  intro h0
  rw [toList_data, toList_data, nil_size.2 h0] at h
  exact absurd h (by decide)
theorem zz {t : ByteArray} (h : (!(t.toList == (ByteArray.mk #[]).toList)) = false) : t.size = 0 := by
  rw [Bool.not_eq_false', beq_iff_eq, toList_data, toList_data] at h
  exact nil_size.1 h
theorem lt_of {a b : ByteArray} (h : (Op.bytesLess b.toList a.toList || b.toList == a.toList) = false) : Op.bytesLess a.toList b.toList = true := by
  have h1 := cb_c2 (Bool.or_eq_false_iff.1 h).1 (by rw [h]; rfl)
  have h2 := cb_flip b.data.toList a.data.toList
  have h3 := (@bl_lt a.data.toList b.data.toList).2 (by omega)
  rw [toList_data, toList_data]
  exact h3
theorem prp_go {L : List RT} {k : Nat} {x : RT} (h : ∀ x ∈ L.take k, PrpR x) (hx : L[k]? = some x) (hp : PrpR x) : ∀ x ∈ L.take (k + 1), PrpR x := by
  rw [take_snoc hx]
  intro y hy
  rcases List.mem_append.1 hy with hy | hy
  · exact h y hy
  · rw [List.mem_singleton.1 hy]; exact hp

set_option maxHeartbeats 8000000 in
theorem ovProper_step (R : HP) (v : Value) (L : List RT) (n__ : Nat) (hL : RS R 21 v (List.length L) (L.flatMap RT.cells)) (hR : RAts R L) (hl : L.length ≤ 1000000000000000) (hn__ : (lsz L) ≤ n__) (ih : ∀ (R : HP) (v : Value) (L : List RT) (hL : RS R 21 v (List.length L) (L.flatMap RT.cells)) (hR : RAts R L) (hl : L.length ≤ 1000000000000000) (hms : (lsz L) < n__), Tri Try.prog 17 #[v] R [] (fun v__ post__ => ∃ (b : Bool), v__ = (vB b) ∧ post__ = [] ∧ (b = true → ∀ x ∈ L, PrpR x))) :
    Tri Try.prog 17 #[v] R [] (fun v__ post__ => ∃ (b : Bool), v__ = (vB b) ∧ post__ = [] ∧ (b = true → ∀ x ∈ L, PrpR x)) := by
 refine Tri.into (n := 53) (al := [v]) func17 rfl ntmps17 rfl rfl fun w F H => ?_
 refine cr fun _ hK1_ => ?_
 refine sv (v := (vB false)) (x_assign rfl) ?_
 refine wn (hK1_ _ _ ?_)
 refine C_seq (fun _ hK2_ => ?_)
 refine cr fun _ hK3_ => ?_
 refine sv (v := v) (x_move rfl) ?_
 refine sv (v := (vI .i64 ((List.length L) : Int))) (x_lenRS rfl hL underlying23) ?_
 refine sm (vI .i64 0) ?_
 refine wn (hK3_ _ _ ?_)
 refine C_block ?_
 refine C_loop (γ := Nat × Bool) (fun x__ a__ w1__ => match x__ with | ⟨k, t2_v⟩ => ∃ h : Env, a__ = mkA 53 (upd (upd (upd (upd h 2 (vB t2_v)) 5 v) 6 (vI .i64 ((List.length L) : Int))) 7 (vI .i64 (k : Int))) [] ∧ Holds w1__ (ro R :: F) ∧ Same w w1__ ∧ (k ≤ L.length) ∧ (∀ x ∈ L.take k, PrpR x)) (fun x__ => match x__ with | ⟨k, t2_v⟩ => L.length - k) (⟨0, false⟩) ⟨_, congrArg (fun e => mkA 53 e []) (ch (ch (ch (ch rfl rfl) rfl) rfl) (congrArg (vI .i64) ((by first | rfl | omega | (simp; done) | (simp; omega)) : 0 = (0 : Int)))), H, (Same.refl w), (by first | assumption | omega | exact rfl), (fun x hx => by simp at hx)⟩ ?_
 rintro ⟨k, t2_v⟩ _ w4_ ⟨h, rfl, H5_, S6_, hk, hin⟩
 refine cr fun _ hK7_ => ?_
 refine sv (v := (vB (decide ((k : Int) < ((List.length L) : Int))))) (x_bin rfl rfl rfl) ?_
 refine wn (hK7_ _ _ ?_)
 refine C_seq (fun _ hK8_ => ?_)
 refine C_cond (b := decide ((k : Int) < ((List.length L) : Int))) rfl (fun c9_t => ?_) (fun c9_f => ?_)
 ·have c9_tp : (k : Int) < ((List.length L) : Int) := of_decide_eq_true c9_t
  refine C_skip (X_then (hK8_ _ _ ?_))
  refine C_seq (fun _ hK10_ => ?_)
  refine C_block ?_
  refine cr fun _ hK11_ => ?_
  obtain ⟨x12_, hx13_, hm14_⟩ := elem_at L k (by omega)
  have hra15_ := hR x12_ hm14_
  have := hra15_.b
  have := RT.sz_mem hm14_
  have := RT.sz_tt x12_
  have := RT.sz_ee x12_
  refine sv (v := (vP (some ⟨(sb v), so v + (k * 21 + 0), none⟩))) (x_idxRS (v := v) rfl hL rfl underlying23 z25 (by omega) (by omega) (by omega : _ = k) rfl) ?_
  refine sv (v := (vA #[(vI .i64 x12_.q.kind), (Value.string x12_.q.key), (Value.string x12_.q.end_), (Value.string x12_.q.value), (vI .i64 x12_.q.lease), (vI .i64 x12_.q.rev), (vI .i64 x12_.q.limit), (vI .i64 x12_.q.sortOrder), (vI .i64 x12_.q.sortTarget), (vI .i64 x12_.q.minMod), (vI .i64 x12_.q.maxMod), (vI .i64 x12_.q.minCreate), (vI .i64 x12_.q.maxCreate), (vB x12_.q.keysOnly), (vB x12_.q.countOnly), (vB x12_.q.prev), (vB x12_.q.ignoreValue), (vB x12_.q.ignoreLease), x12_.q.cmps, x12_.q.then_, x12_.q.else_])) (x_loadN (vs := [(vI .i64 x12_.q.kind), (Value.string x12_.q.key), (Value.string x12_.q.end_), (Value.string x12_.q.value), (vI .i64 x12_.q.lease), (vI .i64 x12_.q.rev), (vI .i64 x12_.q.limit), (vI .i64 x12_.q.sortOrder), (vI .i64 x12_.q.sortTarget), (vI .i64 x12_.q.minMod), (vI .i64 x12_.q.maxMod), (vI .i64 x12_.q.minCreate), (vI .i64 x12_.q.maxCreate), (vB x12_.q.keysOnly), (vB x12_.q.countOnly), (vB x12_.q.prev), (vB x12_.q.ignoreValue), (vB x12_.q.ignoreLease), x12_.q.cmps, x12_.q.then_, x12_.q.else_]) rfl underlying25 rfl z25 rfl (RC.cells (RS.rc hL) (Holds.ro_at H5_ 0 rfl) (k * 21 + 0) (fm_cells RT.len hx13_ (i := 0) rfl))) ?_
  refine S_list (T_alloc z25 H5_ ?_)
  intro b16_ w17_ S19_ H18_
  have S20_ := Same.trans S6_ S19_
  refine S_list0 (T_storeN (vs := [(vI .i64 x12_.q.kind), (Value.string x12_.q.key), (Value.string x12_.q.end_), (Value.string x12_.q.value), (vI .i64 x12_.q.lease), (vI .i64 x12_.q.rev), (vI .i64 x12_.q.limit), (vI .i64 x12_.q.sortOrder), (vI .i64 x12_.q.sortTarget), (vI .i64 x12_.q.minMod), (vI .i64 x12_.q.maxMod), (vI .i64 x12_.q.minCreate), (vI .i64 x12_.q.maxCreate), (vB x12_.q.keysOnly), (vB x12_.q.countOnly), (vB x12_.q.prev), (vB x12_.q.ignoreValue), (vB x12_.q.ignoreLease), x12_.q.cmps, x12_.q.then_, x12_.q.else_]) rfl rfl z25 rfl (List.forall_mem_cons.2 ⟨rfl, (List.forall_mem_cons.2 ⟨rfl, (List.forall_mem_cons.2 ⟨rfl, (List.forall_mem_cons.2 ⟨rfl, (List.forall_mem_cons.2 ⟨rfl, (List.forall_mem_cons.2 ⟨rfl, (List.forall_mem_cons.2 ⟨rfl, (List.forall_mem_cons.2 ⟨rfl, (List.forall_mem_cons.2 ⟨rfl, (List.forall_mem_cons.2 ⟨rfl, (List.forall_mem_cons.2 ⟨rfl, (List.forall_mem_cons.2 ⟨rfl, (List.forall_mem_cons.2 ⟨rfl, (List.forall_mem_cons.2 ⟨rfl, (List.forall_mem_cons.2 ⟨rfl, (List.forall_mem_cons.2 ⟨rfl, (List.forall_mem_cons.2 ⟨rfl, (List.forall_mem_cons.2 ⟨rfl, (List.forall_mem_cons.2 ⟨(RS.one (hra15_.c)), (List.forall_mem_cons.2 ⟨(RS.one (hra15_.t)), (List.forall_mem_cons.2 ⟨(RS.one (hra15_.e)), (fun _ h__ => by cases h__)⟩)⟩)⟩)⟩)⟩)⟩)⟩)⟩)⟩)⟩)⟩)⟩)⟩)⟩)⟩)⟩)⟩)⟩)⟩)⟩)⟩) H18_ 0 rfl (Nat.le_of_ble_eq_true (by rfl)) ?_)
  intro w21_ S23_ H22_
  have S24_ := Same.trans S20_ S23_
  refine wn (hK11_ _ _ ?_)
  refine cr fun _ hK25_ => ?_
  refine sv (v := (vQ b16_)) (by kernel_rfl) ?_
  refine sv (v := (vI .i64 x12_.q.kind)) (x_load1 rfl underlying3 rfl ((Holds.rd H22_ 0 rfl) 0 (vI .i64 x12_.q.kind) rfl)) ?_
  refine wn (hK25_ _ _ ?_)
  refine C_block ?_
  refine cr fun _ hK26_ => ?_
  refine sv (v := (vB (decide (x12_.q.kind = 2)))) (x_bin rfl rfl rfl) ?_
  refine sv (v := (vB (decide (x12_.q.kind = 2)))) (x_assign rfl) ?_
  refine wn (hK26_ _ _ ?_)
  refine C_cond (b := decide (x12_.q.kind = 2)) rfl (fun c27_t => ?_) (fun c27_f => ?_)
  ·have c27_tp : x12_.q.kind = 2 := of_decide_eq_true c27_t
   refine cr fun _ hK28_ => ?_
   refine sv (v := (vP (some ⟨b16_, 1, none⟩))) (by kernel_rfl) ?_
   refine sv (v := (Value.string x12_.q.key)) (x_load1 rfl underlying9 rfl ((Holds.rd H22_ 0 rfl) 1 (Value.string x12_.q.key) rfl)) ?_
   refine sv (v := (vB (x12_.q.key.toList == (ByteArray.mk #[]).toList))) (x_str rfl rfl rfl (by decide)) ?_
   refine wn (hK28_ _ _ ?_)
   refine C_cond (b := x12_.q.key.toList == (ByteArray.mk #[]).toList) rfl (fun c29_t => ?_) (fun c29_f => ?_)
   ·skip
    refine cr fun _ hK30_ => ?_
    refine sv (v := (vB false)) (x_assign rfl) ?_
    refine wn (hK30_ _ _ ?_)
    refine C_ret (X_blkR (X_blkR (X_thenR (X_thenR (X_blkR (X_thenR ?_))))))
    refine R_any (v := (vB false)) (run_results1 rfl rfl) ?_
    have H31_ := Holds.pkF H22_ [1] 1
    exact ⟨_, _, rfl, ⟨false, rfl, rfl, (fun h => by cases h)⟩, S24_, H31_⟩
   ·skip
    refine C_skip (X_blkN (X_blkN (X_then (hK10_ _ _ ?_))))
    refine C_reg ?_
    refine sv (v := (vI .i64 ((k : Int) + 1))) (x_bin rfl rfl (ib_add (IntWalk.i64_in _ (by omega)))) ?_
    refine sm (vI .i64 ((k : Int) + 1)) ?_
    refine wpList_nil (X_then ?_)
    have H32_ := Holds.pkF H22_ [1] 1
    exact ⟨⟨k + 1, t2_v⟩, ⟨_, congrArg (fun e => mkA 53 e []) (ch (ch (ch (ch rfl rfl) rfl) rfl) (congrArg (vI .i64) ((by first | rfl | omega | (simp; done) | (simp; omega)) : (k : Int) + 1 = ((k + 1 : Nat) : Int)))), H32_, S24_, (by first | assumption | omega | exact rfl), (prp_go hin hx13_ ⟨fun _ => nz c29_f, fun _ => (by omega)⟩)⟩, by first | omega | (dsimp only; omega) | (simp; omega)⟩
  ·have c27_fp : ¬ (x12_.q.kind = 2) := of_decide_eq_false c27_f
   refine cr fun _ hK33_ => ?_
   refine sv (v := (vB (decide (x12_.q.kind = 3)))) (x_bin rfl rfl rfl) ?_
   refine sv (v := (vB (decide (x12_.q.kind = 3)))) (x_assign rfl) ?_
   refine wn (hK33_ _ _ ?_)
   refine C_cond (b := decide (x12_.q.kind = 3)) rfl (fun c34_t => ?_) (fun c34_f => ?_)
   ·have c34_tp : x12_.q.kind = 3 := of_decide_eq_true c34_t
    refine cr fun _ hK35_ => ?_
    refine sv (v := (vP (some ⟨b16_, 1, none⟩))) (by kernel_rfl) ?_
    refine sv (v := (Value.string x12_.q.key)) (x_load1 rfl underlying9 rfl ((Holds.rd H22_ 0 rfl) 1 (Value.string x12_.q.key) rfl)) ?_
    refine sv (v := (vB (x12_.q.key.toList == (ByteArray.mk #[]).toList))) (x_str rfl rfl rfl (by decide)) ?_
    refine sm (vB (x12_.q.key.toList == (ByteArray.mk #[]).toList)) ?_
    rcases Bool.eq_false_or_eq_true (x12_.q.key.toList == (ByteArray.mk #[]).toList) with c36_t | c36_f
    ·skip
     refine S_no (j := 3) (dj := 23) (b := true) rfl rfl (congrArg vB c36_t) (by decide) ?_
     refine S_no (j := 3) (dj := 23) (b := true) rfl rfl (congrArg vB c36_t) (by decide) ?_
     refine S_no (j := 3) (dj := 23) (b := true) rfl rfl (congrArg vB c36_t) (by decide) ?_
     refine S_no (j := 3) (dj := 23) (b := true) rfl rfl (congrArg vB c36_t) (by decide) ?_
     refine S_noU (j := 7) (dj := 27) rfl rfl rfl ?_
     refine S_noU (j := 7) (dj := 27) rfl rfl rfl ?_
     refine S_noU (j := 7) (dj := 27) rfl rfl rfl ?_
     refine S_noU (j := 7) (dj := 27) rfl rfl rfl ?_
     refine S_noU (j := 7) (dj := 27) rfl rfl rfl ?_
     refine S_noU (j := 7) (dj := 27) rfl rfl rfl ?_
     refine S_noU (j := 13) (dj := 33) rfl rfl rfl ?_
     refine S_noU (j := 13) (dj := 33) rfl rfl rfl ?_
     refine S_noU (j := 13) (dj := 33) rfl rfl rfl ?_
     refine S_noU (j := 7) (dj := 27) rfl rfl rfl ?_
     refine S_no (j := 3) (dj := 23) (b := true) rfl rfl (congrArg vB c36_t) (by decide) ?_
     refine S_list (T_pickT (v := (vB true)) (congrArg vB c36_t) rfl ?_)
     refine wn (hK35_ _ _ ?_)
     refine C_condT rfl ?_
     refine cr fun _ hK37_ => ?_
     refine sv (v := (vB false)) (x_assign rfl) ?_
     refine wn (hK37_ _ _ ?_)
     refine C_ret (X_blkR (X_blkR (X_thenR (X_thenR (X_blkR (X_thenR ?_))))))
     refine R_any (v := (vB false)) (run_results1 rfl rfl) ?_
     have H38_ := Holds.pkF H22_ [1] 1
     exact ⟨_, _, rfl, ⟨false, rfl, rfl, (fun h => by cases h)⟩, S24_, H38_⟩
    ·skip
     refine S_yes (j := 3) (dj := 23) (b := false) rfl rfl (congrArg vB c36_f) (T_val (v := (vP (some ⟨b16_, 2, none⟩))) (by kernel_rfl) ?_)
     refine S_yes (j := 3) (dj := 23) (b := false) rfl rfl (congrArg vB c36_f) (T_val (v := (Value.string x12_.q.end_)) (x_load1 rfl underlying9 rfl ((Holds.rd H22_ 0 rfl) 2 (Value.string x12_.q.end_) rfl)) ?_)
     refine S_yes (j := 3) (dj := 23) (b := false) rfl rfl (congrArg vB c36_f) (T_val (v := (vB (!(x12_.q.end_.toList == (ByteArray.mk #[]).toList)))) (x_str rfl rfl rfl (by decide)) ?_)
     refine S_yes (j := 3) (dj := 23) (b := false) rfl rfl (congrArg vB c36_f) (T_val (v := (vB (!(x12_.q.end_.toList == (ByteArray.mk #[]).toList)))) (x_move rfl) ?_)
     rcases Bool.eq_false_or_eq_true (!(x12_.q.end_.toList == (ByteArray.mk #[]).toList)) with c39_t | c39_f
     ·skip
      refine S_yes (j := 7) (dj := 27) (b := true) rfl rfl (congrArg vB c39_t) (T_val (v := (vP (some ⟨b16_, 2, none⟩))) (by kernel_rfl) ?_)
      refine S_yes (j := 7) (dj := 27) (b := true) rfl rfl (congrArg vB c39_t) (T_val (v := (Value.string x12_.q.end_)) (x_load1 rfl underlying9 rfl ((Holds.rd H22_ 0 rfl) 2 (Value.string x12_.q.end_) rfl)) ?_)
      refine S_yes (j := 7) (dj := 27) (b := true) rfl rfl (congrArg vB c39_t) (T_val (v := (vP (some ⟨b16_, 1, none⟩))) (by kernel_rfl) ?_)
      refine S_yes (j := 7) (dj := 27) (b := true) rfl rfl (congrArg vB c39_t) (T_val (v := (Value.string x12_.q.key)) (x_load1 rfl underlying9 rfl ((Holds.rd H22_ 0 rfl) 1 (Value.string x12_.q.key) rfl)) ?_)
      refine S_yes (j := 7) (dj := 27) (b := true) rfl rfl (congrArg vB c39_t) (T_val (v := (vB (Op.bytesLess x12_.q.end_.toList x12_.q.key.toList || x12_.q.end_.toList == x12_.q.key.toList))) (x_str rfl rfl rfl (by decide)) ?_)
      refine S_yes (j := 7) (dj := 27) (b := true) rfl rfl (congrArg vB c39_t) (T_val (v := (vB (Op.bytesLess x12_.q.end_.toList x12_.q.key.toList || x12_.q.end_.toList == x12_.q.key.toList))) (x_move rfl) ?_)
      rcases Bool.eq_false_or_eq_true (Op.bytesLess x12_.q.end_.toList x12_.q.key.toList || x12_.q.end_.toList == x12_.q.key.toList) with c40_t | c40_f
      ·skip
       refine S_no (j := 13) (dj := 33) (b := true) rfl rfl (congrArg vB c40_t) (by decide) ?_
       refine S_no (j := 13) (dj := 33) (b := true) rfl rfl (congrArg vB c40_t) (by decide) ?_
       refine S_no (j := 13) (dj := 33) (b := true) rfl rfl (congrArg vB c40_t) (by decide) ?_
       refine S_yes (j := 7) (dj := 27) (b := true) rfl rfl (congrArg vB c39_t) (T_pickT (v := (vB true)) (congrArg vB c40_t) rfl ?_)
       refine S_yes (j := 3) (dj := 23) (b := false) rfl rfl (congrArg vB c36_f) (T_pickT (v := (vB true)) (congrArg vB c39_t) rfl ?_)
       refine S_list (T_pickF (v := (vB true)) (congrArg vB c36_f) rfl ?_)
       refine wn (hK35_ _ _ ?_)
       refine C_condT rfl ?_
       refine cr fun _ hK41_ => ?_
       refine sv (v := (vB false)) (x_assign rfl) ?_
       refine wn (hK41_ _ _ ?_)
       refine C_ret (X_blkR (X_blkR (X_thenR (X_thenR (X_blkR (X_thenR ?_))))))
       refine R_any (v := (vB false)) (run_results1 rfl rfl) ?_
       have H42_ := Holds.pkF H22_ [1] 1
       exact ⟨_, _, rfl, ⟨false, rfl, rfl, (fun h => by cases h)⟩, S24_, H42_⟩
      ·skip
       refine S_yes (j := 13) (dj := 33) (b := false) rfl rfl (congrArg vB c40_f) (T_val (v := (vP (some ⟨b16_, 2, none⟩))) (by kernel_rfl) ?_)
       refine S_yes (j := 13) (dj := 33) (b := false) rfl rfl (congrArg vB c40_f) (T_val (v := (Value.string x12_.q.end_)) (x_load1 rfl underlying9 rfl ((Holds.rd H22_ 0 rfl) 2 (Value.string x12_.q.end_) rfl)) ?_)
       refine S_yes (j := 13) (dj := 33) (b := false) rfl rfl (congrArg vB c40_f) (T_val (v := (vB (x12_.q.end_.toList == (ByteArray.mk #[0]).toList))) (x_str rfl rfl rfl (by decide)) ?_)
       refine S_yes (j := 7) (dj := 27) (b := true) rfl rfl (congrArg vB c39_t) (T_pickF (v := (vB (x12_.q.end_.toList == (ByteArray.mk #[0]).toList))) (congrArg vB c40_f) rfl ?_)
       refine S_yes (j := 3) (dj := 23) (b := false) rfl rfl (congrArg vB c36_f) (T_pickT (v := (vB (x12_.q.end_.toList == (ByteArray.mk #[0]).toList))) (congrArg vB c39_t) rfl ?_)
       refine S_list (T_pickF (v := (vB (x12_.q.end_.toList == (ByteArray.mk #[0]).toList))) (congrArg vB c36_f) rfl ?_)
       refine wn (hK35_ _ _ ?_)
       refine C_cond (b := x12_.q.end_.toList == (ByteArray.mk #[0]).toList) rfl (fun c43_t => ?_) (fun c43_f => ?_)
       ·skip
        refine cr fun _ hK44_ => ?_
        refine sv (v := (vB false)) (x_assign rfl) ?_
        refine wn (hK44_ _ _ ?_)
        refine C_ret (X_blkR (X_blkR (X_thenR (X_thenR (X_blkR (X_thenR ?_))))))
        refine R_any (v := (vB false)) (run_results1 rfl rfl) ?_
        have H45_ := Holds.pkF H22_ [1] 1
        exact ⟨_, _, rfl, ⟨false, rfl, rfl, (fun h => by cases h)⟩, S24_, H45_⟩
       ·skip
        refine C_skip (X_blkN (X_blkN (X_then (hK10_ _ _ ?_))))
        refine C_reg ?_
        refine sv (v := (vI .i64 ((k : Int) + 1))) (x_bin rfl rfl (ib_add (IntWalk.i64_in _ (by omega)))) ?_
        refine sm (vI .i64 ((k : Int) + 1)) ?_
        refine wpList_nil (X_then ?_)
        have H46_ := Holds.pkF H22_ [1] 1
        exact ⟨⟨k + 1, t2_v⟩, ⟨_, congrArg (fun e => mkA 53 e []) (ch (ch (ch (ch rfl rfl) rfl) rfl) (congrArg (vI .i64) ((by first | rfl | omega | (simp; done) | (simp; omega)) : (k : Int) + 1 = ((k + 1 : Nat) : Int)))), H46_, S24_, (by first | assumption | omega | exact rfl), (prp_go hin hx13_ ⟨fun _ => (by omega), fun _ => ⟨nz c36_f, fun h0__ => lt_of c40_f⟩⟩)⟩, by first | omega | (dsimp only; omega) | (simp; omega)⟩
     ·skip
      refine S_no (j := 7) (dj := 27) (b := false) rfl rfl (congrArg vB c39_f) (by decide) ?_
      refine S_no (j := 7) (dj := 27) (b := false) rfl rfl (congrArg vB c39_f) (by decide) ?_
      refine S_no (j := 7) (dj := 27) (b := false) rfl rfl (congrArg vB c39_f) (by decide) ?_
      refine S_no (j := 7) (dj := 27) (b := false) rfl rfl (congrArg vB c39_f) (by decide) ?_
      refine S_no (j := 7) (dj := 27) (b := false) rfl rfl (congrArg vB c39_f) (by decide) ?_
      refine S_no (j := 7) (dj := 27) (b := false) rfl rfl (congrArg vB c39_f) (by decide) ?_
      refine S_noU (j := 13) (dj := 33) rfl rfl rfl ?_
      refine S_noU (j := 13) (dj := 33) rfl rfl rfl ?_
      refine S_noU (j := 13) (dj := 33) rfl rfl rfl ?_
      refine S_no (j := 7) (dj := 27) (b := false) rfl rfl (congrArg vB c39_f) (by decide) ?_
      refine S_yes (j := 3) (dj := 23) (b := false) rfl rfl (congrArg vB c36_f) (T_pickF (v := (vB false)) (congrArg vB c39_f) rfl ?_)
      refine S_list (T_pickF (v := (vB false)) (congrArg vB c36_f) rfl ?_)
      refine wn (hK35_ _ _ ?_)
      refine C_condF rfl ?_
      refine C_skip (X_blkN (X_blkN (X_then (hK10_ _ _ ?_))))
      refine C_reg ?_
      refine sv (v := (vI .i64 ((k : Int) + 1))) (x_bin rfl rfl (ib_add (IntWalk.i64_in _ (by omega)))) ?_
      refine sm (vI .i64 ((k : Int) + 1)) ?_
      refine wpList_nil (X_then ?_)
      have H47_ := Holds.pkF H22_ [1] 1
      exact ⟨⟨k + 1, t2_v⟩, ⟨_, congrArg (fun e => mkA 53 e []) (ch (ch (ch (ch rfl rfl) rfl) rfl) (congrArg (vI .i64) ((by first | rfl | omega | (simp; done) | (simp; omega)) : (k : Int) + 1 = ((k + 1 : Nat) : Int)))), H47_, S24_, (by first | assumption | omega | exact rfl), (prp_go hin hx13_ ⟨fun _ => (by omega), fun _ => ⟨nz c36_f, fun h0__ => absurd (zz c39_f) h0__⟩⟩)⟩, by first | omega | (dsimp only; omega) | (simp; omega)⟩
   ·have c34_fp : ¬ (x12_.q.kind = 3) := of_decide_eq_false c34_f
    refine cr fun _ hK48_ => ?_
    refine sv (v := (vB (decide (x12_.q.kind = 4)))) (x_bin rfl rfl rfl) ?_
    refine sv (v := (vB (decide (x12_.q.kind = 4)))) (x_assign rfl) ?_
    refine wn (hK48_ _ _ ?_)
    refine C_cond (b := decide (x12_.q.kind = 4)) rfl (fun c49_t => ?_) (fun c49_f => ?_)
    ·have c49_tp : x12_.q.kind = 4 := of_decide_eq_true c49_t
     refine cr fun _ hK50_ => ?_
     refine sv (v := (vP (some ⟨b16_, 19, none⟩))) (by kernel_rfl) ?_
     refine sv (v := x12_.q.then_) (x_load1 rfl underlying23 rfl ((Holds.rd H22_ 0 rfl) 19 x12_.q.then_ rfl)) ?_
     have H54_ := ((Holds.bring H22_ 1 rfl) :)
     refine S_list (T_call (al := [x12_.q.then_]) (pre := []) rfl rfl cb17 (ih R x12_.q.then_ x12_.tt (hra15_.t) (hra15_.tt) (by omega) (by omega)) H54_ ?_)
     rintro v51_ p58_ w55_ ⟨b52_, rfl, rfl, he53_⟩ S57_ H56_
     have S59_ := Same.trans S24_ S57_
     refine sv (v := (vB (!b52_))) (x_not rfl) ?_
     refine sm (vB (!b52_)) ?_
     rcases Bool.eq_false_or_eq_true (!b52_) with c60_t | c60_f
     ·skip
      refine S_no (j := 4) (dj := 46) (b := true) rfl rfl (congrArg vB c60_t) (by decide) ?_
      refine S_no (j := 4) (dj := 46) (b := true) rfl rfl (congrArg vB c60_t) (by decide) ?_
      refine S_no (j := 4) (dj := 46) (b := true) rfl rfl (congrArg vB c60_t) (by decide) ?_
      refine S_no (j := 4) (dj := 46) (b := true) rfl rfl (congrArg vB c60_t) (by decide) ?_
      refine S_list (T_pickT (v := (vB true)) (congrArg vB c60_t) rfl ?_)
      refine wn (hK50_ _ _ ?_)
      refine C_condT rfl ?_
      refine cr fun _ hK61_ => ?_
      refine sv (v := (vB false)) (x_assign rfl) ?_
      refine wn (hK61_ _ _ ?_)
      refine C_ret (X_blkR (X_blkR (X_thenR (X_thenR (X_blkR (X_thenR ?_))))))
      refine R_any (v := (vB false)) (run_results1 rfl rfl) ?_
      have H62_ := Holds.pkF H56_ [0] 1
      exact ⟨_, _, rfl, ⟨false, rfl, rfl, (fun h => by cases h)⟩, S59_, H62_⟩
     ·skip
      refine S_yes (j := 4) (dj := 46) (b := false) rfl rfl (congrArg vB c60_f) (T_val (v := (vP (some ⟨b16_, 20, none⟩))) (by kernel_rfl) ?_)
      refine S_yes (j := 4) (dj := 46) (b := false) rfl rfl (congrArg vB c60_f) (T_val (v := x12_.q.else_) (x_load1 rfl underlying23 rfl ((Holds.rd H56_ 1 rfl) 20 x12_.q.else_ rfl)) ?_)
      refine S_yes (j := 4) (dj := 46) (b := false) rfl rfl (congrArg vB c60_f) (T_call (al := [x12_.q.else_]) (pre := []) rfl rfl cb17 (ih R x12_.q.else_ x12_.ee (hra15_.e) (hra15_.ee) (by omega) (by omega)) H56_ ?_)
      rintro v63_ p69_ w66_ ⟨b64_, rfl, rfl, he65_⟩ S68_ H67_
      have S70_ := Same.trans S59_ S68_
      refine S_yes (j := 4) (dj := 46) (b := false) rfl rfl (congrArg vB c60_f) (T_val (v := (vB (!b64_))) (x_not rfl) ?_)
      refine S_list (T_pickF (v := (vB (!b64_))) (congrArg vB c60_f) rfl ?_)
      refine wn (hK50_ _ _ ?_)
      refine C_cond (b := !b64_) rfl (fun c71_t => ?_) (fun c71_f => ?_)
      ·skip
       refine cr fun _ hK72_ => ?_
       refine sv (v := (vB false)) (x_assign rfl) ?_
       refine wn (hK72_ _ _ ?_)
       refine C_ret (X_blkR (X_blkR (X_thenR (X_thenR (X_blkR (X_thenR ?_))))))
       refine R_any (v := (vB false)) (run_results1 rfl rfl) ?_
       have H73_ := Holds.pkF H67_ [0] 1
       exact ⟨_, _, rfl, ⟨false, rfl, rfl, (fun h => by cases h)⟩, S70_, H73_⟩
      ·skip
       refine C_skip (X_blkN (X_blkN (X_then (hK10_ _ _ ?_))))
       refine C_reg ?_
       refine sv (v := (vI .i64 ((k : Int) + 1))) (x_bin rfl rfl (ib_add (IntWalk.i64_in _ (by omega)))) ?_
       refine sm (vI .i64 ((k : Int) + 1)) ?_
       refine wpList_nil (X_then ?_)
       have H74_ := Holds.pkF H67_ [0] 1
       exact ⟨⟨k + 1, t2_v⟩, ⟨_, congrArg (fun e => mkA 53 e []) (ch (ch (ch (ch rfl rfl) rfl) rfl) (congrArg (vI .i64) ((by first | rfl | omega | (simp; done) | (simp; omega)) : (k : Int) + 1 = ((k + 1 : Nat) : Int)))), H74_, S70_, (by first | assumption | omega | exact rfl), (prp_go hin hx13_ ⟨fun _ => (by omega), fun _ => (by omega)⟩)⟩, by first | omega | (dsimp only; omega) | (simp; omega)⟩
    ·have c49_fp : ¬ (x12_.q.kind = 4) := of_decide_eq_false c49_f
     refine C_skip (X_blkN (X_blkN (X_then (hK10_ _ _ ?_))))
     refine C_reg ?_
     refine sv (v := (vI .i64 ((k : Int) + 1))) (x_bin rfl rfl (ib_add (IntWalk.i64_in _ (by omega)))) ?_
     refine sm (vI .i64 ((k : Int) + 1)) ?_
     refine wpList_nil (X_then ?_)
     have H75_ := Holds.pkF H22_ [1] 1
     exact ⟨⟨k + 1, t2_v⟩, ⟨_, congrArg (fun e => mkA 53 e []) (ch (ch (ch (ch rfl rfl) rfl) rfl) (congrArg (vI .i64) ((by first | rfl | omega | (simp; done) | (simp; omega)) : (k : Int) + 1 = ((k + 1 : Nat) : Int)))), H75_, S24_, (by first | assumption | omega | exact rfl), (prp_go hin hx13_ ⟨fun _ => (by omega), fun _ => (by omega)⟩)⟩, by first | omega | (dsimp only; omega) | (simp; omega)⟩
 ·have c9_fp : ¬ ((k : Int) < ((List.length L) : Int)) := of_decide_eq_false c9_f
  refine C_exit (X_thenX (X_thenX (X_blkHit ?_)))
  refine (X_then (hK2_ _ _ ?_))
  refine cr fun _ hK76_ => ?_
  refine sv (v := (vB true)) (x_assign rfl) ?_
  refine wn (hK76_ _ _ ?_)
  refine C_ret ?_
  refine R_any (v := (vB true)) (run_results1 rfl rfl) ?_
  exact ⟨_, _, rfl, ⟨true, rfl, rfl, (fun _ x hx => hin x (by rw [List.take_of_length_le (by omega)]; exact hx))⟩, S6_, H5_⟩

theorem ovProper (R : HP) (v : Value) (L : List RT) (hL : RS R 21 v (List.length L) (L.flatMap RT.cells)) (hR : RAts R L) (hl : L.length ≤ 1000000000000000) : Tri Try.prog 17 #[v] R [] (fun v__ post__ => ∃ (b : Bool), v__ = (vB b) ∧ post__ = [] ∧ (b = true → ∀ x ∈ L, PrpR x)) := by
  have key : ∀ (n__ : Nat) (R : HP) (v : Value) (L : List RT) (hL : RS R 21 v (List.length L) (L.flatMap RT.cells)) (hR : RAts R L) (hl : L.length ≤ 1000000000000000) (hn__ : lsz L = n__), Tri Try.prog 17 #[v] R [] (fun v__ post__ => ∃ (b : Bool), v__ = (vB b) ∧ post__ = [] ∧ (b = true → ∀ x ∈ L, PrpR x)) := by
    intro n__
    induction n__ using Nat.strongRecOn with
    | ind n__ ih => intro R v L hL hR hl hn__; exact ovProper_step R v L n__ hL hR hl (Nat.le_of_eq hn__) (fun R v L hL hR hl hms => ih _ hms R v L hL hR hl rfl)
  exact key _ R v L hL hR hl rfl
end Go.Proofs.Ytlnihndjepjagaa
set_option linter.unusedVariables false
set_option linter.unusedSimpArgs false
namespace Go.Proofs.Ytlnihndjepjagaa
open Go Go.RowKit Gw Try
open Go.Value renaming int → vI, bool → vB, slice → vS, pointer → vP, agg → vA, tuple → vT

section
variable {P : Program} {n : Nat} {e : Env} {w : World} {d : Option Nat} {ty : TypeId} {pos : String} {af : Array Edge} {g : Option (Nat × Bool)}
theorem x_eqK {t u tk : TypeId} {ms : Array (String × TypeId)} {x y : Operand} {a b : ByteArray} (hx : ev n e x = .iface tk (.string a)) (hy : ev n e y = .iface tk (.string b)) (hu : P.underlying t = some (.interface ms)) (hi : (P.info? tk).map (·.comparable) = some true)
    (hs : P.underlying tk = some .string) : (execOp (ev n e) ⟨d, .binOp .eql t x y u, ty, pos, af, g⟩).run P w = .ok (.value (.bool (a.toList == b.toList))) w := by
  simp only [execOp]
  rw [hx, hy]
  refine run_v _ ?_
  have h1 : (eqGuard .eql t x y (.iface tk (.string a)) (.iface tk (.string b))).run P w = .ok () w := by simp [eqGuard]
  obtain ⟨i, hi, hc⟩ := Option.map_eq_some_iff.1 hi
  have h2 : (Op.equal t (.iface tk (.string a)) (.iface tk (.string b))).run P w = .ok (a.toList == b.toList) w := by
    show (Op.equalIn (9998 + 1 + 1) t (.iface tk (.string a)) (.iface tk (.string b))).run P w = _
    rw [Op.equalIn]
    simp only [Sem.run_bind, run_underlying hu, Result.andThen_ok]
    simp [typeInfo, hi, hc, run_equalIn_string w 9998 tk a b hs]
  simp only [Sem.run_bind, h1, Result.andThen_ok, binOp]
  simp [h2]
end
/-! ### Flat operations: what is put, what is deleted -/
theorem kS_eq (x : RT) : kS x = x.q.key := strN_ints _
theorem eS_eq (x : RT) : eS x = x.q.end_ := strN_ints _
def lo0 (k : ByteArray) : EK := .t k.data.toList
def hi0 (k : ByteArray) : EK := .t (k ++ ByteArray.mk #[0]).data.toList
def putsK (L : List RT) : List ByteArray := (L.filter fun x => decide (x.q.kind = 2)).map kS
def delsK (L : List RT) : List (EK × EK) := (L.filter fun x => decide (x.q.kind = 3)).map fun x => (dlo x, dhi x)
def meetD (b e : EK) (d : EK × EK) : Bool := decide (ecm 1 d.1 e < 0 ∧ ecm 1 b d.2 < 0)
def hitK (D : List (EK × EK)) (k : ByteArray) : Bool := D.any (meetD (lo0 k) (hi0 k))
structure okF (L : List RT) : Prop where
  nd : (putsK L).Nodup
  no : ∀ k ∈ putsK L, hitK (delsK L) k = false
theorem putsK_snoc {L : List RT} {k : Nat} {x : RT} (h : L[k]? = some x) (hk : x.q.kind = 2) : putsK (L.take (k + 1)) = putsK (L.take k) ++ [kS x] := by
  rw [take_snoc h]; simp [putsK, List.filter_append, hk]
theorem putsK_skip {L : List RT} {k : Nat} {x : RT} (h : L[k]? = some x) (hk : x.q.kind ≠ 2) : putsK (L.take (k + 1)) = putsK (L.take k) := by
  rw [take_snoc h]; simp [putsK, List.filter_append, hk]
theorem delsK_snoc {L : List RT} {k : Nat} {x : RT} (h : L[k]? = some x) (hk : x.q.kind = 3) : delsK (L.take (k + 1)) = delsK (L.take k) ++ [(dlo x, dhi x)] := by
  rw [take_snoc h]; simp [delsK, List.filter_append, hk]
theorem delsK_skip {L : List RT} {k : Nat} {x : RT} (h : L[k]? = some x) (hk : x.q.kind ≠ 3) : delsK (L.take (k + 1)) = delsK (L.take k) := by
  rw [take_snoc h]; simp [delsK, List.filter_append, hk]
theorem delsK_len (L : List RT) : (delsK L).length ≤ L.length := by
  unfold delsK; rw [List.length_map]; exact List.length_filter_le _ _
theorem putsK_len (L : List RT) : (putsK L).length ≤ L.length := by
  unfold putsK; rw [List.length_map]; exact List.length_filter_le _ _
theorem cb_app0 : ∀ l : List UInt8, Lib.compareBytes l (l ++ [0]) = -1
  | [] => rfl
  | a :: l => by
    have := cb_app0 l
    simp only [List.cons_append, Lib.compareBytes, UInt8.lt_iff_toNat_lt, Nat.lt_irrefl, if_false]
    exact this
theorem lt0 {k : ByteArray} (h : k.size ≠ 0) : ecm 1 (lo0 k) (hi0 k) < 0 := by
  have hk : k.data.toList ≠ [] := fun e => h (nil_size.1 e)
  unfold lo0 hi0
  simp only [ecm]
  rw [if_neg (by decide), app0, acm_ne hk (by simp), cb_app0]
  decide
theorem prp_d {x : RT} (h : PrpR x) (hk : x.q.kind = 3) : ecm 1 (dlo x) (dhi x) < 0 := by
  obtain ⟨h1, h2⟩ := h.2 hk
  unfold dlo dhi
  rw [kS_eq, eS_eq]
  split
  · exact lt0 h1
  · rename_i h3
    simp only [ecm]
    rw [if_neg (by decide), acm_ne (fun e => h1 (nil_size.1 e)) (fun e => h3 (nil_size.1 e))]
    have := h2 h3
    rw [toList_data, toList_data] at this
    exact bl_lt.1 this
theorem delsK_prp {L : List RT} (h : ∀ x ∈ L, PrpR x) : ∀ d ∈ delsK L, ecm 1 d.1 d.2 < 0 := by
  intro d hd
  obtain ⟨x, hx, rfl⟩ := List.mem_map.1 hd
  obtain ⟨h1, h2⟩ := List.mem_filter.1 hx
  exact prp_d (h x h1) (of_decide_eq_true h2)
theorem delsK_perm {L M : List RT} (h : L.Perm M) : (delsK L).Perm (delsK M) := (h.filter _).map _
theorem putsK_perm {L M : List RT} (h : L.Perm M) : (putsK L).Perm (putsK M) := (h.filter _).map _
theorem hitK_perm {D E : List (EK × EK)} (h : D.Perm E) (k : ByteArray) : hitK D k = hitK E k := by
  unfold hitK
  rw [Bool.eq_iff_iff, List.any_eq_true, List.any_eq_true]
  constructor <;> rintro ⟨x, h1, h2⟩
  · exact ⟨x, h.mem_iff.1 h1, h2⟩
  · exact ⟨x, h.mem_iff.2 h1, h2⟩
theorem okF_perm {L M : List RT} (h : L.Perm M) (ho : okF L) : okF M :=
  ⟨(putsK_perm h).nodup_iff.1 ho.nd, fun k hk => by rw [← hitK_perm (delsK_perm h)]; exact ho.no k ((putsK_perm h).mem_iff.2 hk)⟩
/-! ### A tree that holds what is deleted -/
def nk2 (n : ND EK) : EK × EK := (n.kb, n.ke)
structure IW (R : HP) (W : Tr EK) (D : List (EK × EK)) : Prop where
  ok : TOk (EO 1) R W ∧ LocT (EO 1) W ∧ blackT W
  s : srt (EO 1) (ino W)
  m : ((ino W).map nk2).Perm D
theorem IW.mono {R R' : HP} (s : Sub R R') {W : Tr EK} {D : List (EK × EK)} (h : IW R W D) : IW R' W D := ⟨⟨h.ok.1.mono s, h.ok.2⟩, h.s, h.m⟩
theorem IW.nil {R : HP} : IW R (Tr.lf : Tr EK) [] := ⟨⟨trivial, trivial, trivial⟩, List.Pairwise.nil, List.Perm.refl _⟩
theorem IW.ins {R : HP} {W W' : Tr EK} {D : List (EK × EK)} {L1 L2 : List (ND EK)} {z : ND EK} {b e vv : Value} {kb ke : EK} (h : IW R W D) (h1 : TOk (EO 1) R W' ∧ LocT (EO 1) W' ∧ blackT W') (h2 : ino W' = L1 ++ z.er :: L2) (h3 : ino W = L1 ++ L2)
    (h4 : z.b = b ∧ z.e = e ∧ z.v = vv ∧ z.kb = kb ∧ z.ke = ke) (h5 : srt (EO 1) (ino W')) : IW R W' (D ++ [(kb, ke)]) := by
  refine ⟨h1, h5, ?_⟩
  obtain ⟨-, -, -, rfl, rfl⟩ := h4
  have hm := h.m
  rw [h3] at hm
  rw [h2, List.map_append, List.map_cons]
  rw [List.map_append] at hm
  exact (List.perm_middle.trans (List.Perm.cons _ hm)).trans (List.perm_append_singleton _ _).symm
theorem IW.len {R : HP} {W : Tr EK} {D : List (EK × EK)} (h : IW R W D) : (ino W).length = D.length := by
  have := h.m.length_eq
  simpa using this
theorem IW.prp {R : HP} {W : Tr EK} {D : List (EK × EK)} (h : IW R W D) (hp : ∀ d ∈ D, ecm 1 d.1 d.2 < 0) : Prp (EO 1) (ino W) :=
  fun n hn => hp (nk2 n) (h.m.mem_iff.1 (List.mem_map.2 ⟨n, hn, rfl⟩))
theorem IW.isect {R : HP} {W : Tr EK} {D : List (EK × EK)} (h : IW R W D) (hp : ∀ d ∈ D, ecm 1 d.1 d.2 < 0) {k : ByteArray} (hk : k.size ≠ 0) : isect (EO 1) (lo0 k) (hi0 k) W = hitK D k := by
  rw [isect_eq (lt0 hk) h.s h.ok.2.1 (h.prp hp), ← hitK_perm h.m]
  unfold hitK
  rw [List.any_map]
  rfl
/-! ### Sorted: one list of each kind -/
def befD (d x : EK × EK) : Prop := ecm 1 d.1 x.1 < 0 ∨ (ecm 1 d.1 x.1 = 0 ∧ ecm 1 d.2 x.2 < 0)
def SrtD (D : List (EK × EK)) : Prop := D.Pairwise fun x y => ¬ befD y x
theorem IW.srtD {R : HP} {W : Tr EK} {D : List (EK × EK)} (h : IW R W D) : SrtD ((ino W).map nk2) := List.pairwise_map.2 h.s
theorem srtD_eq {A B : List (EK × EK)} (hA : SrtD A) (hB : SrtD B) (h : A.Perm B) : A = B := by
  refine List.Perm.eq_of_pairwise ?_ hA hB h
  intro a b _ _ h1 h2
  have f1 := ecm_flip 1 a.1 b.1
  have f2 := ecm_flip 1 a.2 b.2
  unfold befD at h1 h2
  have e1 : ecm 1 a.1 b.1 = 0 := by omega
  have e2 : ecm 1 a.2 b.2 = 0 := by omega
  exact Prod.ext (ecm_anti 1 e1) (ecm_anti 1 e2)
/-! ### The keys, as a map -/
def pmp (P : List ByteArray) : List (ByteArray × Value) := P.map fun s => (s, .agg #[])
theorem pmp_keys (P : List ByteArray) : (pmp P).map (·.1) = P := by
  unfold pmp; rw [List.map_map]; exact List.map_id' P
theorem pm_none {P : List ByteArray} {s : ByteArray} (h : s ∉ P) : mget (pmp P) s = none := by
  unfold mget pmp
  rw [Option.map_eq_none_iff, List.find?_eq_none]
  intro p hp
  obtain ⟨t, ht, rfl⟩ := List.mem_map.1 hp
  simp only [decide_eq_true_eq]
  rintro rfl
  exact h ht
theorem pm_some {P : List ByteArray} {s : ByteArray} (h : s ∈ P) : mget (pmp P) s = some (.agg #[]) := by
  unfold mget pmp
  cases hf : (List.map (fun s => (s, vA #[])) P).find? (fun p => decide (p.1 = s)) with
  | none =>
    rw [List.find?_eq_none] at hf
    exact absurd (hf (s, .agg #[]) (List.mem_map.2 ⟨s, h, rfl⟩)) (by simp)
  | some p =>
    obtain ⟨t, _, rfl⟩ := List.mem_map.1 (List.mem_of_find?_eq_some hf)
    rfl
theorem pm_set {P : List ByteArray} {s : ByteArray} (h : s ∉ P) : mset (pmp P) s (.agg #[]) = pmp (P ++ [s]) := by
  unfold mset pmp
  have : ¬ (List.map (fun s => (s, vA #[])) P).any (fun p => decide (p.1 = s)) = true := by
    rw [List.any_eq_true]
    rintro ⟨p, hp, he⟩
    obtain ⟨t, ht, rfl⟩ := List.mem_map.1 hp
    exact h ((of_decide_eq_true he) ▸ ht)
  rw [if_neg this, List.map_append]
  rfl
structure PG (L : List RT) (P : List ByteArray) : Prop where
  nd : P.Nodup
  no : ∀ k ∈ P, hitK (delsK L) k = false
theorem PG.nil {L : List RT} : PG L [] := ⟨List.nodup_nil, fun k hk => by cases hk⟩
theorem PG.snoc {L : List RT} {P : List ByteArray} {s : ByteArray} (h : PG L P) (h1 : s ∉ P) (h2 : hitK (delsK L) s = false) : PG L (P ++ [s]) := by
  refine ⟨?_, fun k hk => ?_⟩
  · rw [List.nodup_append]
    refine ⟨h.nd, by simp, fun a ha b hb => ?_⟩
    rw [List.mem_singleton.1 hb]
    exact fun e => h1 (e ▸ ha)
  · rcases List.mem_append.1 hk with hk | hk
    · exact h.no k hk
    · rw [List.mem_singleton.1 hk]; exact h2
theorem putsK_take {L : List RT} (k : Nat) : ∃ Z, putsK L = putsK (L.take k) ++ Z := by
  refine ⟨putsK (L.drop k), ?_⟩
  unfold putsK
  rw [← List.map_append, ← List.filter_append, List.take_append_drop]
theorem bad_twice {L : List RT} {k : Nat} {x : RT} (h : L[k]? = some x) (hk : x.q.kind = 2) (hm : kS x ∈ putsK (L.take k)) : ¬ okF L := by
  intro ho
  obtain ⟨Z, hZ⟩ := @putsK_take L (k + 1)
  have h1 := ho.nd
  rw [hZ, putsK_snoc h hk, List.nodup_append, List.nodup_append] at h1
  exact h1.1.2.2 _ hm _ (List.mem_singleton.2 rfl) rfl
theorem bad_hit {L : List RT} {k : Nat} {x : RT} (h : L[k]? = some x) (hk : x.q.kind = 2) (hm : hitK (delsK L) (kS x) = true) : ¬ okF L := by
  intro ho
  have : kS x ∈ putsK L := List.mem_map.2 ⟨x, List.mem_filter.2 ⟨List.mem_of_getElem? h, decide_eq_true hk⟩, rfl⟩
  rw [ho.no _ this] at hm
  cases hm
theorem PG.ok {L : List RT} (h : PG L (putsK L)) : okF L := ⟨h.nd, h.no⟩
theorem ev1 {R : HP} (s : ByteArray) : (EO 1).Val R (Value.iface 166 (.string s)) (.t s.data.toList) := .inr (.inl ⟨rfl, s, rfl, rfl⟩)

end Go.Proofs.Ytlnihndjepjagaa
set_option linter.unusedVariables false
set_option linter.unusedSimpArgs false
namespace Go.Proofs.Ytlnihndjepjagaa
open Go Go.RowKit Gw Try
open Go.Value renaming int → vI, bool → vB, slice → vS, pointer → vP, agg → vA, tuple → vT

set_option maxHeartbeats 1600000 in
theorem ovNewIv (R : HP) (i1 i2 : ByteArray) :
    Tri Try.prog 52 #[(Value.string i1), (Value.string i2)] R [] (fun v__ post__ => v__ = (vA #[(Value.iface 166 (Value.string i1)), (Value.iface 166 (Value.string i2))]) ∧ post__ = []) := by
 refine Tri.into (n := 10) (al := [(Value.string i1), (Value.string i2)]) func52 rfl ntmps52 rfl rfl fun w F H => ?_
 refine cr fun _ hK1_ => ?_
 refine S_list (T_alloc z111 H ?_)
 intro b2_ w3_ S5_ H4_
 have S6_ := Same.trans (Same.refl w) S5_
 refine wn (hK1_ _ _ ?_)
 refine cr fun _ hK7_ => ?_
 refine sm (Value.string i1) ?_
 refine sv (v := (Value.iface 166 (Value.string i1))) (by kernel_rfl) ?_
 refine sm (Value.string i2) ?_
 refine sv (v := (Value.iface 166 (Value.string i2))) (by kernel_rfl) ?_
 refine sv (v := (vA #[(Value.iface 166 (Value.string i1)), (Value.iface 166 (Value.string i2))])) (by kernel_rfl) ?_
 refine S_list0 (T_storeN (vs := [(Value.iface 166 (Value.string i1)), (Value.iface 166 (Value.string i2))]) rfl rfl z111 rfl (by simp [Value.oneCell']) H4_ 0 rfl (Nat.le_of_ble_eq_true (by rfl)) ?_)
 intro w8_ S10_ H9_
 have S11_ := Same.trans S6_ S10_
 refine wn (hK7_ _ _ ?_)
 refine C_ret ?_
 refine R_any (v := (vA #[(Value.iface 166 (Value.string i1)), (Value.iface 166 (Value.string i2))])) (run_results1 rfl ⟨_, rfl, load_resN underlying111 rfl z111 rfl (vs := [(Value.iface 166 (Value.string i1)), (Value.iface 166 (Value.string i2))]) (Holds.cl_cells H9_ 0 rfl 0 rfl)⟩) ?_
 have H12_ := Holds.pkF H9_ [1] 1
 exact ⟨_, _, rfl, ⟨rfl, rfl⟩, S11_, H12_⟩

set_option maxHeartbeats 16000000 in
theorem ovIntervals (R : HP) (v : Value) (T : List Nat) (L : List RT) (hv : RS R 1 v (List.length T) (T.map pv)) (hT : All2 (FOp R) T L) (hl : L.length ≤ 200) (hPp : ∀ x ∈ L, PrpR x) (hsz : ∀ x ∈ L, x.q.key.size ≤ 1000000000000000) :
    Tri Try.prog 72 #[v] R [] (fun v__ post__ => (∃ (mb tb sb : Nat) (W : Tr EK) (cnt : Int), v__ = (vT #[(Value.map (some mb)), (Value.iface 186 (vQ tb)), (Value.nilIface)]) ∧ post__ = [mp Value.string mb (pmp (putsK L)), cl tb 188 [(vQ (rt sb W)), (vI .i64 cnt), (vQ sb)], tr sb sb W, clf sb 185 [(Value.nilIface), (Value.nilIface), (Value.nilIface), (Value.nilIface), (vP none), (vP none), (vP none), (vI .i64 0)]] ∧ (IW R W (delsK L)) ∧ (okF L)) ∨ (∃ (tb : Nat), v__ = (vT #[(Value.map none), (Value.iface 186 (vQ tb)), (Value.iface 133 (Value.string (ByteArray.mk #[101, 116, 99, 100, 115, 101, 114, 118, 101, 114, 58, 32, 100, 117, 112, 108, 105, 99, 97, 116, 101, 32, 107, 101, 121, 32, 103, 105, 118, 101, 110, 32, 105, 110, 32, 116, 120, 110, 32, 114, 101, 113, 117, 101, 115, 116])))]) ∧ post__ = [] ∧ (¬ okF L))) := by
 have hT1 := hT.1
 refine Tri.into (n := 270) (al := [v]) func72 rfl ntmps72 rfl rfl fun w F H => ?_
 refine cr fun _ hK1_ => ?_
 refine sv (v := (Value.map none)) (x_assign rfl) ?_
 refine sv (v := (Value.nilIface)) (x_assign rfl) ?_
 refine sv (v := (Value.nilIface)) (x_assign rfl) ?_
 refine wn (hK1_ _ _ ?_)
 refine cr fun _ hK2_ => ?_
 refine S_list (T_callW (al := []) rfl rfl cb62 (Calls.into (n := 10) func62 rfl ntmps62 rfl rfl ?_))
 refine cr fun _ hK3_ => ?_
 refine sv (v := (Value.nilIface)) (x_assign rfl) ?_
 refine wn (hK3_ _ _ ?_)
 refine cr fun _ hK4_ => ?_
 refine sv (v := (vA #[(Value.nilIface), (Value.nilIface), (Value.nilIface)])) (by kernel_rfl) ?_
 refine sv (v := (vA #[(Value.nilIface), (Value.nilIface), (Value.nilIface), (Value.nilIface), (vP none), (vP none), (vP none), (vI .i64 0)])) (by kernel_rfl) ?_
 refine S_list (T_boxf (v := (vA #[(Value.nilIface), (Value.nilIface), (Value.nilIface), (Value.nilIface), (vP none), (vP none), (vP none), (vI .i64 0)])) rfl H ?_)
 intro b5_ w6_ S8_ H7_
 have S9_ := Same.trans (Same.refl w) S8_
 refine sv (v := (vQ b5_)) (x_assign rfl) ?_
 refine wn (hK4_ _ _ ?_)
 refine cr fun _ hK10_ => ?_
 refine sm (vQ b5_) ?_
 refine sm (vQ b5_) ?_
 refine sv (v := (vA #[(vQ b5_), (vI .i64 0), (vQ b5_)])) (by kernel_rfl) ?_
 refine S_list (T_box (v := (vA #[(vQ b5_), (vI .i64 0), (vQ b5_)])) rfl H7_ ?_)
 intro b11_ w12_ S14_ H13_
 have S15_ := Same.trans S9_ S14_
 refine sv (v := (Value.iface 186 (vQ b11_))) (by kernel_rfl) ?_
 refine sv (v := (Value.iface 186 (vQ b11_))) (x_assign rfl) ?_
 refine wn (hK10_ _ _ ?_)
 refine C_ret ?_
 refine R_any (v := (Value.iface 186 (vQ b11_))) (run_results1 rfl rfl) ⟨_, rfl, ?_⟩
 refine sv (v := (Value.iface 186 (vQ b11_))) (x_assign rfl) ?_
 refine wn (hK2_ _ _ ?_)
 refine C_seq (fun _ hK16_ => ?_)
 refine cr fun _ hK17_ => ?_
 refine sv (v := v) (x_move rfl) ?_
 refine sv (v := (vI .i64 ((List.length T) : Int))) (x_lenRS rfl hv underlying104) ?_
 refine sm (vI .i64 0) ?_
 refine wn (hK17_ _ _ ?_)
 refine C_block ?_
 have H18_ : Holds w12_ (tr b5_ b5_ (Tr.lf : Tr EK) :: cl b11_ 188 [(vQ b5_), (vI .i64 0), (vQ b5_)] :: clf b5_ 185 [(Value.nilIface), (Value.nilIface), (Value.nilIface), (Value.nilIface), (vP none), (vP none), (vP none), (vI .i64 0)] :: ro R :: F) := Holds.lf_tr H13_
 have H19_ := Holds.recl H18_ 1 rfl ((lcons ((by first | rfl | omega | (simp; done) | (simp; omega)) : (vQ b5_) = (vQ (rt b5_ (Tr.lf : Tr EK)))) rfl) : [(vQ b5_), (vI .i64 0), (vQ b5_)] = [(vQ (rt b5_ (Tr.lf : Tr EK))), (vI .i64 0), (vQ b5_)])
 refine C_loop (γ := Nat × (Tr EK) × Int) (fun x__ a__ w1__ => match x__ with | ⟨k, W, cnt⟩ => ∃ h : Env, a__ = mkA 270 (upd (upd (upd (upd (upd (upd (upd (upd h 0 v) 2 (Value.map none)) 3 (Value.nilIface)) 4 (Value.nilIface)) 5 (Value.iface 186 (vQ b11_))) 38 v) 39 (vI .i64 ((List.length T) : Int))) 40 (vI .i64 (k : Int))) [] ∧ Holds w1__ (tr b5_ b5_ W :: cl b11_ 188 [(vQ (rt b5_ W)), (vI .i64 cnt), (vQ b5_)] :: clf b5_ 185 [(Value.nilIface), (Value.nilIface), (Value.nilIface), (Value.nilIface), (vP none), (vP none), (vP none), (vI .i64 0)] :: ro R :: F) ∧ Same w w1__ ∧ (k ≤ T.length) ∧ (IW R W (delsK (List.take k L))) ∧ (cnt = (List.length (delsK (List.take k L)) : Int))) (fun x__ => match x__ with | ⟨k, W, cnt⟩ => T.length - k) (⟨0, (Tr.lf : Tr EK), 0⟩) ⟨_, congrArg (fun e => mkA 270 e []) (ch (ch (ch (ch (ch (ch (ch (ch rfl rfl) rfl) rfl) rfl) rfl) rfl) rfl) (congrArg (vI .i64) ((by first | rfl | omega | (simp; done) | (simp; omega)) : 0 = (0 : Int)))), H19_, S15_, (by first | assumption | omega | exact rfl), (by rw [List.take_zero]; exact IW.nil), (by rw [List.take_zero]; rfl)⟩ ?_
 rintro ⟨k, W, cnt⟩ _ w20_ ⟨h, rfl, H21_, S22_, hk, hIW, hcn⟩
 refine cr fun _ hK23_ => ?_
 refine sv (v := (vB (decide ((k : Int) < ((List.length T) : Int))))) (x_bin rfl rfl rfl) ?_
 refine wn (hK23_ _ _ ?_)
 refine C_seq (fun _ hK24_ => ?_)
 refine C_cond (b := decide ((k : Int) < ((List.length T) : Int))) rfl (fun c25_t => ?_) (fun c25_f => ?_)
 ·have c25_tp : (k : Int) < ((List.length T) : Int) := of_decide_eq_true c25_t
  refine C_skip (X_then (hK24_ _ _ ?_))
  refine C_seq (fun _ hK26_ => ?_)
  refine C_block ?_
  refine cr fun _ hK27_ => ?_
  obtain ⟨p28_, hx29_, hm30_⟩ := elem_at T k (by omega)
  obtain ⟨y31_, hy32_, q33_o⟩ := hT.at_ hx29_
  have q33_m := List.mem_of_getElem? hy32_
  have q33_s := hsz y31_ q33_m
  have q33_p := hPp y31_ q33_m
  have q33_l : (strN (ints y31_.q.key)).size ≤ 1000000000000000 := by rw [strN_ints]; exact q33_s
  have q33_e := ints_length y31_.q.end_
  refine sv (v := (vP (some ⟨(sb v), so v + k, none⟩))) (x_idxRS (v := v) rfl hv rfl underlying104 z149 (by omega) (by omega) (by omega : _ = k) (by rw [Nat.mul_one])) ?_
  refine sv (v := (vQ p28_)) (x_load1 rfl underlying149 rfl (RC.cell (RS.rc hv) (Holds.ro_at H21_ 3 rfl) (j := k) (u := (vQ p28_)) ((map_at hx29_)))) ?_
  refine sv (v := (vQ p28_)) (x_assign rfl) ?_
  refine wn (hK27_ _ _ ?_)
  refine cr fun _ hK34_ => ?_
  refine sm (vQ p28_) ?_
  refine sv (v := (vQ p28_)) (by kernel_rfl) ?_
  refine sv (v := (vQ p28_)) (by kernel_rfl) ?_
  rcases q33_o.inv with ⟨f35_b1, f35_hk, f35_hc⟩ | ⟨f35_b1, f35_b2, f35_kv, f35_c1, f35_c2, f35_c3, f35_c4, f35_c5, f35_hk, f35_hc, f35_hc1, f35_hc2, f35_hkv⟩ | ⟨f35_b1, f35_b2, f35_kv, f35_ev, f35_c2, f35_hk, f35_hc, f35_hc1, f35_hc2, f35_hkv, f35_hev⟩
  ·skip
   refine sv (v := (Value.iface 150 (vQ f35_b1))) (x_load1 rfl underlying20 rfl (RC.cell f35_hc (Holds.ro_at H21_ 3 rfl) (j := 0) (u := (Value.iface 150 (vQ f35_b1))) (rfl))) ?_
   refine sv (v := (vT #[(vP none), (vB false)])) (by kernel_rfl) ?_
   refine sm (vT #[(vP none), (vB false)]) ?_
   refine sv (v := (vP none)) (by kernel_rfl) ?_
   refine sv (v := (vB false)) (by kernel_rfl) ?_
   refine sv (v := (vP none)) (x_assign rfl) ?_
   refine sv (v := (vB false)) (x_assign rfl) ?_
   refine wn (hK34_ _ _ ?_)
   refine C_seq (fun _ hK36_ => ?_)
   refine cr fun _ hK37_ => ?_
   refine sm (vB false) ?_
   refine sv (v := (vB true)) (x_cast (x_not (b := false) rfl) rfl) ?_
   refine wn (hK37_ _ _ ?_)
   refine C_condT rfl ?_
   refine C_exit (X_thenX (X_blkHit ?_))
   refine (X_then (hK26_ _ _ ?_))
   refine C_reg ?_
   refine sv (v := (vI .i64 ((k : Int) + 1))) (x_bin rfl rfl (ib_add (IntWalk.i64_in _ (by omega)))) ?_
   refine sm (vI .i64 ((k : Int) + 1)) ?_
   refine wpList_nil (X_then ?_)
   exact ⟨⟨k + 1, W, cnt⟩, ⟨_, congrArg (fun e => mkA 270 e []) (ch (ch (ch (ch (ch (ch (ch (ch rfl rfl) rfl) rfl) rfl) rfl) rfl) rfl) (congrArg (vI .i64) ((by first | rfl | omega | (simp; done) | (simp; omega)) : (k : Int) + 1 = ((k + 1 : Nat) : Int)))), H21_, S22_, (by first | assumption | omega | exact rfl), (by rw [delsK_skip hy32_ (by omega)]; exact hIW), (by rw [delsK_skip hy32_ (by omega)]; exact hcn)⟩, by first | omega | (dsimp only; omega) | (simp; omega)⟩
  ·skip
   refine sv (v := (Value.iface 155 (vQ f35_b1))) (x_load1 rfl underlying20 rfl (RC.cell f35_hc (Holds.ro_at H21_ 3 rfl) (j := 0) (u := (Value.iface 155 (vQ f35_b1))) (rfl))) ?_
   refine sv (v := (vT #[(vP none), (vB false)])) (by kernel_rfl) ?_
   refine sm (vT #[(vP none), (vB false)]) ?_
   refine sv (v := (vP none)) (by kernel_rfl) ?_
   refine sv (v := (vB false)) (by kernel_rfl) ?_
   refine sv (v := (vP none)) (x_assign rfl) ?_
   refine sv (v := (vB false)) (x_assign rfl) ?_
   refine wn (hK34_ _ _ ?_)
   refine C_seq (fun _ hK38_ => ?_)
   refine cr fun _ hK39_ => ?_
   refine sm (vB false) ?_
   refine sv (v := (vB true)) (x_cast (x_not (b := false) rfl) rfl) ?_
   refine wn (hK39_ _ _ ?_)
   refine C_condT rfl ?_
   refine C_exit (X_thenX (X_blkHit ?_))
   refine (X_then (hK26_ _ _ ?_))
   refine C_reg ?_
   refine sv (v := (vI .i64 ((k : Int) + 1))) (x_bin rfl rfl (ib_add (IntWalk.i64_in _ (by omega)))) ?_
   refine sm (vI .i64 ((k : Int) + 1)) ?_
   refine wpList_nil (X_then ?_)
   exact ⟨⟨k + 1, W, cnt⟩, ⟨_, congrArg (fun e => mkA 270 e []) (ch (ch (ch (ch (ch (ch (ch (ch rfl rfl) rfl) rfl) rfl) rfl) rfl) rfl) (congrArg (vI .i64) ((by first | rfl | omega | (simp; done) | (simp; omega)) : (k : Int) + 1 = ((k + 1 : Nat) : Int)))), H21_, S22_, (by first | assumption | omega | exact rfl), (by rw [delsK_skip hy32_ (by omega)]; exact hIW), (by rw [delsK_skip hy32_ (by omega)]; exact hcn)⟩, by first | omega | (dsimp only; omega) | (simp; omega)⟩
  ·skip
   refine sv (v := (Value.iface 158 (vQ f35_b1))) (x_load1 rfl underlying20 rfl (RC.cell f35_hc (Holds.ro_at H21_ 3 rfl) (j := 0) (u := (Value.iface 158 (vQ f35_b1))) (rfl))) ?_
   refine sv (v := (vT #[(vQ f35_b1), (vB true)])) (by kernel_rfl) ?_
   refine sm (vT #[(vQ f35_b1), (vB true)]) ?_
   refine sv (v := (vQ f35_b1)) (by kernel_rfl) ?_
   refine sv (v := (vB true)) (by kernel_rfl) ?_
   refine sv (v := (vQ f35_b1)) (x_assign rfl) ?_
   refine sv (v := (vB true)) (x_assign rfl) ?_
   refine wn (hK34_ _ _ ?_)
   refine C_seq (fun _ hK40_ => ?_)
   refine cr fun _ hK41_ => ?_
   refine sm (vB true) ?_
   refine sv (v := (vB false)) (x_cast (x_not (b := true) rfl) rfl) ?_
   refine wn (hK41_ _ _ ?_)
   refine C_condF rfl ?_
   refine C_skip (X_then (hK40_ _ _ ?_))
   refine cr fun _ hK42_ => ?_
   refine sm (vQ f35_b1) ?_
   refine sv (v := (vQ f35_b1)) (by kernel_rfl) ?_
   refine sv (v := (vQ f35_b1)) (by kernel_rfl) ?_
   refine sv (v := (vQ f35_b2)) (x_load1 rfl underlying92 rfl (RC.cell f35_hc1 (Holds.ro_at H21_ 3 rfl) (j := 0) (u := (vQ f35_b2)) (rfl))) ?_
   refine sv (v := (vQ f35_b2)) (x_assign rfl) ?_
   refine wn (hK42_ _ _ ?_)
   refine C_seq (fun _ hK43_ => ?_)
   refine cr fun _ hK44_ => ?_
   refine sm (vQ f35_b2) ?_
   refine sv (v := (vB false)) (by kernel_rfl) ?_
   refine wn (hK44_ _ _ ?_)
   refine C_condF rfl ?_
   refine C_skip (X_then (hK43_ _ _ ?_))
   refine cr fun _ hK45_ => ?_
   refine S_list (T_alloc z111 H21_ ?_)
   intro b46_ w47_ S49_ H48_
   have S50_ := Same.trans S22_ S49_
   refine wn (hK45_ _ _ ?_)
   refine C_seq (fun _ hK51_ => ?_)
   refine cr fun _ hK52_ => ?_
   refine sm (vQ f35_b2) ?_
   refine sv (v := (vQ f35_b2)) (by kernel_rfl) ?_
   refine sv (v := (vP (some ⟨f35_b2, 1, none⟩))) (by kernel_rfl) ?_
   refine sv (v := f35_ev) (x_load1 rfl underlying122 rfl (RC.cell f35_hc2 (Holds.ro_at H48_ 4 rfl) (j := 1) (u := f35_ev) (rfl))) ?_
   refine sv (v := (vI .i64 ((List.length (ints y31_.q.end_)) : Int))) (x_lenRS rfl f35_hev underlying122) ?_
   refine sv (v := (vB (decide (((List.length (ints y31_.q.end_)) : Int) ≠ 0)))) (x_bin rfl rfl rfl) ?_
   refine wn (hK52_ _ _ ?_)
   refine C_cond (b := decide (((List.length (ints y31_.q.end_)) : Int) ≠ 0)) rfl (fun c53_t => ?_) (fun c53_f => ?_)
   ·have c53_tp : ((List.length (ints y31_.q.end_)) : Int) ≠ 0 := of_decide_eq_true c53_t
    refine A_start (S := fun w => RtRd w (rt b5_ W) (rmx W) ∧ Sub R (hp w)) (N := 12) foll rfl rfl ?_
    have H54_ := Holds.drew_ H48_
    have hq55_ := And.intro (Holds.tr_rd H54_ 1 rfl 3 rfl) ((Holds.ro_at H54_ 4 rfl))
    refine A_tk 0 (v := (vQ f35_b2)) rfl (by kernel_rfl) (fun w hS => x_move rfl) hq55_ ?_
    refine A_tk 1 (v := (vQ f35_b2)) rfl (by kernel_rfl) (fun w hS => by kernel_rfl) hq55_ ?_
    refine A_tk 2 (v := (vQ f35_b2)) rfl (by kernel_rfl) (fun w hS => by kernel_rfl) hq55_ ?_
    refine A_tk 5 (v := (vQ f35_b2)) rfl (by kernel_rfl) (fun w hS => x_move rfl) hq55_ ?_
    refine A_tk 6 (v := (vQ f35_b2)) rfl (by kernel_rfl) (fun w hS => by kernel_rfl) hq55_ ?_
    refine A_tk 7 (v := (vP (some ⟨f35_b2, 1, none⟩))) rfl (by kernel_rfl) (fun w hS => by kernel_rfl) hq55_ ?_
    refine A_ready (i := 3) (rs := [8]) (by kernel_rfl) ?_
    refine AllR.cons ?_ ?_
    ·skip
     refine A_op (ls' := #[true, true, true, true, false, true, true, true, false, false, false, false]) rfl (by kernel_rfl) (T_val (v := f35_kv) (x_load1 rfl underlying122 rfl (RC.cell f35_hc2 (Holds.ro_at H54_ 4 rfl) (j := 0) (u := f35_kv) (rfl))) ?_)
     refine ⟨⟨Holds.tr_rd H54_ 1 rfl 3 rfl, (Holds.ro_at H54_ 4 rfl)⟩, ?_⟩
     refine A_tk 4 (v := (Value.string (strN (ints y31_.q.key)))) rfl (by kernel_rfl) (fun w hS => x_b2sRS rfl f35_hkv hS.2 underlying122 underlying5 underlying9) hq55_ ?_
     refine A_ready (i := 8) (rs := []) (by kernel_rfl) ?_
     refine AllR.cons ?_ AllR.nil
     refine A_op (ls' := #[true, true, true, true, true, true, true, true, true, false, false, false]) rfl (by kernel_rfl) (T_val (v := f35_ev) (x_load1 rfl underlying122 rfl (RC.cell f35_hc2 (Holds.ro_at H54_ 4 rfl) (j := 1) (u := f35_ev) (rfl))) ?_)
     refine ⟨⟨Holds.tr_rd H54_ 1 rfl 3 rfl, (Holds.ro_at H54_ 4 rfl)⟩, ?_⟩
     refine A_tk 9 (v := (Value.string (strN (ints y31_.q.end_)))) rfl (by kernel_rfl) (fun w hS => x_b2sRS rfl f35_hev hS.2 underlying122 underlying5 underlying9) hq55_ ?_
     refine A_ready (i := 10) (rs := []) (by kernel_rfl) ?_
     refine AllR.cons ?_ AllR.nil
     have H57_ := ((Holds.bring H54_ 4 rfl) :)
     refine A_op (ls' := #[true, true, true, true, true, true, true, true, true, true, true, false]) rfl (by kernel_rfl) (T_call (al := [(Value.string (strN (ints y31_.q.key))), (Value.string (strN (ints y31_.q.end_)))]) (pre := []) rfl rfl cb52 (ovNewIv R (strN (ints y31_.q.key)) (strN (ints y31_.q.end_))) H57_ ?_)
     rintro v56_ p61_ w58_ ⟨rfl, rfl⟩ S60_ H59_
     have S62_ := Same.trans (Same.trans S50_ (Same.drew _)) S60_
     refine ⟨⟨Holds.tr_rd H59_ 2 rfl 4 rfl, (Holds.ro_at H59_ 0 rfl)⟩, ?_⟩
     refine A_ready (i := 11) (rs := []) (by kernel_rfl) ?_
     refine AllR.cons ?_ AllR.nil
     refine A_op0 (ls' := #[true, true, true, true, true, true, true, true, true, true, true, true]) rfl (by kernel_rfl) (T_storeN (vs := [(Value.iface 166 (Value.string (strN (ints y31_.q.key)))), (Value.iface 166 (Value.string (strN (ints y31_.q.end_))))]) rfl rfl z111 rfl (by simp [Value.oneCell']) H59_ 1 rfl (Nat.le_of_ble_eq_true (by rfl)) ?_)
     intro w63_ S65_ H64_
     have S66_ := Same.trans S62_ S65_
     refine ⟨⟨Holds.tr_rd H64_ 2 rfl 4 rfl, (Holds.ro_at H64_ 0 rfl)⟩, ?_⟩
     refine A_done (by kernel_rfl) ?_
     refine (X_then (hK51_ _ _ ?_))
     refine C_reg ?_
     refine sm (Value.iface 186 (vQ b11_)) ?_
     refine sv (v := (vA #[(Value.iface 166 (Value.string (strN (ints y31_.q.key)))), (Value.iface 166 (Value.string (strN (ints y31_.q.end_))))])) (x_loadN (vs := [(Value.iface 166 (Value.string (strN (ints y31_.q.key)))), (Value.iface 166 (Value.string (strN (ints y31_.q.end_))))]) rfl underlying111 rfl z111 rfl (Rd.cells (Holds.rd H64_ 1 rfl) 0 rfl)) ?_
     refine sv (v := (vA #[])) (by kernel_rfl) ?_
     refine sv (v := (Value.iface 205 (vA #[]))) (by kernel_rfl) ?_
     have H79_ := ((Holds.bring (Holds.bring (Holds.bring (Holds.bring H64_ 4 rfl) 3 rfl) 4 rfl) 3 rfl) :)
     refine S_list (T_invoke (al := [(vQ b11_), (vA #[((Value.iface 166 (Value.string (strN (ints y31_.q.key))))), ((Value.iface 166 (Value.string (strN (ints y31_.q.end_)))))]), ((Value.iface 205 (vA #[])))]) (pre := [cl b11_ 188 [(vQ (rt b5_ W)), (vI .i64 cnt), (vQ b5_)], tr b5_ b5_ W, clf b5_ 185 [(Value.nilIface), (Value.nilIface), (Value.nilIface), (Value.nilIface), (vP none), (vP none), (vP none), (vI .i64 0)]]) rfl (fun w => by kernel_rfl) (lcons rfl (lcons (congrArg (fun l => vA (List.toArray l)) (lcons (rfl : (Value.iface 166 (Value.string (strN (ints y31_.q.key)))) = ((Value.iface 166 (Value.string (strN (ints y31_.q.key)))))) (lcons (rfl : (Value.iface 166 (Value.string (strN (ints y31_.q.end_)))) = ((Value.iface 166 (Value.string (strN (ints y31_.q.end_)))))) rfl))) (lcons (rfl : (Value.iface 205 (vA #[])) = ((Value.iface 205 (vA #[])))) rfl))) cb147 (itInsert R EK (EO 1) b11_ b5_ cnt [(Value.nilIface), (Value.nilIface), (Value.nilIface), (Value.nilIface), (vP none), (vP none), (vP none), (vI .i64 0)] W 166 166 205 (Value.string (strN (ints y31_.q.key))) (Value.string (strN (ints y31_.q.end_))) (vA #[]) (dlo y31_) (dhi y31_) (hIW.ok) (ev1 (kS y31_)) (by unfold dhi; first | (rw [if_pos (by omega)]; exact ev1 _) | (rw [if_neg (by omega)]; exact ev1 _)) (⟨by omega, by have h__ := delsK_len (List.take k L); rw [List.length_take] at h__; omega⟩) (hIW.s)) H79_ ?_)
     rintro v67_ p83_ w80_ ⟨W68_, L169_, L270_, z71_, rfl, rfl, he72_, he73_, he74_, he75_, he76_, he77_, he78_⟩ S82_ H81_
     have S84_ := Same.trans S66_ S82_
     have hIn85_ : IW R W68_ (delsK (List.take (k + 1) L)) := by rw [delsK_snoc hy32_ f35_hk]; exact hIW.ins he72_ he73_ he74_ he75_ he76_
     refine wpList_nil (X_blkN (X_then (hK26_ _ _ ?_)))
     refine C_reg ?_
     refine sv (v := (vI .i64 ((k : Int) + 1))) (x_bin rfl rfl (ib_add (IntWalk.i64_in _ (by omega)))) ?_
     refine sm (vI .i64 ((k : Int) + 1)) ?_
     refine wpList_nil (X_then ?_)
     have H86_ := Holds.pkF H81_ [2, 1, 1, 0] 1
     exact ⟨⟨k + 1, W68_, cnt + 1⟩, ⟨_, congrArg (fun e => mkA 270 e []) (ch (ch (ch (ch (ch (ch (ch (ch rfl rfl) rfl) rfl) rfl) rfl) rfl) rfl) (congrArg (vI .i64) ((by first | rfl | omega | (simp; done) | (simp; omega)) : (k : Int) + 1 = ((k + 1 : Nat) : Int)))), H86_, S84_, (by first | assumption | omega | exact rfl), (hIn85_), (by rw [delsK_snoc hy32_ f35_hk, List.length_append, List.length_singleton]; omega)⟩, by first | omega | (dsimp only; omega) | (simp; omega)⟩
    refine AllR.cons ?_ AllR.nil
    refine A_op (ls' := #[true, true, true, false, false, true, true, true, true, false, false, false]) rfl (by kernel_rfl) (T_val (v := f35_ev) (x_load1 rfl underlying122 rfl (RC.cell f35_hc2 (Holds.ro_at H54_ 4 rfl) (j := 1) (u := f35_ev) (rfl))) ?_)
    refine ⟨⟨Holds.tr_rd H54_ 1 rfl 3 rfl, (Holds.ro_at H54_ 4 rfl)⟩, ?_⟩
    refine A_tk 9 (v := (Value.string (strN (ints y31_.q.end_)))) rfl (by kernel_rfl) (fun w hS => x_b2sRS rfl f35_hev hS.2 underlying122 underlying5 underlying9) hq55_ ?_
    refine A_ready (i := 3) (rs := []) (by kernel_rfl) ?_
    refine AllR.cons ?_ AllR.nil
    refine A_op (ls' := #[true, true, true, true, false, true, true, true, true, true, false, false]) rfl (by kernel_rfl) (T_val (v := f35_kv) (x_load1 rfl underlying122 rfl (RC.cell f35_hc2 (Holds.ro_at H54_ 4 rfl) (j := 0) (u := f35_kv) (rfl))) ?_)
    refine ⟨⟨Holds.tr_rd H54_ 1 rfl 3 rfl, (Holds.ro_at H54_ 4 rfl)⟩, ?_⟩
    refine A_tk 4 (v := (Value.string (strN (ints y31_.q.key)))) rfl (by kernel_rfl) (fun w hS => x_b2sRS rfl f35_hkv hS.2 underlying122 underlying5 underlying9) hq55_ ?_
    refine A_ready (i := 10) (rs := []) (by kernel_rfl) ?_
    refine AllR.cons ?_ AllR.nil
    have H88_ := ((Holds.bring H54_ 4 rfl) :)
    refine A_op (ls' := #[true, true, true, true, true, true, true, true, true, true, true, false]) rfl (by kernel_rfl) (T_call (al := [(Value.string (strN (ints y31_.q.key))), (Value.string (strN (ints y31_.q.end_)))]) (pre := []) rfl rfl cb52 (ovNewIv R (strN (ints y31_.q.key)) (strN (ints y31_.q.end_))) H88_ ?_)
    rintro v87_ p92_ w89_ ⟨rfl, rfl⟩ S91_ H90_
    have S93_ := Same.trans (Same.trans S50_ (Same.drew _)) S91_
    refine ⟨⟨Holds.tr_rd H90_ 2 rfl 4 rfl, (Holds.ro_at H90_ 0 rfl)⟩, ?_⟩
    refine A_ready (i := 11) (rs := []) (by kernel_rfl) ?_
    refine AllR.cons ?_ AllR.nil
    refine A_op0 (ls' := #[true, true, true, true, true, true, true, true, true, true, true, true]) rfl (by kernel_rfl) (T_storeN (vs := [(Value.iface 166 (Value.string (strN (ints y31_.q.key)))), (Value.iface 166 (Value.string (strN (ints y31_.q.end_))))]) rfl rfl z111 rfl (by simp [Value.oneCell']) H90_ 1 rfl (Nat.le_of_ble_eq_true (by rfl)) ?_)
    intro w94_ S96_ H95_
    have S97_ := Same.trans S93_ S96_
    refine ⟨⟨Holds.tr_rd H95_ 2 rfl 4 rfl, (Holds.ro_at H95_ 0 rfl)⟩, ?_⟩
    refine A_done (by kernel_rfl) ?_
    refine (X_then (hK51_ _ _ ?_))
    refine C_reg ?_
    refine sm (Value.iface 186 (vQ b11_)) ?_
    refine sv (v := (vA #[(Value.iface 166 (Value.string (strN (ints y31_.q.key)))), (Value.iface 166 (Value.string (strN (ints y31_.q.end_))))])) (x_loadN (vs := [(Value.iface 166 (Value.string (strN (ints y31_.q.key)))), (Value.iface 166 (Value.string (strN (ints y31_.q.end_))))]) rfl underlying111 rfl z111 rfl (Rd.cells (Holds.rd H95_ 1 rfl) 0 rfl)) ?_
    refine sv (v := (vA #[])) (by kernel_rfl) ?_
    refine sv (v := (Value.iface 205 (vA #[]))) (by kernel_rfl) ?_
    have H110_ := ((Holds.bring (Holds.bring (Holds.bring (Holds.bring H95_ 4 rfl) 3 rfl) 4 rfl) 3 rfl) :)
    refine S_list (T_invoke (al := [(vQ b11_), (vA #[((Value.iface 166 (Value.string (strN (ints y31_.q.key))))), ((Value.iface 166 (Value.string (strN (ints y31_.q.end_)))))]), ((Value.iface 205 (vA #[])))]) (pre := [cl b11_ 188 [(vQ (rt b5_ W)), (vI .i64 cnt), (vQ b5_)], tr b5_ b5_ W, clf b5_ 185 [(Value.nilIface), (Value.nilIface), (Value.nilIface), (Value.nilIface), (vP none), (vP none), (vP none), (vI .i64 0)]]) rfl (fun w => by kernel_rfl) (lcons rfl (lcons (congrArg (fun l => vA (List.toArray l)) (lcons (rfl : (Value.iface 166 (Value.string (strN (ints y31_.q.key)))) = ((Value.iface 166 (Value.string (strN (ints y31_.q.key)))))) (lcons (rfl : (Value.iface 166 (Value.string (strN (ints y31_.q.end_)))) = ((Value.iface 166 (Value.string (strN (ints y31_.q.end_)))))) rfl))) (lcons (rfl : (Value.iface 205 (vA #[])) = ((Value.iface 205 (vA #[])))) rfl))) cb147 (itInsert R EK (EO 1) b11_ b5_ cnt [(Value.nilIface), (Value.nilIface), (Value.nilIface), (Value.nilIface), (vP none), (vP none), (vP none), (vI .i64 0)] W 166 166 205 (Value.string (strN (ints y31_.q.key))) (Value.string (strN (ints y31_.q.end_))) (vA #[]) (dlo y31_) (dhi y31_) (hIW.ok) (ev1 (kS y31_)) (by unfold dhi; first | (rw [if_pos (by omega)]; exact ev1 _) | (rw [if_neg (by omega)]; exact ev1 _)) (⟨by omega, by have h__ := delsK_len (List.take k L); rw [List.length_take] at h__; omega⟩) (hIW.s)) H110_ ?_)
    rintro v98_ p114_ w111_ ⟨W99_, L1100_, L2101_, z102_, rfl, rfl, he103_, he104_, he105_, he106_, he107_, he108_, he109_⟩ S113_ H112_
    have S115_ := Same.trans S97_ S113_
    have hIn116_ : IW R W99_ (delsK (List.take (k + 1) L)) := by rw [delsK_snoc hy32_ f35_hk]; exact hIW.ins he103_ he104_ he105_ he106_ he107_
    refine wpList_nil (X_blkN (X_then (hK26_ _ _ ?_)))
    refine C_reg ?_
    refine sv (v := (vI .i64 ((k : Int) + 1))) (x_bin rfl rfl (ib_add (IntWalk.i64_in _ (by omega)))) ?_
    refine sm (vI .i64 ((k : Int) + 1)) ?_
    refine wpList_nil (X_then ?_)
    have H117_ := Holds.pkF H112_ [2, 1, 1, 0] 1
    exact ⟨⟨k + 1, W99_, cnt + 1⟩, ⟨_, congrArg (fun e => mkA 270 e []) (ch (ch (ch (ch (ch (ch (ch (ch rfl rfl) rfl) rfl) rfl) rfl) rfl) rfl) (congrArg (vI .i64) ((by first | rfl | omega | (simp; done) | (simp; omega)) : (k : Int) + 1 = ((k + 1 : Nat) : Int)))), H117_, S115_, (by first | assumption | omega | exact rfl), (hIn116_), (by rw [delsK_snoc hy32_ f35_hk, List.length_append, List.length_singleton]; omega)⟩, by first | omega | (dsimp only; omega) | (simp; omega)⟩
   ·have c53_fp : ¬ (((List.length (ints y31_.q.end_)) : Int) ≠ 0) := of_decide_eq_false c53_f
    refine C_reg ?_
    refine sm (vQ f35_b2) ?_
    refine sv (v := (vQ f35_b2)) (by kernel_rfl) ?_
    refine sv (v := (vQ f35_b2)) (by kernel_rfl) ?_
    refine sv (v := f35_kv) (x_load1 rfl underlying122 rfl (RC.cell f35_hc2 (Holds.ro_at H48_ 4 rfl) (j := 0) (u := f35_kv) (rfl))) ?_
    refine sv (v := (Value.string (strN (ints y31_.q.key)))) (x_b2sRS rfl f35_hkv (Holds.ro_at H48_ 4 rfl) underlying122 underlying5 underlying9) ?_
    refine S_list (T_callW (al := [(Value.string (strN (ints y31_.q.key)))]) rfl rfl cb89 (Calls.into (n := 7) func89 rfl ntmps89 rfl rfl ?_))
    refine cr fun _ hK118_ => ?_
    refine S_list (T_alloc z111 H48_ ?_)
    intro b119_ w120_ S122_ H121_
    have S123_ := Same.trans S50_ S122_
    refine wn (hK118_ _ _ ?_)
    refine cr fun _ hK124_ => ?_
    refine sm (Value.string (strN (ints y31_.q.key))) ?_
    refine sm (Value.string (strN (ints y31_.q.key))) ?_
    refine sv (v := (Value.string ((strN (ints y31_.q.key)) ++ (ByteArray.mk #[0])))) (x_str rfl rfl (so_add (by have h1__ : (ByteArray.mk #[0]).size = 1 := rfl; omega)) (by decide)) ?_
    have H126_ := ((Holds.bring H121_ 5 rfl) :)
    refine S_list (T_call (al := [(Value.string (strN (ints y31_.q.key))), (Value.string ((strN (ints y31_.q.key)) ++ (ByteArray.mk #[0])))]) (pre := []) rfl rfl cb52 (ovNewIv R (strN (ints y31_.q.key)) ((strN (ints y31_.q.key)) ++ (ByteArray.mk #[0]))) H126_ ?_)
    rintro v125_ p130_ w127_ ⟨rfl, rfl⟩ S129_ H128_
    have S131_ := Same.trans S123_ S129_
    refine S_list0 (T_storeN (vs := [(Value.iface 166 (Value.string (strN (ints y31_.q.key)))), (Value.iface 166 (Value.string ((strN (ints y31_.q.key)) ++ (ByteArray.mk #[0]))))]) rfl rfl z111 rfl (by simp [Value.oneCell']) H128_ 1 rfl (Nat.le_of_ble_eq_true (by rfl)) ?_)
    intro w132_ S134_ H133_
    have S135_ := Same.trans S131_ S134_
    refine wn (hK124_ _ _ ?_)
    refine C_ret ?_
    refine R_any (v := (vA #[(Value.iface 166 (Value.string (strN (ints y31_.q.key)))), (Value.iface 166 (Value.string ((strN (ints y31_.q.key)) ++ (ByteArray.mk #[0]))))])) (run_results1 rfl ⟨_, rfl, load_resN underlying111 rfl z111 rfl (vs := [(Value.iface 166 (Value.string (strN (ints y31_.q.key)))), (Value.iface 166 (Value.string ((strN (ints y31_.q.key)) ++ (ByteArray.mk #[0]))))]) (Holds.cl_cells H133_ 1 rfl 0 rfl)⟩) ⟨_, rfl, ?_⟩
    refine S_list0 (T_storeN (vs := [(Value.iface 166 (Value.string (strN (ints y31_.q.key)))), (Value.iface 166 (Value.string ((strN (ints y31_.q.key)) ++ (ByteArray.mk #[0]))))]) rfl rfl z111 rfl (by simp [Value.oneCell']) H133_ 2 rfl (Nat.le_of_ble_eq_true (by rfl)) ?_)
    intro w136_ S138_ H137_
    have S139_ := Same.trans S135_ S138_
    refine wn (hK51_ _ _ ?_)
    refine C_reg ?_
    refine sm (Value.iface 186 (vQ b11_)) ?_
    refine sv (v := (vA #[(Value.iface 166 (Value.string (strN (ints y31_.q.key)))), (Value.iface 166 (Value.string ((strN (ints y31_.q.key)) ++ (ByteArray.mk #[0]))))])) (x_loadN (vs := [(Value.iface 166 (Value.string (strN (ints y31_.q.key)))), (Value.iface 166 (Value.string ((strN (ints y31_.q.key)) ++ (ByteArray.mk #[0]))))]) rfl underlying111 rfl z111 rfl (Rd.cells (Holds.rd H137_ 2 rfl) 0 rfl)) ?_
    refine sv (v := (vA #[])) (by kernel_rfl) ?_
    refine sv (v := (Value.iface 205 (vA #[]))) (by kernel_rfl) ?_
    have H152_ := ((Holds.bring (Holds.bring (Holds.bring (Holds.bring H137_ 5 rfl) 4 rfl) 5 rfl) 3 rfl) :)
    refine S_list (T_invoke (al := [(vQ b11_), (vA #[((Value.iface 166 (Value.string (strN (ints y31_.q.key))))), ((Value.iface 166 (Value.string ((strN (ints y31_.q.key)) ++ (ByteArray.mk #[0])))))]), ((Value.iface 205 (vA #[])))]) (pre := [cl b11_ 188 [(vQ (rt b5_ W)), (vI .i64 cnt), (vQ b5_)], tr b5_ b5_ W, clf b5_ 185 [(Value.nilIface), (Value.nilIface), (Value.nilIface), (Value.nilIface), (vP none), (vP none), (vP none), (vI .i64 0)]]) rfl (fun w => by kernel_rfl) (lcons rfl (lcons (congrArg (fun l => vA (List.toArray l)) (lcons (rfl : (Value.iface 166 (Value.string (strN (ints y31_.q.key)))) = ((Value.iface 166 (Value.string (strN (ints y31_.q.key)))))) (lcons (rfl : (Value.iface 166 (Value.string ((strN (ints y31_.q.key)) ++ (ByteArray.mk #[0])))) = ((Value.iface 166 (Value.string ((strN (ints y31_.q.key)) ++ (ByteArray.mk #[0])))))) rfl))) (lcons (rfl : (Value.iface 205 (vA #[])) = ((Value.iface 205 (vA #[])))) rfl))) cb147 (itInsert R EK (EO 1) b11_ b5_ cnt [(Value.nilIface), (Value.nilIface), (Value.nilIface), (Value.nilIface), (vP none), (vP none), (vP none), (vI .i64 0)] W 166 166 205 (Value.string (strN (ints y31_.q.key))) (Value.string ((strN (ints y31_.q.key)) ++ (ByteArray.mk #[0]))) (vA #[]) (dlo y31_) (dhi y31_) (hIW.ok) (ev1 (kS y31_)) (by unfold dhi; first | (rw [if_pos (by omega)]; exact ev1 _) | (rw [if_neg (by omega)]; exact ev1 _)) (⟨by omega, by have h__ := delsK_len (List.take k L); rw [List.length_take] at h__; omega⟩) (hIW.s)) H152_ ?_)
    rintro v140_ p156_ w153_ ⟨W141_, L1142_, L2143_, z144_, rfl, rfl, he145_, he146_, he147_, he148_, he149_, he150_, he151_⟩ S155_ H154_
    have S157_ := Same.trans S139_ S155_
    have hIn158_ : IW R W141_ (delsK (List.take (k + 1) L)) := by rw [delsK_snoc hy32_ f35_hk]; exact hIW.ins he145_ he146_ he147_ he148_ he149_
    refine wpList_nil (X_blkN (X_then (hK26_ _ _ ?_)))
    refine C_reg ?_
    refine sv (v := (vI .i64 ((k : Int) + 1))) (x_bin rfl rfl (ib_add (IntWalk.i64_in _ (by omega)))) ?_
    refine sm (vI .i64 ((k : Int) + 1)) ?_
    refine wpList_nil (X_then ?_)
    have H159_ := Holds.pkF H154_ [2, 1, 1, 0] 2
    exact ⟨⟨k + 1, W141_, cnt + 1⟩, ⟨_, congrArg (fun e => mkA 270 e []) (ch (ch (ch (ch (ch (ch (ch (ch rfl rfl) rfl) rfl) rfl) rfl) rfl) rfl) (congrArg (vI .i64) ((by first | rfl | omega | (simp; done) | (simp; omega)) : (k : Int) + 1 = ((k + 1 : Nat) : Int)))), H159_, S157_, (by first | assumption | omega | exact rfl), (hIn158_), (by rw [delsK_snoc hy32_ f35_hk, List.length_append, List.length_singleton]; omega)⟩, by first | omega | (dsimp only; omega) | (simp; omega)⟩
 ·have c25_fp : ¬ ((k : Int) < ((List.length T) : Int)) := of_decide_eq_false c25_f
  refine C_exit (X_thenX (X_thenX (X_blkHit ?_)))
  refine (X_then (hK16_ _ _ ?_))
  refine cr fun _ hK160_ => ?_
  refine S_list (T_makeMap Value.string H21_ ?_)
  intro b161_ w162_ S164_ H163_
  have S165_ := Same.trans S22_ S164_
  refine sv (v := (Value.map (some b161_))) (x_assign rfl) ?_
  refine wn (hK160_ _ _ ?_)
  refine C_seq (fun _ hK166_ => ?_)
  refine cr fun _ hK167_ => ?_
  refine sv (v := v) (x_move rfl) ?_
  refine sv (v := (vI .i64 ((List.length T) : Int))) (x_lenRS rfl hv underlying104) ?_
  refine sm (vI .i64 0) ?_
  refine wn (hK167_ _ _ ?_)
  refine C_block ?_
  refine C_loop (γ := Nat × Value × Value × Value) (fun x__ a__ w1__ => match x__ with | ⟨k2, s2_v, t3_v, t4_v⟩ => ∃ h : Env, a__ = mkA 270 (upd (upd (upd (upd (upd (upd (upd (upd (upd h 0 v) 2 s2_v) 3 t3_v) 4 t4_v) 5 (Value.iface 186 (vQ b11_))) 12 (Value.map (some b161_))) 90 v) 91 (vI .i64 ((List.length T) : Int))) 92 (vI .i64 (k2 : Int))) [] ∧ Holds w1__ (mp Value.string b161_ [] :: tr b5_ b5_ W :: cl b11_ 188 [(vQ (rt b5_ W)), (vI .i64 cnt), (vQ b5_)] :: clf b5_ 185 [(Value.nilIface), (Value.nilIface), (Value.nilIface), (Value.nilIface), (vP none), (vP none), (vP none), (vI .i64 0)] :: ro R :: F) ∧ Same w w1__ ∧ (k2 ≤ T.length)) (fun x__ => match x__ with | ⟨k2, s2_v, t3_v, t4_v⟩ => T.length - k2) (⟨0, (Value.map none), (Value.nilIface), (Value.nilIface)⟩) ⟨_, congrArg (fun e => mkA 270 e []) (ch (ch (ch (ch (ch (ch (ch (ch (ch rfl rfl) (rfl : (Value.map none) = ((Value.map none)))) (rfl : (Value.nilIface) = ((Value.nilIface)))) (rfl : (Value.nilIface) = ((Value.nilIface)))) rfl) rfl) rfl) rfl) (congrArg (vI .i64) ((by first | rfl | omega | (simp; done) | (simp; omega)) : 0 = (0 : Int)))), H163_, S165_, (by first | assumption | omega | exact rfl)⟩ ?_
  rintro ⟨k2, s2_v, t3_v, t4_v⟩ _ w168_ ⟨h, rfl, H169_, S170_, hk2⟩
  refine cr fun _ hK171_ => ?_
  refine sv (v := (vB (decide ((k2 : Int) < ((List.length T) : Int))))) (x_bin rfl rfl rfl) ?_
  refine wn (hK171_ _ _ ?_)
  refine C_seq (fun _ hK172_ => ?_)
  refine C_cond (b := decide ((k2 : Int) < ((List.length T) : Int))) rfl (fun c173_t => ?_) (fun c173_f => ?_)
  ·have c173_tp : (k2 : Int) < ((List.length T) : Int) := of_decide_eq_true c173_t
   refine C_skip (X_then (hK172_ _ _ ?_))
   refine C_seq (fun _ hK174_ => ?_)
   refine C_block ?_
   refine cr fun _ hK175_ => ?_
   obtain ⟨p176_, hx177_, hm178_⟩ := elem_at T k2 (by omega)
   obtain ⟨y179_, hy180_, q181_o⟩ := hT.at_ hx177_
   have q181_m := List.mem_of_getElem? hy180_
   have q181_s := hsz y179_ q181_m
   have q181_p := hPp y179_ q181_m
   have q181_l : (strN (ints y179_.q.key)).size ≤ 1000000000000000 := by rw [strN_ints]; exact q181_s
   have q181_e := ints_length y179_.q.end_
   refine sv (v := (vP (some ⟨(sb v), so v + k2, none⟩))) (x_idxRS (v := v) rfl hv rfl underlying104 z149 (by omega) (by omega) (by omega : _ = k2) (by rw [Nat.mul_one])) ?_
   refine sv (v := (vQ p176_)) (x_load1 rfl underlying149 rfl (RC.cell (RS.rc hv) (Holds.ro_at H169_ 4 rfl) (j := k2) (u := (vQ p176_)) ((map_at hx177_)))) ?_
   refine sv (v := (vQ p176_)) (x_assign rfl) ?_
   refine wn (hK175_ _ _ ?_)
   refine cr fun _ hK182_ => ?_
   refine sm (vQ p176_) ?_
   refine sv (v := (vQ p176_)) (by kernel_rfl) ?_
   refine sv (v := (vQ p176_)) (by kernel_rfl) ?_
   rcases q181_o.inv with ⟨f183_b1, f183_hk, f183_hc⟩ | ⟨f183_b1, f183_b2, f183_kv, f183_c1, f183_c2, f183_c3, f183_c4, f183_c5, f183_hk, f183_hc, f183_hc1, f183_hc2, f183_hkv⟩ | ⟨f183_b1, f183_b2, f183_kv, f183_ev, f183_c2, f183_hk, f183_hc, f183_hc1, f183_hc2, f183_hkv, f183_hev⟩
   ·skip
    refine sv (v := (Value.iface 150 (vQ f183_b1))) (x_load1 rfl underlying20 rfl (RC.cell f183_hc (Holds.ro_at H169_ 4 rfl) (j := 0) (u := (Value.iface 150 (vQ f183_b1))) (rfl))) ?_
    refine sv (v := (vT #[(vP none), (vB false)])) (by kernel_rfl) ?_
    refine sm (vT #[(vP none), (vB false)]) ?_
    refine sv (v := (vP none)) (by kernel_rfl) ?_
    refine sv (v := (vB false)) (by kernel_rfl) ?_
    refine sv (v := (vP none)) (x_assign rfl) ?_
    refine sv (v := (vB false)) (x_assign rfl) ?_
    refine wn (hK182_ _ _ ?_)
    refine C_seq (fun _ hK184_ => ?_)
    refine cr fun _ hK185_ => ?_
    refine sm (vB false) ?_
    refine sv (v := (vB true)) (x_cast (x_not (b := false) rfl) rfl) ?_
    refine wn (hK185_ _ _ ?_)
    refine C_condT rfl ?_
    refine C_exit (X_thenX (X_blkHit ?_))
    refine (X_then (hK174_ _ _ ?_))
    refine C_reg ?_
    refine sv (v := (vI .i64 ((k2 : Int) + 1))) (x_bin rfl rfl (ib_add (IntWalk.i64_in _ (by omega)))) ?_
    refine sm (vI .i64 ((k2 : Int) + 1)) ?_
    refine wpList_nil (X_then ?_)
    exact ⟨⟨k2 + 1, s2_v, t3_v, t4_v⟩, ⟨_, congrArg (fun e => mkA 270 e []) (ch (ch (ch (ch (ch (ch (ch (ch (ch rfl rfl) rfl) rfl) rfl) rfl) rfl) rfl) rfl) (congrArg (vI .i64) ((by first | rfl | omega | (simp; done) | (simp; omega)) : (k2 : Int) + 1 = ((k2 + 1 : Nat) : Int)))), H169_, S170_, (by first | assumption | omega | exact rfl)⟩, by first | omega | (dsimp only; omega) | (simp; omega)⟩
   ·skip
    refine sv (v := (Value.iface 155 (vQ f183_b1))) (x_load1 rfl underlying20 rfl (RC.cell f183_hc (Holds.ro_at H169_ 4 rfl) (j := 0) (u := (Value.iface 155 (vQ f183_b1))) (rfl))) ?_
    refine sv (v := (vT #[(vP none), (vB false)])) (by kernel_rfl) ?_
    refine sm (vT #[(vP none), (vB false)]) ?_
    refine sv (v := (vP none)) (by kernel_rfl) ?_
    refine sv (v := (vB false)) (by kernel_rfl) ?_
    refine sv (v := (vP none)) (x_assign rfl) ?_
    refine sv (v := (vB false)) (x_assign rfl) ?_
    refine wn (hK182_ _ _ ?_)
    refine C_seq (fun _ hK186_ => ?_)
    refine cr fun _ hK187_ => ?_
    refine sm (vB false) ?_
    refine sv (v := (vB true)) (x_cast (x_not (b := false) rfl) rfl) ?_
    refine wn (hK187_ _ _ ?_)
    refine C_condT rfl ?_
    refine C_exit (X_thenX (X_blkHit ?_))
    refine (X_then (hK174_ _ _ ?_))
    refine C_reg ?_
    refine sv (v := (vI .i64 ((k2 : Int) + 1))) (x_bin rfl rfl (ib_add (IntWalk.i64_in _ (by omega)))) ?_
    refine sm (vI .i64 ((k2 : Int) + 1)) ?_
    refine wpList_nil (X_then ?_)
    exact ⟨⟨k2 + 1, s2_v, t3_v, t4_v⟩, ⟨_, congrArg (fun e => mkA 270 e []) (ch (ch (ch (ch (ch (ch (ch (ch (ch rfl rfl) rfl) rfl) rfl) rfl) rfl) rfl) rfl) (congrArg (vI .i64) ((by first | rfl | omega | (simp; done) | (simp; omega)) : (k2 : Int) + 1 = ((k2 + 1 : Nat) : Int)))), H169_, S170_, (by first | assumption | omega | exact rfl)⟩, by first | omega | (dsimp only; omega) | (simp; omega)⟩
   ·skip
    refine sv (v := (Value.iface 158 (vQ f183_b1))) (x_load1 rfl underlying20 rfl (RC.cell f183_hc (Holds.ro_at H169_ 4 rfl) (j := 0) (u := (Value.iface 158 (vQ f183_b1))) (rfl))) ?_
    refine sv (v := (vT #[(vP none), (vB false)])) (by kernel_rfl) ?_
    refine sm (vT #[(vP none), (vB false)]) ?_
    refine sv (v := (vP none)) (by kernel_rfl) ?_
    refine sv (v := (vB false)) (by kernel_rfl) ?_
    refine sv (v := (vP none)) (x_assign rfl) ?_
    refine sv (v := (vB false)) (x_assign rfl) ?_
    refine wn (hK182_ _ _ ?_)
    refine C_seq (fun _ hK188_ => ?_)
    refine cr fun _ hK189_ => ?_
    refine sm (vB false) ?_
    refine sv (v := (vB true)) (x_cast (x_not (b := false) rfl) rfl) ?_
    refine wn (hK189_ _ _ ?_)
    refine C_condT rfl ?_
    refine C_exit (X_thenX (X_blkHit ?_))
    refine (X_then (hK174_ _ _ ?_))
    refine C_reg ?_
    refine sv (v := (vI .i64 ((k2 : Int) + 1))) (x_bin rfl rfl (ib_add (IntWalk.i64_in _ (by omega)))) ?_
    refine sm (vI .i64 ((k2 : Int) + 1)) ?_
    refine wpList_nil (X_then ?_)
    exact ⟨⟨k2 + 1, s2_v, t3_v, t4_v⟩, ⟨_, congrArg (fun e => mkA 270 e []) (ch (ch (ch (ch (ch (ch (ch (ch (ch rfl rfl) rfl) rfl) rfl) rfl) rfl) rfl) rfl) (congrArg (vI .i64) ((by first | rfl | omega | (simp; done) | (simp; omega)) : (k2 : Int) + 1 = ((k2 + 1 : Nat) : Int)))), H169_, S170_, (by first | assumption | omega | exact rfl)⟩, by first | omega | (dsimp only; omega) | (simp; omega)⟩
  ·have c173_fp : ¬ ((k2 : Int) < ((List.length T) : Int)) := of_decide_eq_false c173_f
   refine C_exit (X_thenX (X_thenX (X_blkHit ?_)))
   refine (X_then (hK166_ _ _ ?_))
   refine C_seq (fun _ hK190_ => ?_)
   refine cr fun _ hK191_ => ?_
   refine sv (v := v) (x_move rfl) ?_
   refine sv (v := (vI .i64 ((List.length T) : Int))) (x_lenRS rfl hv underlying104) ?_
   refine sm (vI .i64 0) ?_
   refine wn (hK191_ _ _ ?_)
   refine C_block ?_
   have hIWL : IW R W (delsK L) := by rw [List.take_of_length_le (by omega)] at hIW; exact hIW
   have eH192_ : mp Value.string b161_ [] = mp Value.string b161_ ([] : List (ByteArray × Value)) := by first | rfl | (congr 1 <;> first | rfl | omega | (simp; done) | (simp; omega))
   have H192_ : Holds w168_ (mp Value.string b161_ ([] : List (ByteArray × Value)) :: tr b5_ b5_ W :: cl b11_ 188 [(vQ (rt b5_ W)), (vI .i64 cnt), (vQ b5_)] :: clf b5_ 185 [(Value.nilIface), (Value.nilIface), (Value.nilIface), (Value.nilIface), (vP none), (vP none), (vP none), (vI .i64 0)] :: ro R :: F) := cast1 (P := fun c__ => Holds w168_ (c__ :: tr b5_ b5_ W :: cl b11_ 188 [(vQ (rt b5_ W)), (vI .i64 cnt), (vQ b5_)] :: clf b5_ 185 [(Value.nilIface), (Value.nilIface), (Value.nilIface), (Value.nilIface), (vP none), (vP none), (vP none), (vI .i64 0)] :: ro R :: F)) eH192_ H169_
   refine C_loop (γ := Nat × (List (ByteArray × Value)) × Value × Value × Value) (fun x__ a__ w1__ => match x__ with | ⟨k5, m, s2_v, t3_v, t4_v⟩ => ∃ h : Env, a__ = mkA 270 (upd (upd (upd (upd (upd (upd (upd (upd h 2 s2_v) 3 t3_v) 4 t4_v) 5 (Value.iface 186 (vQ b11_))) 12 (Value.map (some b161_))) 215 v) 216 (vI .i64 ((List.length T) : Int))) 217 (vI .i64 (k5 : Int))) [] ∧ Holds w1__ (mp Value.string b161_ m :: tr b5_ b5_ W :: cl b11_ 188 [(vQ (rt b5_ W)), (vI .i64 cnt), (vQ b5_)] :: clf b5_ 185 [(Value.nilIface), (Value.nilIface), (Value.nilIface), (Value.nilIface), (vP none), (vP none), (vP none), (vI .i64 0)] :: ro R :: F) ∧ Same w w1__ ∧ (k5 ≤ T.length) ∧ (m = pmp (putsK (List.take k5 L))) ∧ (PG L (putsK (List.take k5 L)))) (fun x__ => match x__ with | ⟨k5, m, s2_v, t3_v, t4_v⟩ => T.length - k5) (⟨0, ([] : List (ByteArray × Value)), s2_v, t3_v, t4_v⟩) ⟨_, congrArg (fun e => mkA 270 e []) (ch (ch (ch (ch (ch (ch (ch (ch rfl rfl) rfl) rfl) rfl) rfl) rfl) rfl) (congrArg (vI .i64) ((by first | rfl | omega | (simp; done) | (simp; omega)) : 0 = (0 : Int)))), H192_, S170_, (by first | assumption | omega | exact rfl), (by rw [List.take_zero]; rfl), (by rw [List.take_zero]; exact PG.nil)⟩ ?_
   rintro ⟨k5, m, s2_v, t3_v, t4_v⟩ _ w193_ ⟨h, rfl, H194_, S195_, hk5, hm, hPG⟩
   refine cr fun _ hK196_ => ?_
   refine sv (v := (vB (decide ((k5 : Int) < ((List.length T) : Int))))) (x_bin rfl rfl rfl) ?_
   refine wn (hK196_ _ _ ?_)
   refine C_seq (fun _ hK197_ => ?_)
   refine C_cond (b := decide ((k5 : Int) < ((List.length T) : Int))) rfl (fun c198_t => ?_) (fun c198_f => ?_)
   ·have c198_tp : (k5 : Int) < ((List.length T) : Int) := of_decide_eq_true c198_t
    refine C_skip (X_then (hK197_ _ _ ?_))
    refine C_seq (fun _ hK199_ => ?_)
    refine C_block ?_
    refine cr fun _ hK200_ => ?_
    obtain ⟨p201_, hx202_, hm203_⟩ := elem_at T k5 (by omega)
    obtain ⟨y204_, hy205_, q206_o⟩ := hT.at_ hx202_
    have q206_m := List.mem_of_getElem? hy205_
    have q206_s := hsz y204_ q206_m
    have q206_p := hPp y204_ q206_m
    have q206_l : (strN (ints y204_.q.key)).size ≤ 1000000000000000 := by rw [strN_ints]; exact q206_s
    have q206_e := ints_length y204_.q.end_
    refine sv (v := (vP (some ⟨(sb v), so v + k5, none⟩))) (x_idxRS (v := v) rfl hv rfl underlying104 z149 (by omega) (by omega) (by omega : _ = k5) (by rw [Nat.mul_one])) ?_
    refine sv (v := (vQ p201_)) (x_load1 rfl underlying149 rfl (RC.cell (RS.rc hv) (Holds.ro_at H194_ 4 rfl) (j := k5) (u := (vQ p201_)) ((map_at hx202_)))) ?_
    refine sv (v := (vQ p201_)) (x_assign rfl) ?_
    refine wn (hK200_ _ _ ?_)
    refine cr fun _ hK207_ => ?_
    refine sm (vQ p201_) ?_
    refine sv (v := (vQ p201_)) (by kernel_rfl) ?_
    refine sv (v := (vQ p201_)) (by kernel_rfl) ?_
    rcases q206_o.inv with ⟨f208_b1, f208_hk, f208_hc⟩ | ⟨f208_b1, f208_b2, f208_kv, f208_c1, f208_c2, f208_c3, f208_c4, f208_c5, f208_hk, f208_hc, f208_hc1, f208_hc2, f208_hkv⟩ | ⟨f208_b1, f208_b2, f208_kv, f208_ev, f208_c2, f208_hk, f208_hc, f208_hc1, f208_hc2, f208_hkv, f208_hev⟩
    ·skip
     refine sv (v := (Value.iface 150 (vQ f208_b1))) (x_load1 rfl underlying20 rfl (RC.cell f208_hc (Holds.ro_at H194_ 4 rfl) (j := 0) (u := (Value.iface 150 (vQ f208_b1))) (rfl))) ?_
     refine sv (v := (vT #[(vP none), (vB false)])) (by kernel_rfl) ?_
     refine sm (vT #[(vP none), (vB false)]) ?_
     refine sv (v := (vP none)) (by kernel_rfl) ?_
     refine sv (v := (vB false)) (by kernel_rfl) ?_
     refine sv (v := (vP none)) (x_assign rfl) ?_
     refine sv (v := (vB false)) (x_assign rfl) ?_
     refine wn (hK207_ _ _ ?_)
     refine C_seq (fun _ hK209_ => ?_)
     refine cr fun _ hK210_ => ?_
     refine sm (vB false) ?_
     refine sv (v := (vB true)) (x_cast (x_not (b := false) rfl) rfl) ?_
     refine sm (vB true) ?_
     refine S_no (j := 2) (dj := 231) (b := true) rfl rfl rfl (by decide) ?_
     refine S_no (j := 2) (dj := 231) (b := true) rfl rfl rfl (by decide) ?_
     refine S_no (j := 2) (dj := 231) (b := true) rfl rfl rfl (by decide) ?_
     refine S_no (j := 2) (dj := 231) (b := true) rfl rfl rfl (by decide) ?_
     refine S_no (j := 2) (dj := 231) (b := true) rfl rfl rfl (by decide) ?_
     refine S_list (T_pickT (v := (vB true)) rfl rfl ?_)
     refine wn (hK210_ _ _ ?_)
     refine C_condT rfl ?_
     refine C_exit (X_thenX (X_blkHit ?_))
     refine (X_then (hK199_ _ _ ?_))
     refine C_reg ?_
     refine sv (v := (vI .i64 ((k5 : Int) + 1))) (x_bin rfl rfl (ib_add (IntWalk.i64_in _ (by omega)))) ?_
     refine sm (vI .i64 ((k5 : Int) + 1)) ?_
     refine wpList_nil (X_then ?_)
     exact ⟨⟨k5 + 1, m, s2_v, t3_v, t4_v⟩, ⟨_, congrArg (fun e => mkA 270 e []) (ch (ch (ch (ch (ch (ch (ch (ch rfl rfl) rfl) rfl) rfl) rfl) rfl) rfl) (congrArg (vI .i64) ((by first | rfl | omega | (simp; done) | (simp; omega)) : (k5 : Int) + 1 = ((k5 + 1 : Nat) : Int)))), H194_, S195_, (by first | assumption | omega | exact rfl), (by rw [putsK_skip hy205_ (by omega)]; exact hm), (by rw [putsK_skip hy205_ (by omega)]; exact hPG)⟩, by first | omega | (dsimp only; omega) | (simp; omega)⟩
    ·skip
     refine sv (v := (Value.iface 155 (vQ f208_b1))) (x_load1 rfl underlying20 rfl (RC.cell f208_hc (Holds.ro_at H194_ 4 rfl) (j := 0) (u := (Value.iface 155 (vQ f208_b1))) (rfl))) ?_
     refine sv (v := (vT #[(vQ f208_b1), (vB true)])) (by kernel_rfl) ?_
     refine sm (vT #[(vQ f208_b1), (vB true)]) ?_
     refine sv (v := (vQ f208_b1)) (by kernel_rfl) ?_
     refine sv (v := (vB true)) (by kernel_rfl) ?_
     refine sv (v := (vQ f208_b1)) (x_assign rfl) ?_
     refine sv (v := (vB true)) (x_assign rfl) ?_
     refine wn (hK207_ _ _ ?_)
     refine C_seq (fun _ hK211_ => ?_)
     refine cr fun _ hK212_ => ?_
     refine sm (vB true) ?_
     refine sv (v := (vB false)) (x_cast (x_not (b := true) rfl) rfl) ?_
     refine sm (vB false) ?_
     refine S_yes (j := 2) (dj := 231) (b := false) rfl rfl rfl (T_val (v := (vQ f208_b1)) (x_move rfl) ?_)
     refine S_yes (j := 2) (dj := 231) (b := false) rfl rfl rfl (T_val (v := (vQ f208_b1)) (by kernel_rfl) ?_)
     refine S_yes (j := 2) (dj := 231) (b := false) rfl rfl rfl (T_val (v := (vQ f208_b1)) (by kernel_rfl) ?_)
     refine S_yes (j := 2) (dj := 231) (b := false) rfl rfl rfl (T_val (v := (vQ f208_b2)) (x_load1 rfl underlying89 rfl (RC.cell f208_hc1 (Holds.ro_at H194_ 4 rfl) (j := 0) (u := (vQ f208_b2)) (rfl))) ?_)
     refine S_yes (j := 2) (dj := 231) (b := false) rfl rfl rfl (T_val (v := (vB false)) (by kernel_rfl) ?_)
     refine S_list (T_pickF (v := (vB false)) rfl rfl ?_)
     refine wn (hK212_ _ _ ?_)
     refine C_condF rfl ?_
     refine C_skip (X_then (hK211_ _ _ ?_))
     refine cr fun _ hK213_ => ?_
     refine sm (vQ f208_b1) ?_
     refine sv (v := (vQ f208_b1)) (by kernel_rfl) ?_
     refine sv (v := (vQ f208_b1)) (by kernel_rfl) ?_
     refine sv (v := (vQ f208_b2)) (x_load1 rfl underlying89 rfl (RC.cell f208_hc1 (Holds.ro_at H194_ 4 rfl) (j := 0) (u := (vQ f208_b2)) (rfl))) ?_
     refine sv (v := (vQ f208_b2)) (by kernel_rfl) ?_
     refine sv (v := (vQ f208_b2)) (by kernel_rfl) ?_
     refine sv (v := f208_kv) (x_load1 rfl underlying122 rfl (RC.cell f208_hc2 (Holds.ro_at H194_ 4 rfl) (j := 0) (u := f208_kv) (rfl))) ?_
     refine sv (v := (Value.string (strN (ints y204_.q.key)))) (x_b2sRS rfl f208_hkv (Holds.ro_at H194_ 4 rfl) underlying122 underlying5 underlying9) ?_
     refine sv (v := (Value.string (strN (ints y204_.q.key)))) (x_assign rfl) ?_
     refine wn (hK213_ _ _ ?_)
     refine C_seq (fun _ hK214_ => ?_)
     refine cr fun _ hK215_ => ?_
     refine sm (Value.map (some b161_)) ?_
     refine sm (Value.string (strN (ints y204_.q.key))) ?_
     rcases Classical.em (kS y204_ ∈ putsK (List.take k5 L)) with hin216_ | hin216_
     ·skip
      have hmg_ : mget m (strN (ints y204_.q.key)) = some (vA #[]) := by rw [hm]; exact pm_some hin216_
      refine sv (v := (vT #[(vA #[]), (vB true)])) (x_lookup (K := Value.string) (a := strN (ints y204_.q.key)) (m := m) rfl rfl (KeyKind.string underlying9) underlying99 z205 (Holds.mprd H194_ 0 rfl) (by rw [hmg_]; rfl)) ?_
      refine sm (vT #[(vA #[]), (vB true)]) ?_
      refine sv (v := (vA #[])) (by kernel_rfl) ?_
      refine sv (v := (vB true)) (by kernel_rfl) ?_
      refine S_list (T_alloc z205 H194_ ?_)
      intro b217_ w218_ S220_ H219_
      have S221_ := Same.trans S195_ S220_
      refine S_list0 (T_storeN (vs := []) rfl rfl z205 rfl (by simp [Value.oneCell']) H219_ 0 rfl (Nat.le_of_ble_eq_true (by rfl)) ?_)
      intro w222_ S224_ H223_
      have S225_ := Same.trans S221_ S224_
      refine sv (v := (vB true)) (x_assign rfl) ?_
      refine wn (hK215_ _ _ ?_)
      refine cr fun _ hK226_ => ?_
      refine sm (vB true) ?_
      refine wn (hK226_ _ _ ?_)
      refine C_condT rfl ?_
      refine cr fun _ hK227_ => ?_
      refine sm (Value.iface 186 (vQ b11_)) ?_
      refine sv (v := (Value.iface 133 (Value.string (ByteArray.mk #[101, 116, 99, 100, 115, 101, 114, 118, 101, 114, 58, 32, 100, 117, 112, 108, 105, 99, 97, 116, 101, 32, 107, 101, 121, 32, 103, 105, 118, 101, 110, 32, 105, 110, 32, 116, 120, 110, 32, 114, 101, 113, 117, 101, 115, 116])))) (by kernel_rfl) ?_
      refine sv (v := (Value.map none)) (x_assign rfl) ?_
      refine sv (v := (Value.iface 186 (vQ b11_))) (x_assign rfl) ?_
      refine sv (v := (Value.iface 133 (Value.string (ByteArray.mk #[101, 116, 99, 100, 115, 101, 114, 118, 101, 114, 58, 32, 100, 117, 112, 108, 105, 99, 97, 116, 101, 32, 107, 101, 121, 32, 103, 105, 118, 101, 110, 32, 105, 110, 32, 116, 120, 110, 32, 114, 101, 113, 117, 101, 115, 116])))) (x_assign rfl) ?_
      refine wn (hK227_ _ _ ?_)
      refine C_ret (X_thenR (X_blkR (X_thenR (X_thenR (X_blkR (X_thenR ?_))))))
      refine R_any (v := (vT #[(Value.map none), (Value.iface 186 (vQ b11_)), (Value.iface 133 (Value.string (ByteArray.mk #[101, 116, 99, 100, 115, 101, 114, 118, 101, 114, 58, 32, 100, 117, 112, 108, 105, 99, 97, 116, 101, 32, 107, 101, 121, 32, 103, 105, 118, 101, 110, 32, 105, 110, 32, 116, 120, 110, 32, 114, 101, 113, 117, 101, 115, 116])))])) (run_results3 rfl rfl rfl rfl) ?_
      have H228_ := Holds.pkF H223_ [5] 5
      exact ⟨_, _, rfl, (.inr ⟨b11_, rfl, rfl, (bad_twice hy205_ f208_hk hin216_)⟩), S225_, H228_⟩
     ·skip
      have hmg_ : mget m (strN (ints y204_.q.key)) = none := by rw [hm]; exact pm_none hin216_
      refine sv (v := (vT #[(vA #[]), (vB false)])) (x_lookup (K := Value.string) (a := strN (ints y204_.q.key)) (m := m) rfl rfl (KeyKind.string underlying9) underlying99 z205 (Holds.mprd H194_ 0 rfl) (by rw [hmg_]; rfl)) ?_
      refine sm (vT #[(vA #[]), (vB false)]) ?_
      refine sv (v := (vA #[])) (by kernel_rfl) ?_
      refine sv (v := (vB false)) (by kernel_rfl) ?_
      refine S_list (T_alloc z205 H194_ ?_)
      intro b229_ w230_ S232_ H231_
      have S233_ := Same.trans S195_ S232_
      refine S_list0 (T_storeN (vs := []) rfl rfl z205 rfl (by simp [Value.oneCell']) H231_ 0 rfl (Nat.le_of_ble_eq_true (by rfl)) ?_)
      intro w234_ S236_ H235_
      have S237_ := Same.trans S233_ S236_
      refine sv (v := (vB false)) (x_assign rfl) ?_
      refine wn (hK215_ _ _ ?_)
      refine cr fun _ hK238_ => ?_
      refine sm (vB false) ?_
      refine wn (hK238_ _ _ ?_)
      refine C_condF rfl ?_
      refine C_skip (X_then (hK214_ _ _ ?_))
      refine C_seq (fun _ hK239_ => ?_)
      refine C_seq (fun _ hK240_ => ?_)
      refine A_start (S := fun w => MpRd Value.string b161_ m w ∧ RtRd w (rt b5_ W) (rmx W) ∧ Rd b11_ [(vQ (rt b5_ W)), (vI .i64 cnt), (vQ b5_)] w ∧ Sub R (hp w)) (N := 7) foll rfl rfl ?_
      have H241_ := Holds.drew_ H235_
      have hq242_ := And.intro (Holds.mprd H241_ 1 rfl) (And.intro (Holds.tr_rd H241_ 2 rfl 4 rfl) (And.intro (Holds.rd H241_ 3 rfl) ((Holds.ro_at H241_ 5 rfl))))
      refine A_tk 0 (v := (Value.iface 186 (vQ b11_))) rfl (by kernel_rfl) (fun w hS => x_move rfl) hq242_ ?_
      refine A_tk 1 (v := (Value.string (strN (ints y204_.q.key)))) rfl (by kernel_rfl) (fun w hS => x_move rfl) hq242_ ?_
      refine A_tk 3 (v := ((Value.func (.method "Intersects") #[(Value.iface 186 (vQ b11_))] #[]))) rfl (by kernel_rfl) (fun w hS => by kernel_rfl) hq242_ ?_
      refine A_tk 4 (v := ((Value.func (.method "Intersects") #[(Value.iface 186 (vQ b11_))] #[]))) rfl (by kernel_rfl) (fun w hS => by kernel_rfl) hq242_ ?_
      refine A_tk 5 (v := (Value.iface 186 (vQ b11_))) rfl (by kernel_rfl) (fun w hS => x_move rfl) hq242_ ?_
      refine A_ready (i := 2) (rs := []) (by kernel_rfl) ?_
      refine AllR.cons ?_ AllR.nil
      refine A_op (ls' := #[true, true, true, true, true, true, false]) rfl (by kernel_rfl) (T_callW (al := [(Value.string (strN (ints y204_.q.key)))]) rfl rfl cb89 (Calls.into (n := 7) func89 rfl ntmps89 rfl rfl ?_))
      refine cr fun _ hK243_ => ?_
      refine S_list (T_alloc z111 H241_ ?_)
      intro b244_ w245_ S247_ H246_
      have S248_ := Same.trans (Same.trans S237_ (Same.drew _)) S247_
      refine wn (hK243_ _ _ ?_)
      refine cr fun _ hK249_ => ?_
      refine sm (Value.string (strN (ints y204_.q.key))) ?_
      refine sm (Value.string (strN (ints y204_.q.key))) ?_
      refine sv (v := (Value.string ((strN (ints y204_.q.key)) ++ (ByteArray.mk #[0])))) (x_str rfl rfl (so_add (by have h1__ : (ByteArray.mk #[0]).size = 1 := rfl; omega)) (by decide)) ?_
      have H251_ := ((Holds.bring H246_ 6 rfl) :)
      refine S_list (T_call (al := [(Value.string (strN (ints y204_.q.key))), (Value.string ((strN (ints y204_.q.key)) ++ (ByteArray.mk #[0])))]) (pre := []) rfl rfl cb52 (ovNewIv R (strN (ints y204_.q.key)) ((strN (ints y204_.q.key)) ++ (ByteArray.mk #[0]))) H251_ ?_)
      rintro v250_ p255_ w252_ ⟨rfl, rfl⟩ S254_ H253_
      have S256_ := Same.trans S248_ S254_
      refine S_list0 (T_storeN (vs := [(Value.iface 166 (Value.string (strN (ints y204_.q.key)))), (Value.iface 166 (Value.string ((strN (ints y204_.q.key)) ++ (ByteArray.mk #[0]))))]) rfl rfl z111 rfl (by simp [Value.oneCell']) H253_ 1 rfl (Nat.le_of_ble_eq_true (by rfl)) ?_)
      intro w257_ S259_ H258_
      have S260_ := Same.trans S256_ S259_
      refine wn (hK249_ _ _ ?_)
      refine C_ret ?_
      refine R_any (v := (vA #[(Value.iface 166 (Value.string (strN (ints y204_.q.key)))), (Value.iface 166 (Value.string ((strN (ints y204_.q.key)) ++ (ByteArray.mk #[0]))))])) (run_results1 rfl ⟨_, rfl, load_resN underlying111 rfl z111 rfl (vs := [(Value.iface 166 (Value.string (strN (ints y204_.q.key)))), (Value.iface 166 (Value.string ((strN (ints y204_.q.key)) ++ (ByteArray.mk #[0]))))]) (Holds.cl_cells H258_ 1 rfl 0 rfl)⟩) ⟨_, rfl, ?_⟩
      refine ⟨⟨Holds.mprd H258_ 3 rfl, Holds.tr_rd H258_ 4 rfl 6 rfl, Holds.rd H258_ 5 rfl, (Holds.ro_at H258_ 0 rfl)⟩, ?_⟩
      refine A_ready (i := 6) (rs := []) (by kernel_rfl) ?_
      refine AllR.cons ?_ AllR.nil
      have H262_ := ((Holds.bring (Holds.bring (Holds.bring (Holds.bring H258_ 6 rfl) 5 rfl) 6 rfl) 3 rfl) :)
      refine A_op (ls' := #[true, true, true, true, true, true, true]) rfl (by kernel_rfl) (T_invoke (al := [(vQ b11_), (vA #[((Value.iface 166 (Value.string (strN (ints y204_.q.key))))), ((Value.iface 166 (Value.string ((strN (ints y204_.q.key)) ++ (ByteArray.mk #[0])))))])]) (pre := [cl b11_ 188 [(vQ (rt b5_ W)), (vI .i64 cnt), (vQ b5_)], tr b5_ b5_ W, clf b5_ 185 [(Value.nilIface), (Value.nilIface), (Value.nilIface), (Value.nilIface), (vP none), (vP none), (vP none), (vI .i64 0)]]) rfl (fun w => by kernel_rfl) (lcons rfl (lcons (congrArg (fun l => vA (List.toArray l)) (lcons (rfl : (Value.iface 166 (Value.string (strN (ints y204_.q.key)))) = ((Value.iface 166 (Value.string (strN (ints y204_.q.key)))))) (lcons (rfl : (Value.iface 166 (Value.string ((strN (ints y204_.q.key)) ++ (ByteArray.mk #[0])))) = ((Value.iface 166 (Value.string ((strN (ints y204_.q.key)) ++ (ByteArray.mk #[0])))))) rfl))) rfl)) cb148 (itIsect R EK (EO 1) b11_ b5_ cnt [(Value.nilIface), (Value.nilIface), (Value.nilIface), (Value.nilIface), (vP none), (vP none), (vP none), (vI .i64 0)] W 166 166 (Value.string (strN (ints y204_.q.key))) (Value.string ((strN (ints y204_.q.key)) ++ (ByteArray.mk #[0]))) (lo0 (kS y204_)) (hi0 (kS y204_)) (hIWL.ok.1) (ev1 (kS y204_)) (ev1 (kS y204_ ++ ByteArray.mk #[0]))) H262_ ?_)
      rintro v261_ p266_ w263_ ⟨rfl, rfl⟩ S265_ H264_
      have S267_ := Same.trans S260_ S265_
      refine ⟨⟨Holds.mprd H264_ 6 rfl, Holds.tr_rd H264_ 2 rfl 3 rfl, Holds.rd H264_ 1 rfl, (Holds.ro_at H264_ 0 rfl)⟩, ?_⟩
      refine A_done (by kernel_rfl) ?_
      refine (X_then (hK240_ _ _ ?_))
      refine C_cond (b := isect (EO 1) (lo0 (kS y204_)) (hi0 (kS y204_)) W) rfl (fun c268_t => ?_) (fun c268_f => ?_)
      ·skip
       refine cr fun _ hK269_ => ?_
       refine sm (Value.iface 186 (vQ b11_)) ?_
       refine sv (v := (Value.iface 133 (Value.string (ByteArray.mk #[101, 116, 99, 100, 115, 101, 114, 118, 101, 114, 58, 32, 100, 117, 112, 108, 105, 99, 97, 116, 101, 32, 107, 101, 121, 32, 103, 105, 118, 101, 110, 32, 105, 110, 32, 116, 120, 110, 32, 114, 101, 113, 117, 101, 115, 116])))) (by kernel_rfl) ?_
       refine sv (v := (Value.map none)) (x_assign rfl) ?_
       refine sv (v := (Value.iface 186 (vQ b11_))) (x_assign rfl) ?_
       refine sv (v := (Value.iface 133 (Value.string (ByteArray.mk #[101, 116, 99, 100, 115, 101, 114, 118, 101, 114, 58, 32, 100, 117, 112, 108, 105, 99, 97, 116, 101, 32, 107, 101, 121, 32, 103, 105, 118, 101, 110, 32, 105, 110, 32, 116, 120, 110, 32, 114, 101, 113, 117, 101, 115, 116])))) (x_assign rfl) ?_
       refine wn (hK269_ _ _ ?_)
       refine C_ret (X_thenR (X_blkR (X_thenR (X_thenR (X_blkR (X_thenR ?_))))))
       refine R_any (v := (vT #[(Value.map none), (Value.iface 186 (vQ b11_)), (Value.iface 133 (Value.string (ByteArray.mk #[101, 116, 99, 100, 115, 101, 114, 118, 101, 114, 58, 32, 100, 117, 112, 108, 105, 99, 97, 116, 101, 32, 107, 101, 121, 32, 103, 105, 118, 101, 110, 32, 105, 110, 32, 116, 120, 110, 32, 114, 101, 113, 117, 101, 115, 116])))])) (run_results3 rfl rfl rfl rfl) ?_
       have H270_ := Holds.pkF H264_ [0] 6
       exact ⟨_, _, rfl, (.inr ⟨b11_, rfl, rfl, (bad_hit hy205_ f208_hk (by rw [← hIWL.isect (delsK_prp hPp) (k := kS y204_) (by rw [kS_eq]; exact q206_p.1 f208_hk)]; exact c268_t))⟩), S267_, H270_⟩
      ·skip
       refine C_skip (X_then (hK239_ _ _ ?_))
       refine C_reg ?_
       refine sm (Value.map (some b161_)) ?_
       refine sm (Value.string (strN (ints y204_.q.key))) ?_
       refine sv (v := (vA #[])) (by kernel_rfl) ?_
       refine S_list0 (T_mapUpdate (K := Value.string) (a := strN (ints y204_.q.key)) rfl rfl rfl (KeyKind.string underlying9) underlying99 H264_ 6 rfl (by rw [hm, pmp_keys]; exact hPG.nd) ?_)
       intro w271_ S273_ H272_
       have S274_ := Same.trans S267_ S273_
       refine wpList_nil (X_blkN (X_then (hK199_ _ _ ?_)))
       refine C_reg ?_
       refine sv (v := (vI .i64 ((k5 : Int) + 1))) (x_bin rfl rfl (ib_add (IntWalk.i64_in _ (by omega)))) ?_
       refine sm (vI .i64 ((k5 : Int) + 1)) ?_
       refine wpList_nil (X_then ?_)
       have eH275_ : mp Value.string b161_ (mset m (strN (ints y204_.q.key)) (vA #[])) = mp Value.string b161_ (mset m (kS y204_) (.agg #[])) := by first | rfl | (congr 1 <;> first | rfl | omega | (simp; done) | (simp; omega))
       have H275_ : Holds w271_ (ro R :: cl b11_ 188 [(vQ (rt b5_ W)), (vI .i64 cnt), (vQ b5_)] :: tr b5_ b5_ W :: clf b5_ 185 [(Value.nilIface), (Value.nilIface), (Value.nilIface), (Value.nilIface), (vP none), (vP none), (vP none), (vI .i64 0)] :: cl b244_ 111 [(Value.iface 166 (Value.string (strN (ints y204_.q.key)))), (Value.iface 166 (Value.string ((strN (ints y204_.q.key)) ++ (ByteArray.mk #[0]))))] :: cl b229_ 205 [] :: mp Value.string b161_ (mset m (kS y204_) (.agg #[])) :: F) := cast1 (P := fun c__ => Holds w271_ (ro R :: cl b11_ 188 [(vQ (rt b5_ W)), (vI .i64 cnt), (vQ b5_)] :: tr b5_ b5_ W :: clf b5_ 185 [(Value.nilIface), (Value.nilIface), (Value.nilIface), (Value.nilIface), (vP none), (vP none), (vP none), (vI .i64 0)] :: cl b244_ 111 [(Value.iface 166 (Value.string (strN (ints y204_.q.key)))), (Value.iface 166 (Value.string ((strN (ints y204_.q.key)) ++ (ByteArray.mk #[0]))))] :: cl b229_ 205 [] :: c__ :: F)) eH275_ H272_
       have H276_ := Holds.pkF H275_ [6, 2, 1, 1, 0] 2
       exact ⟨⟨k5 + 1, (mset m (kS y204_) (.agg #[])), s2_v, t3_v, t4_v⟩, ⟨_, congrArg (fun e => mkA 270 e []) (ch (ch (ch (ch (ch (ch (ch (ch rfl rfl) rfl) rfl) rfl) rfl) rfl) rfl) (congrArg (vI .i64) ((by first | rfl | omega | (simp; done) | (simp; omega)) : (k5 : Int) + 1 = ((k5 + 1 : Nat) : Int)))), H276_, S274_, (by first | assumption | omega | exact rfl), (by rw [putsK_snoc hy205_ f208_hk, hm]; exact pm_set hin216_), (by rw [putsK_snoc hy205_ f208_hk]; exact hPG.snoc hin216_ (by rw [← hIWL.isect (delsK_prp hPp) (k := kS y204_) (by rw [kS_eq]; exact q206_p.1 f208_hk)]; exact c268_f))⟩, by first | omega | (dsimp only; omega) | (simp; omega)⟩
    ·skip
     refine sv (v := (Value.iface 158 (vQ f208_b1))) (x_load1 rfl underlying20 rfl (RC.cell f208_hc (Holds.ro_at H194_ 4 rfl) (j := 0) (u := (Value.iface 158 (vQ f208_b1))) (rfl))) ?_
     refine sv (v := (vT #[(vP none), (vB false)])) (by kernel_rfl) ?_
     refine sm (vT #[(vP none), (vB false)]) ?_
     refine sv (v := (vP none)) (by kernel_rfl) ?_
     refine sv (v := (vB false)) (by kernel_rfl) ?_
     refine sv (v := (vP none)) (x_assign rfl) ?_
     refine sv (v := (vB false)) (x_assign rfl) ?_
     refine wn (hK207_ _ _ ?_)
     refine C_seq (fun _ hK277_ => ?_)
     refine cr fun _ hK278_ => ?_
     refine sm (vB false) ?_
     refine sv (v := (vB true)) (x_cast (x_not (b := false) rfl) rfl) ?_
     refine sm (vB true) ?_
     refine S_no (j := 2) (dj := 231) (b := true) rfl rfl rfl (by decide) ?_
     refine S_no (j := 2) (dj := 231) (b := true) rfl rfl rfl (by decide) ?_
     refine S_no (j := 2) (dj := 231) (b := true) rfl rfl rfl (by decide) ?_
     refine S_no (j := 2) (dj := 231) (b := true) rfl rfl rfl (by decide) ?_
     refine S_no (j := 2) (dj := 231) (b := true) rfl rfl rfl (by decide) ?_
     refine S_list (T_pickT (v := (vB true)) rfl rfl ?_)
     refine wn (hK278_ _ _ ?_)
     refine C_condT rfl ?_
     refine C_exit (X_thenX (X_blkHit ?_))
     refine (X_then (hK199_ _ _ ?_))
     refine C_reg ?_
     refine sv (v := (vI .i64 ((k5 : Int) + 1))) (x_bin rfl rfl (ib_add (IntWalk.i64_in _ (by omega)))) ?_
     refine sm (vI .i64 ((k5 : Int) + 1)) ?_
     refine wpList_nil (X_then ?_)
     exact ⟨⟨k5 + 1, m, s2_v, t3_v, t4_v⟩, ⟨_, congrArg (fun e => mkA 270 e []) (ch (ch (ch (ch (ch (ch (ch (ch rfl rfl) rfl) rfl) rfl) rfl) rfl) rfl) (congrArg (vI .i64) ((by first | rfl | omega | (simp; done) | (simp; omega)) : (k5 : Int) + 1 = ((k5 + 1 : Nat) : Int)))), H194_, S195_, (by first | assumption | omega | exact rfl), (by rw [putsK_skip hy205_ (by omega)]; exact hm), (by rw [putsK_skip hy205_ (by omega)]; exact hPG)⟩, by first | omega | (dsimp only; omega) | (simp; omega)⟩
   ·have c198_fp : ¬ ((k5 : Int) < ((List.length T) : Int)) := of_decide_eq_false c198_f
    refine C_exit (X_thenX (X_thenX (X_blkHit ?_)))
    refine (X_then (hK190_ _ _ ?_))
    refine cr fun _ hK279_ => ?_
    refine sm (Value.map (some b161_)) ?_
    refine sm (Value.iface 186 (vQ b11_)) ?_
    refine sv (v := (Value.map (some b161_))) (x_assign rfl) ?_
    refine sv (v := (Value.iface 186 (vQ b11_))) (x_assign rfl) ?_
    refine sv (v := (Value.nilIface)) (x_assign rfl) ?_
    refine wn (hK279_ _ _ ?_)
    refine C_ret ?_
    refine R_any (v := (vT #[(Value.map (some b161_)), (Value.iface 186 (vQ b11_)), (Value.nilIface)])) (run_results3 rfl rfl rfl rfl) ?_
    have hPL_ : putsK (List.take k5 L) = putsK L := by rw [List.take_of_length_le (by omega)]
    have H280_ := H194_; rw [hm, hPL_] at H280_
    have H281_ := H280_
    have H282_ := Holds.pkF H281_ [4, 0, 1, 0, 0] 0
    exact ⟨_, _, rfl, (.inl ⟨b161_, b11_, b5_, W, cnt, rfl, rfl, (hIWL), ((by rw [hPL_] at hPG; exact hPG.ok))⟩), S195_, H282_⟩
end Go.Proofs.Ytlnihndjepjagaa
namespace Go.Proofs
open Go.Shelf
def Try.lays190_ren : Go.Shelf.Ren := ⟨fun | 190 => 51 | 125 => 75 | 258 => 74 | 128 => 99 | 129 => 100 | 302 => 90 | 303 => 91 | 304 => 92 | 305 => 93 | 306 => 94 | 307 => 95 | 308 => 96 | 309 => 97 | 310 => 98 | 333 => 109 | 329 => 110 | 330 => 111 | 334 => 112 | 335 => 113 | 336 => 114 | 344 => 115 | n => n, fun | 31 => 28 | 9 => 9 | 3 => 3 | 46 => 36 | 0 => 0 | 51 => 233 | 53 => 235 | 4 => 4 | 183 => 226 | 182 => 225 | 131 => 230 | 5 => 5 | 218 => 256 | 222 => 260 | 228 => 262 | 229 => 263 | n => n, fun | n => n⟩
theorem Try.lays190 : Go.Proofs.Lays.n190 Try.prog Try.lays190_ren := {
  mixed := by kernel_rfl
  f125 := Try.func75.trans (congrArg some (by kernel_rfl))
  f128 := Try.func99.trans (congrArg some (by kernel_rfl))
  f129 := Try.func100.trans (congrArg some (by kernel_rfl))
  f190 := Try.func51.trans (congrArg some (by kernel_rfl))
  f258 := Try.func74.trans (congrArg some (by kernel_rfl))
  f302 := Try.func90.trans (congrArg some (by kernel_rfl))
  f303 := Try.func91.trans (congrArg some (by kernel_rfl))
  f304 := Try.func92.trans (congrArg some (by kernel_rfl))
  f305 := Try.func93.trans (congrArg some (by kernel_rfl))
  f306 := Try.func94.trans (congrArg some (by kernel_rfl))
  f307 := Try.func95.trans (congrArg some (by kernel_rfl))
  f308 := Try.func96.trans (congrArg some (by kernel_rfl))
  f309 := Try.func97.trans (congrArg some (by kernel_rfl))
  f310 := Try.func98.trans (congrArg some (by kernel_rfl))
  f329 := Try.func110.trans (congrArg some (by kernel_rfl))
  f330 := Try.func111.trans (congrArg some (by kernel_rfl))
  f333 := Try.func109.trans (congrArg some (by kernel_rfl))
  f334 := Try.func112.trans (congrArg some (by kernel_rfl))
  f335 := Try.func113.trans (congrArg some (by kernel_rfl))
  f336 := Try.func114.trans (congrArg some (by kernel_rfl))
  f344 := Try.func115.trans (congrArg some (by kernel_rfl))
  t0 := Try.underlying0
  a0 := Try.isAgg0
  z0 := Try.sizeOf0
  v0 := Try.zeroValue0
  t3 := Try.underlying3
  a3 := Try.isAgg3
  z3 := Try.sizeOf3
  v3 := Try.zeroValue3
  t4 := Try.underlying4
  a4 := Try.isAgg4
  z4 := Try.sizeOf4
  v4 := Try.zeroValue4
  t5 := Try.underlying5
  a5 := Try.isAgg5
  z5 := Try.sizeOf5
  v5 := Try.zeroValue5
  t9 := Try.underlying9
  a9 := Try.isAgg9
  z9 := Try.sizeOf9
  v9 := Try.zeroValue9
  t31 := Try.underlying28
  a31 := Try.isAgg28
  z31 := Try.sizeOf28
  v31 := Try.zeroValue28
  t46 := Try.underlying36
  a46 := Try.isAgg36
  z46 := Try.sizeOf36
  v46 := Try.zeroValue36
  t51 := Try.underlying233
  a51 := Try.isAgg233
  z51 := Try.sizeOf233
  v51 := Try.zeroValue233
  t53 := Try.underlying235
  a53 := Try.isAgg235
  z53 := Try.sizeOf235
  v53 := Try.zeroValue235
  t131 := Try.underlying230
  a131 := Try.isAgg230
  z131 := Try.sizeOf230
  v131 := Try.zeroValue230
  t182 := Try.underlying225
  a182 := Try.isAgg225
  z182 := Try.sizeOf225
  v182 := Try.zeroValue225
  t183 := Try.underlying226
  a183 := Try.isAgg226
  z183 := Try.sizeOf226
  v183 := Try.zeroValue226
  t218 := Try.underlying256
  a218 := Try.isAgg256
  z218 := Try.sizeOf256
  v218 := Try.zeroValue256
  t222 := Try.underlying260
  a222 := Try.isAgg260
  z222 := Try.sizeOf260
  v222 := Try.zeroValue260
  t228 := Try.underlying262
  a228 := Try.isAgg262
  z228 := Try.sizeOf262
  v228 := Try.zeroValue262
  t229 := Try.underlying263
  a229 := Try.isAgg263
  z229 := Try.sizeOf263
  v229 := Try.zeroValue263 }
open Go.Sort Go.RowKit in
theorem Try.slices_Sort_string (blk off cap : Nat) (ss : List (List UInt8)) (w : World) (hH : Holds encStr w blk off ss.toArray) (hblk : blk < w.heap.size) (hsz : ss.length < 4611686018427387904) :
    Calls Try.prog 51 #[.slice (some ⟨blk, off, none⟩) ss.length cap] w fun e w' =>
      e = .returned (.tuple #[]) ∧ ∃ n os, w' = grow (putRow encStr (Sort.ahead w n) blk off (ss.mergeSort fun x y => decide (x ≤ y)).toArray) os := Any.slices_Sort_string Try.lays190 blk off cap ss w hH hblk hsz
open Go.RowKit Go.Sort in
theorem Try.slices_Sort_string_none (p : Option Addr) (cap : Nat) (w : World) :
    Calls Try.prog 51 #[.slice p 0 cap] w fun e w' => e = .returned (.tuple #[]) ∧ w' = w := Any.slices_Sort_string_none Try.lays190 p cap w
end Go.Proofs
set_option linter.unusedVariables false
set_option linter.unusedSimpArgs false
namespace Go.Proofs.Ytlnihndjepjagaa
open Go Go.RowKit Gw Try
open Go.Value renaming int → vI, bool → vB, slice → vS, pointer → vP, agg → vA, tuple → vT

/-! ### slices.Sort of texts: a slice of ours -/
abbrev eS8 : List UInt8 → Value := encStr
theorem cl_sortH {w : World} {l : List SP} {b T : Nat} {pr sp : List Value} {ss : List (List UInt8)} (h : Holds w (cl b T (pr ++ ss.map eS8 ++ sp) :: l)) : Go.Sort.Holds eS8 w b pr.length ss.toArray ∧ b < w.heap.size := by
  refine ⟨fun j hj => ?_, ?_⟩
  · have hj' : j < ss.length := by simpa using hj
    have hk : (pr ++ ss.map eS8 ++ sp)[pr.length + j]? = some (eS8 (ss.toArray[j]!)) := by
      rw [List.append_assoc, List.getElem?_append_right (by omega), Nat.add_sub_cancel_left, List.getElem?_append_left (by simpa using hj'), List.getElem?_map]
      simp [hj']
    exact ⟨Holds.cl_cell h 0 rfl hk, Holds.cl_frozen h 0 rfl (List.getElem?_eq_some_iff.1 hk).1⟩
  · obtain ⟨fr, e, _⟩ := Holds.cl_block h 0 rfl
    rcases Nat.lt_or_ge b w.heap.size with x | x
    · exact x
    · rw [Array.getElem?_eq_none x] at e; cases e
theorem putCells_list (pr sp : List Value) (ss ss' : List (List UInt8)) (hl : ss'.length = ss.length) : Go.Sort.putCells eS8 pr.length ss'.toArray (pr ++ ss.map eS8 ++ sp).toArray = (pr ++ ss'.map eS8 ++ sp).toArray := by
  apply Array.ext_getElem?
  intro k
  unfold Go.Sort.putCells
  rw [Array.getElem?_mapIdx]
  simp only [List.getElem?_toArray, List.size_toArray]
  by_cases h1 : k < pr.length
  · rw [List.append_assoc, List.append_assoc, List.getElem?_append_left h1, List.getElem?_append_left h1, List.getElem?_eq_getElem h1, Option.map_some, if_neg (by omega)]
  · by_cases h2 : k < pr.length + ss.length
    · have h3 : k - pr.length < ss'.length := by omega
      have h4 : k - pr.length < ss.length := by omega
      have e1 : (pr ++ (ss.map eS8 ++ sp))[k]? = some (eS8 ss[k - pr.length]) := by
        rw [List.getElem?_append_right (by omega), List.getElem?_append_left (by simpa using h4), List.getElem?_map, List.getElem?_eq_getElem h4]; rfl
      have e2 : (pr ++ (ss'.map eS8 ++ sp))[k]? = some (eS8 ss'[k - pr.length]) := by
        rw [List.getElem?_append_right (by omega), List.getElem?_append_left (by simpa using h3), List.getElem?_map, List.getElem?_eq_getElem h3]; rfl
      rw [List.append_assoc, List.append_assoc, e1, e2, Option.map_some, if_pos ⟨by omega, by omega⟩]
      simp [h3]
    · have e1 : (pr ++ List.map eS8 ss).length ≤ k := by simp; omega
      have e2 : (pr ++ List.map eS8 ss').length ≤ k := by simp; omega
      rw [List.getElem?_append_right e1, List.getElem?_append_right e2]
      have e3 : (pr ++ List.map eS8 ss).length = (pr ++ List.map eS8 ss').length := by simp [hl]
      rw [e3]
      cases sp[k - (pr ++ List.map eS8 ss').length]? with
      | none => rfl
      | some x => rw [Option.map_some, if_neg (by omega)]
theorem Holds.sorted {w : World} {l : List SP} {b T : Nat} {pr sp : List Value} {ss ss' : List (List UInt8)} (h : Holds w (cl b T (pr ++ ss.map eS8 ++ sp) :: l)) (hl : ss'.length = ss.length) (n : Nat) (os : Array Obj) :
    Holds (Go.Sort.grow (Go.Sort.putRow eS8 (Go.Sort.ahead w n) b pr.length ss'.toArray) os) (cl b T (pr ++ ss'.map eS8 ++ sp) :: l) := by
  obtain ⟨fr, e, hf⟩ := Holds.cl_block h 0 rfl
  have hb := (cl_sortH h).2
  have hlen : (pr ++ ss'.map eS8 ++ sp).length = (pr ++ ss.map eS8 ++ sp).length := by simp [hl]
  have hw : hp (Go.Sort.putRow eS8 (Go.Sort.ahead w n) b pr.length ss'.toArray) = upb (hp w) b (.cells (pr ++ ss'.map eS8 ++ sp).toArray T fr) := by
    refine hp_setBlock _ _ _ _ ?_ fun c hc => ?_
    · show (w.heap.modify b _)[b]? = _
      rw [Array.getElem?_modify, if_pos rfl, e]
      simp only [Option.map_some, Go.Sort.onCells, putCells_list pr sp ss ss' hl]
    · show (w.heap.modify b _)[c]? = _
      rw [Array.getElem?_modify, if_neg (Ne.symm hc)]
  have h1 : Sat (cl b T (pr ++ ss'.map eS8 ++ sp) :: l) (upb (hp w) b (.cells (pr ++ ss'.map eS8 ++ sp).toArray T fr)) := by
    refine Sat.upb_at (l := cl b T (pr ++ ss.map eS8 ++ sp) :: l) 0 rfl h (fun h ⟨f, hx, _⟩ => ⟨_, hx⟩) fun h _ => ⟨fr, by simp [upb], fun i hi => hf i (by rw [← hlen]; exact hi)⟩
  rw [← hw] at h1
  refine Sat.mono ?_ h1
  intro c o ho
  show ((Go.Sort.putRow eS8 (Go.Sort.ahead w n) b pr.length ss'.toArray).heap ++ os)[c]? = some o
  have ho' : (Go.Sort.putRow eS8 (Go.Sort.ahead w n) b pr.length ss'.toArray).heap[c]? = some o := ho
  rw [Array.getElem?_append_left (by
    rcases Nat.lt_or_ge c (Go.Sort.putRow eS8 (Go.Sort.ahead w n) b pr.length ss'.toArray).heap.size with x | x
    · exact x
    · rw [Array.getElem?_eq_none x] at ho'; cases ho')]
  exact ho'
def lsK (K : List ByteArray) : List (List UInt8) := K.map fun s => s.data.toList
def unK (l : List (List UInt8)) : List ByteArray := l.map fun x => ⟨x.toArray⟩
theorem lsK_enc (K : List ByteArray) : (lsK K).map eS8 = K.map Value.string := by
  unfold lsK; rw [List.map_map]; rfl
theorem unK_enc (l : List (List UInt8)) : (unK l).map Value.string = l.map eS8 := by
  unfold unK; rw [List.map_map]; rfl
theorem unK_lsK (K : List ByteArray) : unK (lsK K) = K := by
  unfold unK lsK; rw [List.map_map]; exact List.map_id' K
def srtK (K : List ByteArray) : List ByteArray := unK ((lsK K).mergeSort fun x y => decide (x ≤ y))
def SrtK (K : List ByteArray) : Prop := K.Pairwise fun a b => a.data.toList ≤ b.data.toList
theorem srtK_perm (K : List ByteArray) : (srtK K).Perm K := by
  have := (List.mergeSort_perm (lsK K) fun x y => decide (x ≤ y)).map (fun x : List UInt8 => (⟨x.toArray⟩ : ByteArray))
  refine List.Perm.trans this ?_
  show (unK (lsK K)).Perm K
  rw [unK_lsK]
theorem srtK_srt (K : List ByteArray) : SrtK (srtK K) := by
  have h := List.pairwise_mergeSort (le := fun x y : List UInt8 => decide (x ≤ y)) (by intro a b c; simp only [decide_eq_true_eq]; exact List.le_trans) (by intro a b; simp only [Bool.or_eq_true, decide_eq_true_eq]; exact List.le_total a b) (lsK K)
  unfold SrtK srtK unK
  rw [List.pairwise_map]
  exact h.imp fun h => of_decide_eq_true h
theorem srtK_eq {A B : List ByteArray} (hA : SrtK A) (hB : SrtK B) (h : A.Perm B) : A = B :=
  List.Perm.eq_of_pairwise (fun a b _ _ h1 h2 => by
    have := List.le_antisymm h1 h2
    cases a; cases b; simp at this; rw [this]) hA hB h
theorem sortTri (R : HP) (v : Value) (K : List ByteArray) (hK : K.length ≤ 1000000) :
    Tri Try.prog 51 #[v] R [sl 9 1 v K.length (K.map Value.string)] fun r post => r = .tuple #[] ∧ post = [sl 9 1 v (srtK K).length ((srtK K).map Value.string)] := by
  intro w F hh
  have hlen : (srtK K).length = K.length := (srtK_perm K).length_eq
  have h1 : Holds w (sl 9 1 v K.length (K.map Value.string) :: (ro R :: F)) := Sat.swap hh
  obtain ⟨g1, k, s, t, dd, a, r⟩ := h1
  rcases a with ⟨rfl, hm, hx⟩ | ⟨b, pr, sp, cap, rfl, hx, hsp, hc, a⟩
  · have hK0 : K = [] := List.eq_nil_of_length_eq_zero hm
    subst hK0
    have e0 : srtK [] = [] := (srtK_perm []).eq_nil
    refine (Try.slices_Sort_string_none none 0 w).mono fun e w' ⟨he, hw⟩ => ⟨.tuple #[], _, he, ⟨rfl, rfl⟩, by rw [hw]; exact Same.refl w, ?_⟩
    rw [hw, e0]
    exact hh
  · have h2 : Holds w (cl b 9 (pr ++ (lsK K).map eS8 ++ sp) :: (ro R :: F)) := ⟨g1, k, s, t, dd, by rw [lsK_enc]; exact a, r⟩
    have h3 := cl_sortH h2
    have hl2 : (lsK K).length = K.length := by simp [lsK]
    have hc2 := Try.slices_Sort_string b pr.length cap (lsK K) w h3.1 h3.2 (by omega)
    rw [hl2] at hc2
    refine hc2.mono fun e w' ⟨he, n, os, hw⟩ => ?_
    refine ⟨.tuple #[], _, he, ⟨rfl, rfl⟩, ?_, ?_⟩
    · rw [hw]; exact ⟨rfl, rfl, rfl⟩
    · have h4 := Holds.sorted h2 (ss' := (lsK K).mergeSort fun x y => decide (x ≤ y)) (by rw [List.length_mergeSort]) n os
      rw [← hw, ← unK_enc] at h4
      obtain ⟨g2, k2, s2, t2, d2, a2, r2⟩ := h4
      refine Sat.swap ⟨g2, k2, s2, t2, d2, .inr ⟨b, pr, sp, cap, by rw [hlen], ?_, by rw [hlen]; exact hsp, by rw [hlen]; exact hc, a2⟩, r2⟩
      rw [List.length_map, Nat.mul_one]


theorem ovSort (R : HP) (v : Value) (K : List ByteArray) (hK : K.length ≤ 1000000) :
    Tri Try.prog 51 #[v] R [sl 9 1 v (List.length K) (K.map Value.string)] (fun v__ post__ => v__ = (vT #[]) ∧ post__ = [sl 9 1 v (List.length (srtK K)) ((srtK K).map Value.string)]) := sortTri R v K hK
end Go.Proofs.Ytlnihndjepjagaa
set_option linter.unusedVariables false
set_option linter.unusedSimpArgs false
namespace Go.Proofs.Ytlnihndjepjagaa
open Go Go.RowKit Gw Try
open Go.Value renaming int → vI, bool → vB, slice → vS, pointer → vP, agg → vA, tuple → vT

section
variable {K : Type} {O : KO K}
end

end Go.Proofs.Ytlnihndjepjagaa
set_option linter.unusedVariables false
set_option linter.unusedSimpArgs false
namespace Go.Proofs.Ytlnihndjepjagaa
open Go Go.RowKit Gw Try
open Go.Value renaming int → vI, bool → vB, slice → vS, pointer → vP, agg → vA, tuple → vT

/-! ### A tree of intervals of an order, as a list -/
structure IE where
  lo : EK
  hi : EK
  val : Int
def ahK (ord : Int) (z x : IE) : Bool := decide (ecm ord z.lo x.lo < 0) || (decide (ecm ord z.lo x.lo = 0) && decide (ecm ord z.hi x.hi < 0))
def insK (ord : Int) (z : IE) : List IE → List IE
  | [] => [z]
  | x :: M => if ahK ord z x = true then z :: x :: M else x :: insK ord z M
theorem insK_split {ord : Int} {z : IE} : ∀ {M1 M2 : List IE}, (∀ x ∈ M1, ahK ord z x = false) → (∀ y ∈ M2, ahK ord z y = true) → insK ord z (M1 ++ M2) = M1 ++ z :: M2
  | [], [], _, _ => rfl
  | [], y :: M2, _, h => by
    rw [List.nil_append, insK, if_pos (h y (by simp))]; rfl
  | x :: M1, M2, h1, h2 => by
    rw [List.cons_append, insK, if_neg (by rw [h1 x (by simp)]; decide), insK_split (fun y hy => h1 y (by simp [hy])) h2]; rfl
def nk3 (n : ND EK) : EK × EK × Value := (n.kb, n.ke, n.v)
def iek (e : IE) : EK × EK × Value := (e.lo, e.hi, .iface 3 (.int .i64 e.val))
structure TS (ord : Int) (R : HP) (W : Tr EK) (M : List IE) : Prop where
  ok : TOk (EO ord) R W ∧ LocT (EO ord) W ∧ blackT W
  s : srt (EO ord) (ino W)
  m : (ino W).map nk3 = M.map iek
theorem TS.mono {ord : Int} {R R' : HP} (s : Sub R R') {W : Tr EK} {M : List IE} (h : TS ord R W M) : TS ord R' W M := ⟨⟨h.ok.1.mono s, h.ok.2⟩, h.s, h.m⟩
theorem TS.nil {ord : Int} {R : HP} : TS ord R (Tr.lf : Tr EK) [] := ⟨⟨trivial, trivial, trivial⟩, List.Pairwise.nil, rfl⟩
theorem bef_ahK {ord : Int} {kb ke : EK} {v : Int} {x : ND EK} {e : IE} (h : nk3 x = iek e) : bef (EO ord) kb ke x ↔ ahK ord ⟨kb, ke, v⟩ e = true := by
  have h1 : x.kb = e.lo := congrArg Prod.fst h
  have h2 : x.ke = e.hi := congrArg (fun p => p.2.1) h
  unfold bef ahK
  rw [h1, h2, Bool.or_eq_true, Bool.and_eq_true, decide_eq_true_eq, decide_eq_true_eq, decide_eq_true_eq]
  exact Iff.rfl
theorem map_mem {α β γ : Type} {f : α → γ} {g : β → γ} : ∀ {L : List α} {M : List β}, L.map f = M.map g → ∀ y ∈ M, ∃ x ∈ L, f x = g y
  | L, M, h, y, hy => by
    have : g y ∈ L.map f := by rw [h]; exact List.mem_map.2 ⟨y, hy, rfl⟩
    obtain ⟨x, hx, e⟩ := List.mem_map.1 this
    exact ⟨x, hx, e⟩
theorem TS.ins {ord : Int} {R : HP} {W W' : Tr EK} {M : List IE} {L1 L2 : List (ND EK)} {z : ND EK} {b e : Value} {kb ke : EK} {v : Int} (h : TS ord R W M) (h1 : TOk (EO ord) R W' ∧ LocT (EO ord) W' ∧ blackT W') (h2 : ino W' = L1 ++ z.er :: L2) (h3 : ino W = L1 ++ L2)
    (h4 : z.b = b ∧ z.e = e ∧ z.v = .iface 3 (.int .i64 v) ∧ z.kb = kb ∧ z.ke = ke) (h5 : srt (EO ord) (ino W')) (h6 : ∀ x ∈ L1, ¬ bef (EO ord) kb ke x) (h7 : ∀ y ∈ L2, bef (EO ord) kb ke y) : TS ord R W' (insK ord ⟨kb, ke, v⟩ M) := by
  refine ⟨h1, h5, ?_⟩
  have hm := h.m
  rw [h3, List.map_append] at hm
  obtain ⟨M1, M2, rfl, e1, e2⟩ := List.map_eq_append_iff.1 hm.symm
  rw [insK_split (z := ⟨kb, ke, v⟩) (fun x hx => ?_) (fun y hy => ?_), h2, List.map_append, List.map_cons, List.map_append, List.map_cons, e1, e2]
  · obtain ⟨-, -, h4, rfl, rfl⟩ := h4
    have : nk3 z.er = iek ⟨z.kb, z.ke, v⟩ := by
      show (z.kb, z.ke, z.v) = _
      rw [h4]; rfl
    rw [this]
  · obtain ⟨n, hn, he⟩ := map_mem e1.symm x hx
    have := h6 n hn
    rw [bef_ahK (v := v) he] at this
    simpa using this
  · obtain ⟨n, hn, he⟩ := map_mem e2.symm y hy
    exact (bef_ahK he).1 (h7 n hn)
theorem TS.len {ord : Int} {R : HP} {W : Tr EK} {M : List IE} (h : TS ord R W M) : (ino W).length = M.length := by
  have := congrArg List.length h.m
  simpa using this
def PrpK (ord : Int) (M : List IE) : Prop := ∀ e ∈ M, ecm ord e.lo e.hi < 0
theorem TS.prp {ord : Int} {R : HP} {W : Tr EK} {M : List IE} (h : TS ord R W M) (hp : PrpK ord M) : Prp (EO ord) (ino W) := fun n hn => by
  have : nk3 n ∈ M.map iek := by rw [← h.m]; exact List.mem_map.2 ⟨_, hn, rfl⟩
  obtain ⟨e, he, h1⟩ := List.mem_map.1 this
  have k1 : e.lo = n.kb := congrArg Prod.fst h1
  have k2 : e.hi = n.ke := congrArg (fun p => p.2.1) h1
  have := hp e he
  rw [k1, k2] at this
  exact this
/-! ### States that are told up to something -/
def exG {α : Type} (Q : α → List SP) : SP := fun h => ∃ a, Sat (Q a) h
theorem Tri.exG {P : Program} {f : FuncId} {args : Array Value} {R : HP} {α : Type} {A : SP} {Q : α → List SP} {Qc Qc' : Value → List SP → Prop} (h : ∀ a, Tri P f args R (A :: Q a) Qc)
    (hq : ∀ v q, Qc v q → ∃ A' L' X, q = A' :: L' ∧ (∀ g, Sat L' g → X g) ∧ Qc' v [A', X]) : Tri P f args R [A, Go.Proofs.Ytlnihndjepjagaa.exG Q] Qc' := fun w F hh => by
  obtain ⟨h1, k1, s1, t1, d1, a1, h2, k2, s2, t2, d2, a2, h3, k3, s3, t3, d3, ⟨x, a3⟩, r⟩ := hh
  have h0 : Holds w (ro R :: ((A :: Q x) ++ F)) := ⟨h1, k1, s1, t1, d1, a1, h2, k2, s2, t2, d2, a2, Sat.append.2 ⟨h3, k3, s3, t3, d3, a3, r⟩⟩
  refine (h x w F h0).mono fun e w' ⟨v, post, he, hv, s, k⟩ => ?_
  obtain ⟨A', L', X, rfl, hX, hq'⟩ := hq v post hv
  refine ⟨v, _, he, hq', s, ?_⟩
  refine Sat.cons_map (fun _ y => Sat.cons_map (fun g z => ?_) y) k
  obtain ⟨h4, k4, s4, t4, d4, a4, r4⟩ := Sat.append.1 z
  exact ⟨h4, k4, s4, t4, d4, hX _ a4, r4⟩
theorem Holds.exG_in {w : World} {α : Type} {Q : α → List SP} {l : List SP} (a : α) (h : Holds w (Q a ++ l)) : Holds w (Go.Proofs.Ytlnihndjepjagaa.exG Q :: l) := by
  obtain ⟨h1, k, s, t, d, a1, r⟩ := Sat.append.1 h
  exact ⟨h1, k, s, t, d, ⟨a, a1⟩, r⟩
theorem Holds.exG_out {w : World} {α : Type} {Q : α → List SP} {l : List SP} (h : Holds w (Go.Proofs.Ytlnihndjepjagaa.exG Q :: l)) : ∃ a, Holds w (Q a ++ l) := by
  obtain ⟨h1, k, s, t, d, ⟨a, a1⟩, r⟩ := h
  exact ⟨a, Sat.append.2 ⟨h1, k, s, t, d, a1, r⟩⟩

end Go.Proofs.Ytlnihndjepjagaa
set_option linter.unusedVariables false
set_option linter.unusedSimpArgs false
namespace Go.Proofs.Ytlnihndjepjagaa
open Go Go.RowKit Gw Try
open Go.Value renaming int → vI, bool → vB, slice → vS, pointer → vP, agg → vA, tuple → vT

set_option maxHeartbeats 8000000 in
theorem ovNote (R : HP) (t10 : Nat) (n : ND EK) (l r p : Nat) (su : Value) (S : List SN) (hn : NOk (EO 1) R n) (hll : S.length ≤ 100000000000) :
    Tri Try.prog 53 #[(vQ n.a), (vQ t10)] R [clf n.a 185 [n.b, n.e, n.v, n.mx, (vQ l), (vQ r), (vQ p), (vI .i64 n.c)], cl t10 30 [su], sl 44 5 su (List.length S) (S.flatMap SN.cells)] (fun v__ post__ => ∃ (sv2 : Value), v__ = (vB true) ∧ post__ = [clf n.a 185 [n.b, n.e, n.v, n.mx, (vQ l), (vQ r), (vQ p), (vI .i64 n.c)], cl t10 30 [sv2], sl 44 5 sv2 (List.length (S ++ [ekSpan n.kb n.ke])) ((S ++ [ekSpan n.kb n.ke]).flatMap SN.cells)]) := by
 refine Tri.into (n := 12) (al := [(vQ n.a), (vQ t10)]) func53 rfl ntmps53 rfl rfl fun w F H => ?_
 refine cr fun _ hK1_ => ?_
 refine sv (v := (vB false)) (x_assign rfl) ?_
 refine wn (hK1_ _ _ ?_)
 refine C_seq (fun _ hK2_ => ?_)
 refine A_start (S := fun w => (Rd n.a [n.b, n.e, n.v, n.mx, (vQ l), (vQ r), (vQ p), (vI .i64 n.c)] w ∧ Blk w n.a) ∧ Sub R (hp w)) (N := 9) foll rfl rfl ?_
 have H3_ := Holds.drew_ H
 have hq4_ := And.intro ((And.intro (Holds.rdf H3_ 1 rfl) (Holds.blk H3_ 1 rfl))) ((Holds.ro_at H3_ 0 rfl))
 refine A_tk 1 (v := (vQ n.a)) rfl (by kernel_rfl) (fun w hS => x_move rfl) hq4_ ?_
 refine A_tk 2 (v := (vQ n.a)) rfl (by kernel_rfl) (fun w hS => by kernel_rfl) hq4_ ?_
 refine A_tk 3 (v := (vQ n.a)) rfl (by kernel_rfl) (fun w hS => by kernel_rfl) hq4_ ?_
 refine A_tk 4 (v := (vA #[n.b, n.e])) rfl (by kernel_rfl) (fun w hS => x_loadN (vs := [n.b, n.e]) rfl underlying111 rfl z111 rfl (Rd.cells hS.1.1 0 rfl)) hq4_ ?_
 refine A_ready (i := 0) (rs := [5]) (by kernel_rfl) ?_
 refine AllR.cons ?_ ?_
 ·skip
  refine A_op (ls' := #[true, true, true, true, true, false, false, false, false]) rfl (by kernel_rfl) (T_val (v := su) (x_load1 rfl underlying30 rfl ((Holds.rd H3_ 2 rfl) 0 su rfl)) ?_)
  refine ⟨⟨(And.intro (Holds.rdf H3_ 1 rfl) (Holds.blk H3_ 1 rfl)), (Holds.ro_at H3_ 0 rfl)⟩, ?_⟩
  refine A_ready (i := 5) (rs := []) (by kernel_rfl) ?_
  refine AllR.cons ?_ AllR.nil
  refine A_op (ls' := #[true, true, true, true, true, true, false, false, false]) rfl (by kernel_rfl) (T_call (al := [(vA #[n.b, n.e])]) (pre := []) rfl rfl cb54 (spOut R 1 n.b n.e n.kb n.ke (hn.b) (hn.e)) H3_ ?_)
  rintro v5_ p9_ w6_ ⟨rfl, rfl⟩ S8_ H7_
  have S10_ := Same.trans (Same.trans (Same.refl w) (Same.drew _)) S8_
  refine ⟨⟨(And.intro (Holds.rdf H7_ 1 rfl) (Holds.blk H7_ 1 rfl)), (Holds.ro_at H7_ 0 rfl)⟩, ?_⟩
  refine A_ready (i := 6) (rs := []) (by kernel_rfl) ?_
  refine AllR.cons ?_ AllR.nil
  refine A_op (ls' := #[true, true, true, true, true, true, true, false, false]) rfl (by kernel_rfl) (T_new (obj := .cells #[(Value.string ((ekSpan n.kb n.ke).in__Begin)), (Value.string ((ekSpan n.kb n.ke).in__End)), (vB ((ekSpan n.kb n.ke).in__Point)), (vI .i64 ((ekSpan n.kb n.ke).from_)), (vI .i64 ((ekSpan n.kb n.ke).till))] 44) (f := fun b__ => .slice (some ⟨b__, 0, none⟩) 1 1) (A := fun b__ => cl b__ 44 [(Value.string ((ekSpan n.kb n.ke).in__Begin)), (Value.string ((ekSpan n.kb n.ke).in__End)), (vB ((ekSpan n.kb n.ke).in__Point)), (vI .i64 ((ekSpan n.kb n.ke).from_)), (vI .i64 ((ekSpan n.kb n.ke).till))]) (by kernel_rfl) (fun l h => h.alloc _ _) H7_ ?_)
  intro b11_ w12_ S14_ H13_
  have S15_ := Same.trans S10_ S14_
  refine ⟨⟨(And.intro (Holds.rdf H13_ 2 rfl) (Holds.blk H13_ 2 rfl)), (Holds.ro_at H13_ 1 rfl)⟩, ?_⟩
  refine A_ready (i := 7) (rs := []) (by kernel_rfl) ?_
  refine AllR.cons ?_ AllR.nil
  refine A_op (ls' := #[true, true, true, true, true, true, true, true, false]) rfl (by kernel_rfl) (T_append rfl rfl underlying30 z44 rfl (by decide) H13_ 4 rfl (Holds.cl_src H13_ 0 rfl underlying30 (by simp [Value.oneCell']) rfl) (by first | omega | (simp only [List.length_append, List.length_cons, List.length_nil]; omega)) ?_)
  intro v16_ w17_ S19_ H18_
  have S20_ := Same.trans S15_ S19_
  refine ⟨⟨(And.intro (Holds.rdf H18_ 2 rfl) (Holds.blk H18_ 2 rfl)), (Holds.ro_at H18_ 1 rfl)⟩, ?_⟩
  refine A_ready (i := 8) (rs := []) (by kernel_rfl) ?_
  refine AllR.cons ?_ AllR.nil
  refine A_op0 (ls' := #[true, true, true, true, true, true, true, true, true]) rfl (by kernel_rfl) (T_store1 (v := v16_) rfl rfl z30 (Holds.sl_one H18_ 4 rfl) H18_ 3 rfl (Nat.le_of_ble_eq_true (by rfl)) ?_)
  intro w21_ S23_ H22_
  have S24_ := Same.trans S20_ S23_
  refine ⟨⟨(And.intro (Holds.rdf H22_ 2 rfl) (Holds.blk H22_ 2 rfl)), (Holds.ro_at H22_ 1 rfl)⟩, ?_⟩
  refine A_done (by kernel_rfl) ?_
  refine (X_then (hK2_ _ _ ?_))
  refine cr fun _ hK25_ => ?_
  refine sv (v := (vB true)) (x_assign rfl) ?_
  refine wn (hK25_ _ _ ?_)
  refine C_ret ?_
  refine R_any (v := (vB true)) (run_results1 rfl rfl) ?_
  have H26_ := Holds.resl H22_ 4 rfl (by simp [SN.cells, List.flatMap_append] : (S.flatMap SN.cells) ++ [(Value.string ((ekSpan n.kb n.ke).in__Begin)), (Value.string ((ekSpan n.kb n.ke).in__End)), (vB ((ekSpan n.kb n.ke).in__Point)), (vI .i64 ((ekSpan n.kb n.ke).from_)), (vI .i64 ((ekSpan n.kb n.ke).till))] = (S ++ [ekSpan n.kb n.ke]).flatMap SN.cells) (by simp : (List.length S) + 1 = (List.length (S ++ [ekSpan n.kb n.ke])))
  have H27_ := Holds.pkF H26_ [1, 1, 1, 1] 1
  exact ⟨_, _, rfl, ⟨v16_, rfl, rfl⟩, S24_, H27_⟩
 refine AllR.cons ?_ AllR.nil
 refine A_op (ls' := #[false, true, true, true, true, true, false, false, false]) rfl (by kernel_rfl) (T_call (al := [(vA #[n.b, n.e])]) (pre := []) rfl rfl cb54 (spOut R 1 n.b n.e n.kb n.ke (hn.b) (hn.e)) H3_ ?_)
 rintro v28_ p32_ w29_ ⟨rfl, rfl⟩ S31_ H30_
 have S33_ := Same.trans (Same.trans (Same.refl w) (Same.drew _)) S31_
 refine ⟨⟨(And.intro (Holds.rdf H30_ 1 rfl) (Holds.blk H30_ 1 rfl)), (Holds.ro_at H30_ 0 rfl)⟩, ?_⟩
 refine A_ready (i := 0) (rs := [6]) (by kernel_rfl) ?_
 refine AllR.cons ?_ ?_
 ·skip
  refine A_op (ls' := #[true, true, true, true, true, true, false, false, false]) rfl (by kernel_rfl) (T_val (v := su) (x_load1 rfl underlying30 rfl ((Holds.rd H30_ 2 rfl) 0 su rfl)) ?_)
  refine ⟨⟨(And.intro (Holds.rdf H30_ 1 rfl) (Holds.blk H30_ 1 rfl)), (Holds.ro_at H30_ 0 rfl)⟩, ?_⟩
  refine A_ready (i := 6) (rs := []) (by kernel_rfl) ?_
  refine AllR.cons ?_ AllR.nil
  refine A_op (ls' := #[true, true, true, true, true, true, true, false, false]) rfl (by kernel_rfl) (T_new (obj := .cells #[(Value.string ((ekSpan n.kb n.ke).in__Begin)), (Value.string ((ekSpan n.kb n.ke).in__End)), (vB ((ekSpan n.kb n.ke).in__Point)), (vI .i64 ((ekSpan n.kb n.ke).from_)), (vI .i64 ((ekSpan n.kb n.ke).till))] 44) (f := fun b__ => .slice (some ⟨b__, 0, none⟩) 1 1) (A := fun b__ => cl b__ 44 [(Value.string ((ekSpan n.kb n.ke).in__Begin)), (Value.string ((ekSpan n.kb n.ke).in__End)), (vB ((ekSpan n.kb n.ke).in__Point)), (vI .i64 ((ekSpan n.kb n.ke).from_)), (vI .i64 ((ekSpan n.kb n.ke).till))]) (by kernel_rfl) (fun l h => h.alloc _ _) H30_ ?_)
  intro b34_ w35_ S37_ H36_
  have S38_ := Same.trans S33_ S37_
  refine ⟨⟨(And.intro (Holds.rdf H36_ 2 rfl) (Holds.blk H36_ 2 rfl)), (Holds.ro_at H36_ 1 rfl)⟩, ?_⟩
  refine A_ready (i := 7) (rs := []) (by kernel_rfl) ?_
  refine AllR.cons ?_ AllR.nil
  refine A_op (ls' := #[true, true, true, true, true, true, true, true, false]) rfl (by kernel_rfl) (T_append rfl rfl underlying30 z44 rfl (by decide) H36_ 4 rfl (Holds.cl_src H36_ 0 rfl underlying30 (by simp [Value.oneCell']) rfl) (by first | omega | (simp only [List.length_append, List.length_cons, List.length_nil]; omega)) ?_)
  intro v39_ w40_ S42_ H41_
  have S43_ := Same.trans S38_ S42_
  refine ⟨⟨(And.intro (Holds.rdf H41_ 2 rfl) (Holds.blk H41_ 2 rfl)), (Holds.ro_at H41_ 1 rfl)⟩, ?_⟩
  refine A_ready (i := 8) (rs := []) (by kernel_rfl) ?_
  refine AllR.cons ?_ AllR.nil
  refine A_op0 (ls' := #[true, true, true, true, true, true, true, true, true]) rfl (by kernel_rfl) (T_store1 (v := v39_) rfl rfl z30 (Holds.sl_one H41_ 4 rfl) H41_ 3 rfl (Nat.le_of_ble_eq_true (by rfl)) ?_)
  intro w44_ S46_ H45_
  have S47_ := Same.trans S43_ S46_
  refine ⟨⟨(And.intro (Holds.rdf H45_ 2 rfl) (Holds.blk H45_ 2 rfl)), (Holds.ro_at H45_ 1 rfl)⟩, ?_⟩
  refine A_done (by kernel_rfl) ?_
  refine (X_then (hK2_ _ _ ?_))
  refine cr fun _ hK48_ => ?_
  refine sv (v := (vB true)) (x_assign rfl) ?_
  refine wn (hK48_ _ _ ?_)
  refine C_ret ?_
  refine R_any (v := (vB true)) (run_results1 rfl rfl) ?_
  have H49_ := Holds.resl H45_ 4 rfl (by simp [SN.cells, List.flatMap_append] : (S.flatMap SN.cells) ++ [(Value.string ((ekSpan n.kb n.ke).in__Begin)), (Value.string ((ekSpan n.kb n.ke).in__End)), (vB ((ekSpan n.kb n.ke).in__Point)), (vI .i64 ((ekSpan n.kb n.ke).from_)), (vI .i64 ((ekSpan n.kb n.ke).till))] = (S ++ [ekSpan n.kb n.ke]).flatMap SN.cells) (by simp : (List.length S) + 1 = (List.length (S ++ [ekSpan n.kb n.ke])))
  have H50_ := Holds.pkF H49_ [1, 1, 1, 1] 1
  exact ⟨_, _, rfl, ⟨v39_, rfl, rfl⟩, S47_, H50_⟩
 refine AllR.cons ?_ AllR.nil
 refine A_op (ls' := #[false, true, true, true, true, true, true, false, false]) rfl (by kernel_rfl) (T_new (obj := .cells #[(Value.string ((ekSpan n.kb n.ke).in__Begin)), (Value.string ((ekSpan n.kb n.ke).in__End)), (vB ((ekSpan n.kb n.ke).in__Point)), (vI .i64 ((ekSpan n.kb n.ke).from_)), (vI .i64 ((ekSpan n.kb n.ke).till))] 44) (f := fun b__ => .slice (some ⟨b__, 0, none⟩) 1 1) (A := fun b__ => cl b__ 44 [(Value.string ((ekSpan n.kb n.ke).in__Begin)), (Value.string ((ekSpan n.kb n.ke).in__End)), (vB ((ekSpan n.kb n.ke).in__Point)), (vI .i64 ((ekSpan n.kb n.ke).from_)), (vI .i64 ((ekSpan n.kb n.ke).till))]) (by kernel_rfl) (fun l h => h.alloc _ _) H30_ ?_)
 intro b51_ w52_ S54_ H53_
 have S55_ := Same.trans S33_ S54_
 refine ⟨⟨(And.intro (Holds.rdf H53_ 2 rfl) (Holds.blk H53_ 2 rfl)), (Holds.ro_at H53_ 1 rfl)⟩, ?_⟩
 refine A_ready (i := 0) (rs := []) (by kernel_rfl) ?_
 refine AllR.cons ?_ AllR.nil
 refine A_op (ls' := #[true, true, true, true, true, true, true, false, false]) rfl (by kernel_rfl) (T_val (v := su) (x_load1 rfl underlying30 rfl ((Holds.rd H53_ 3 rfl) 0 su rfl)) ?_)
 refine ⟨⟨(And.intro (Holds.rdf H53_ 2 rfl) (Holds.blk H53_ 2 rfl)), (Holds.ro_at H53_ 1 rfl)⟩, ?_⟩
 refine A_ready (i := 7) (rs := []) (by kernel_rfl) ?_
 refine AllR.cons ?_ AllR.nil
 refine A_op (ls' := #[true, true, true, true, true, true, true, true, false]) rfl (by kernel_rfl) (T_append rfl rfl underlying30 z44 rfl (by decide) H53_ 4 rfl (Holds.cl_src H53_ 0 rfl underlying30 (by simp [Value.oneCell']) rfl) (by first | omega | (simp only [List.length_append, List.length_cons, List.length_nil]; omega)) ?_)
 intro v56_ w57_ S59_ H58_
 have S60_ := Same.trans S55_ S59_
 refine ⟨⟨(And.intro (Holds.rdf H58_ 2 rfl) (Holds.blk H58_ 2 rfl)), (Holds.ro_at H58_ 1 rfl)⟩, ?_⟩
 refine A_ready (i := 8) (rs := []) (by kernel_rfl) ?_
 refine AllR.cons ?_ AllR.nil
 refine A_op0 (ls' := #[true, true, true, true, true, true, true, true, true]) rfl (by kernel_rfl) (T_store1 (v := v56_) rfl rfl z30 (Holds.sl_one H58_ 4 rfl) H58_ 3 rfl (Nat.le_of_ble_eq_true (by rfl)) ?_)
 intro w61_ S63_ H62_
 have S64_ := Same.trans S60_ S63_
 refine ⟨⟨(And.intro (Holds.rdf H62_ 2 rfl) (Holds.blk H62_ 2 rfl)), (Holds.ro_at H62_ 1 rfl)⟩, ?_⟩
 refine A_done (by kernel_rfl) ?_
 refine (X_then (hK2_ _ _ ?_))
 refine cr fun _ hK65_ => ?_
 refine sv (v := (vB true)) (x_assign rfl) ?_
 refine wn (hK65_ _ _ ?_)
 refine C_ret ?_
 refine R_any (v := (vB true)) (run_results1 rfl rfl) ?_
 have H66_ := Holds.resl H62_ 4 rfl (by simp [SN.cells, List.flatMap_append] : (S.flatMap SN.cells) ++ [(Value.string ((ekSpan n.kb n.ke).in__Begin)), (Value.string ((ekSpan n.kb n.ke).in__End)), (vB ((ekSpan n.kb n.ke).in__Point)), (vI .i64 ((ekSpan n.kb n.ke).from_)), (vI .i64 ((ekSpan n.kb n.ke).till))] = (S ++ [ekSpan n.kb n.ke]).flatMap SN.cells) (by simp : (List.length S) + 1 = (List.length (S ++ [ekSpan n.kb n.ke])))
 have H67_ := Holds.pkF H66_ [1, 1, 1, 1] 1
 exact ⟨_, _, rfl, ⟨v56_, rfl, rfl⟩, S64_, H67_⟩

set_option maxHeartbeats 8000000 in
theorem ovVisV (R : HP) (cb t10 : Nat) (n : ND EK) (l r p : Nat) (su : Value) (S : List SN) (hn : NOk (EO 1) R n) (hll : S.length ≤ 100000000000) :
    Tri Try.prog 168 #[(vQ n.a), (vQ cb)] R [clf n.a 185 [n.b, n.e, n.v, n.mx, (vQ l), (vQ r), (vQ p), (vI .i64 n.c)], cl cb 279 [(Value.func (.func 53) #[] #[(vQ t10)])], cl t10 30 [su], sl 44 5 su (List.length S) (S.flatMap SN.cells)] (fun v__ post__ => ∃ (sv2 : Value), v__ = (vB true) ∧ post__ = [clf n.a 185 [n.b, n.e, n.v, n.mx, (vQ l), (vQ r), (vQ p), (vI .i64 n.c)], cl cb 279 [(Value.func (.func 53) #[] #[(vQ t10)])], cl t10 30 [sv2], sl 44 5 sv2 (List.length (S ++ [ekSpan n.kb n.ke])) ((S ++ [ekSpan n.kb n.ke]).flatMap SN.cells)]) := by
 refine Tri.into (n := 9) (al := [(vQ n.a), (vQ cb)]) func168 rfl ntmps168 rfl rfl fun w F H => ?_
 refine cr fun _ hK1_ => ?_
 refine sv (v := (vB false)) (x_assign rfl) ?_
 refine wn (hK1_ _ _ ?_)
 refine C_seq (fun _ hK2_ => ?_)
 refine A_start (S := fun w => (Rd n.a [n.b, n.e, n.v, n.mx, (vQ l), (vQ r), (vQ p), (vI .i64 n.c)] w ∧ Blk w n.a) ∧ Rd cb [(Value.func (.func 53) #[] #[(vQ t10)])] w ∧ Sub R (hp w)) (N := 6) foll rfl rfl ?_
 have H3_ := Holds.drew_ H
 have hq4_ := And.intro ((And.intro (Holds.rdf H3_ 1 rfl) (Holds.blk H3_ 1 rfl))) (And.intro (Holds.rd H3_ 2 rfl) ((Holds.ro_at H3_ 0 rfl)))
 refine A_tk 0 (v := (Value.func (.func 53) #[] #[(vQ t10)])) rfl (by kernel_rfl) (fun w hS => x_load1 rfl underlying279 rfl (hS.2.1 0 (Value.func (.func 53) #[] #[(vQ t10)]) rfl)) hq4_ ?_
 refine A_tk 1 (v := (vQ n.a)) rfl (by kernel_rfl) (fun w hS => x_move rfl) hq4_ ?_
 refine A_tk 2 (v := (vQ n.a)) rfl (by kernel_rfl) (fun w hS => by kernel_rfl) hq4_ ?_
 refine A_tk 3 (v := (vQ n.a)) rfl (by kernel_rfl) (fun w hS => by kernel_rfl) hq4_ ?_
 refine A_ready (i := 4) (rs := []) (by kernel_rfl) ?_
 refine AllR.cons ?_ AllR.nil
 have H7_ := ((Holds.bring (Holds.bring (Holds.bring (Holds.bring H3_ 4 rfl) 4 rfl) 3 rfl) 3 rfl) :)
 refine A_op (ls' := #[true, true, true, true, true, false]) rfl (by kernel_rfl) (T_call (al := [(vQ n.a), (vQ t10)]) (pre := [clf n.a 185 [n.b, n.e, n.v, n.mx, (vQ l), (vQ r), (vQ p), (vI .i64 n.c)], cl t10 30 [su], sl 44 5 su (List.length S) (S.flatMap SN.cells)]) rfl rfl cb53 (ovNote R t10 n l r p su S (hn) (hll)) H7_ ?_)
 rintro v5_ p11_ w8_ ⟨sv26_, rfl, rfl⟩ S10_ H9_
 have S12_ := Same.trans (Same.trans (Same.refl w) (Same.drew _)) S10_
 refine ⟨⟨(And.intro (Holds.rdf H9_ 1 rfl) (Holds.blk H9_ 1 rfl)), Holds.rd H9_ 4 rfl, (Holds.ro_at H9_ 0 rfl)⟩, ?_⟩
 have hq13_ := And.intro ((And.intro (Holds.rdf H9_ 1 rfl) (Holds.blk H9_ 1 rfl))) (And.intro (Holds.rd H9_ 4 rfl) ((Holds.ro_at H9_ 0 rfl)))
 refine A_tk 5 (v := (vB true)) rfl (by kernel_rfl) (fun w hS => x_assign rfl) hq13_ ?_
 refine A_done (by kernel_rfl) ?_
 refine (X_then (hK2_ _ _ ?_))
 refine C_ret ?_
 refine R_any (v := (vB true)) (run_results1 rfl rfl) ?_
 have H14_ := Holds.pkF H9_ [0, 0, 2, 0, 0] 0
 exact ⟨_, _, rfl, ⟨sv26_, rfl, rfl⟩, S12_, H14_⟩

/-! ### What Overlaps notes of the tree -/
def spn (d : EK × EK) : SN := ekSpan d.1 d.2
def nvQ (cb t10 : Nat) (s : List (EK × EK)) (v : Value) : List SP :=
  [cl cb 279 [.func (.func 53) #[] #[pn t10]], cl t10 30 [v], sl 44 5 v (s.map spn).length ((s.map spn).flatMap SN.cells)]
def nvP (cb t10 : Nat) (s : List (EK × EK)) : SP := exG (nvQ cb t10 s)
def nvStep (s : List (EK × EK)) (x : ND EK) : List (EK × EK) × Bool := (s ++ [nk2 x], true)
theorem nvStepT (R : HP) (cb t10 : Nat) (N : Nat) (hN : N ≤ 100000000000) (s : List (EK × EK)) (n : ND EK) (l r p : Nat) (hn : NOk (EO 1) R n) (hs : s.length < N) :
    Tri Try.prog 168 #[pn n.a, pn cb] R [clf n.a 185 (n.cells l r p), vp (nvP cb t10) s] fun v post =>
      v = .bool (nvStep s n).2 ∧ post = [clf n.a 185 (n.cells l r p), vp (nvP cb t10) (nvStep s n).1] ∧ True := by
  refine Tri.exG (Q := nvQ cb t10 s) (fun q => ?_) (fun v q h => h)
  have ht := ovVisV R cb t10 n l r p q (s.map spn) hn (by rw [List.length_map]; omega)
  refine ht.mono fun w post h => ?_
  obtain ⟨sv2, rfl, rfl⟩ := h
  refine ⟨_, _, nvP cb t10 (nvStep s n).1, rfl, fun g hg => ⟨sv2, ?_⟩, rfl, rfl, trivial⟩
  have e1 : (s ++ [nk2 n]).map spn = s.map spn ++ [ekSpan n.kb n.ke] := by rw [List.map_append]; rfl
  show Sat (nvQ cb t10 (s ++ [nk2 n]) sv2) g
  unfold nvQ
  rw [e1]
  exact hg
def kb0 : EK := lo0 (ByteArray.mk #[0])
def ke0 : EK := lo0 (ByteArray.mk #[])
theorem run_nv : ∀ (L : List (ND EK)) (s : List (EK × EK)), runV nvStep L s = (s ++ L.map nk2, true)
  | [], s => by simp [runV]
  | n :: L, s => by
    rw [runV]
    show (if true = true then runV nvStep L (s ++ [nk2 n]) else _) = _
    rw [if_pos rfl, run_nv L]
    simp
def BegD (D : List (EK × EK)) : Prop := ∀ d ∈ D, (∃ l : List UInt8, l ≠ [] ∧ d.1 = .t l) ∧ ecm 1 d.1 d.2 < 0
theorem delsK_beg {L : List RT} (h : ∀ x ∈ L, PrpR x) : BegD (delsK L) := by
  intro d hd
  refine ⟨?_, delsK_prp h d hd⟩
  obtain ⟨x, hx, rfl⟩ := List.mem_map.1 hd
  obtain ⟨h1, h2⟩ := List.mem_filter.1 hx
  refine ⟨_, fun e => ?_, rfl⟩
  rw [kS_eq] at e
  exact ((h x h1).2 (of_decide_eq_true h2)).1 (nil_size.1 e)
theorem cb_zero : ∀ {l : List UInt8}, l ≠ [] → Lib.compareBytes [0] l ≤ 0
  | [], h => absurd rfl h
  | a :: r, _ => by
    simp only [Lib.compareBytes, UInt8.lt_iff_toNat_lt]
    by_cases h1 : (0 : UInt8).toNat < a.toNat
    · rw [if_pos h1]; decide
    · rw [if_neg h1]
      by_cases h2 : a.toNat < (0 : UInt8).toNat
      · exact absurd h2 (Nat.not_lt_zero _)
      · rw [if_neg h2]
        cases r with
        | nil => decide
        | cons _ _ => show (-1 : Int) ≤ 0; decide
theorem beg_meets {D : List (EK × EK)} (h : BegD D) {n : ND EK} (hn : nk2 n ∈ D) : meets (EO 1) kb0 ke0 n = true := by
  obtain ⟨⟨l, hl, h1⟩, h2⟩ := h _ hn
  have h1' : n.kb = .t l := h1
  have h2' : ecm 1 n.kb n.ke < 0 := h2
  refine decide_eq_true ⟨?_, ?_⟩
  · show ecm 1 n.kb ke0 < 0
    rw [h1', show ecm 1 (EK.t l) ke0 = acm l [] from rfl, acm_r hl]
    decide
  · have h3 : ecm 1 kb0 n.kb ≤ 0 := by
      rw [h1', show ecm 1 kb0 (EK.t l) = acm [0] l from rfl, acm_ne (by simp) hl]
      exact cb_zero hl
    exact KO.le_lt (O := EO 1) h3 h2'
theorem vis_all {R : HP} {W : Tr EK} {D : List (EK × EK)} (h : IW R W D) (hb : BegD D) : (vis (EO 1) nvStep kb0 ke0 W []).1 = (ino W).map nk2 := by
  have hm : ∀ n ∈ ino W, meets (EO 1) kb0 ke0 n = true := fun n hn => beg_meets hb (h.m.mem_iff.1 (List.mem_map.2 ⟨n, hn, rfl⟩))
  rw [vis_eq (O := EO 1) (fun s n => rfl) (by show ecm 1 kb0 ke0 < 0; decide) [] h.s h.ok.2.1 (h.prp fun d hd => (hb d hd).2), List.filter_eq_self.2 hm, run_nv]
  rfl


set_option maxHeartbeats 8000000 in
theorem ovVisit (R : HP) (tb sb t10 : Nat) (W : Tr EK) (cnt : Int) (sc : List Value) (hW : TOk (EO 1) R W) (hN : (ino W).length ≤ 100000000000) :
    Tri Try.prog 153 #[(vQ tb), (vA #[(Value.iface 166 (Value.string (ByteArray.mk #[0]))), (Value.iface 166 (Value.string (ByteArray.mk #[])))]), (Value.func (.func 53) #[] #[(vQ t10)])] R [cl tb 188 [(vQ (rt sb W)), (vI .i64 cnt), (vQ sb)], tr sb sb W, clf sb 185 sc, cl t10 30 [(vS none 0 0)]] (fun v__ post__ => ∃ (sv : Value), v__ = (vT #[]) ∧ post__ = [cl tb 188 [(vQ (rt sb W)), (vI .i64 cnt), (vQ sb)], tr sb sb W, clf sb 185 sc, cl t10 30 [sv], sl 44 5 sv (List.length (List.map spn (vis (EO 1) nvStep kb0 ke0 W []).1)) ((List.map spn (vis (EO 1) nvStep kb0 ke0 W []).1).flatMap SN.cells)]) := by
 refine Tri.into (n := 16) (al := [(vQ tb), (vA #[(Value.iface 166 (Value.string (ByteArray.mk #[0]))), (Value.iface 166 (Value.string (ByteArray.mk #[])))]), (Value.func (.func 53) #[] #[(vQ t10)])]) func153 rfl ntmps153 rfl rfl fun w F H => ?_
 refine cr fun _ hK1_ => ?_
 refine S_list (T_box (v := (vA #[(Value.iface 166 (Value.string (ByteArray.mk #[0]))), (Value.iface 166 (Value.string (ByteArray.mk #[])))])) rfl H ?_)
 intro b2_ w3_ S5_ H4_
 have S6_ := Same.trans (Same.refl w) S5_
 refine S_list (T_box (v := (Value.func (.func 53) #[] #[(vQ t10)])) rfl H4_ ?_)
 intro b7_ w8_ S10_ H9_
 have S11_ := Same.trans S6_ S10_
 refine wn (hK1_ _ _ ?_)
 refine A_start (S := fun w => Rd b7_ [(Value.func (.func 53) #[] #[(vQ t10)])] w ∧ Rd tb [(vQ (rt sb W)), (vI .i64 cnt), (vQ sb)] w ∧ RtRd w (rt sb W) (rmx W) ∧ Sub R (hp w)) (N := 10) foll rfl rfl ?_
 have H12_ := Holds.drew_ H9_
 have hq13_ := And.intro (Holds.rd H12_ 0 rfl) (And.intro (Holds.rd H12_ 3 rfl) (And.intro (Holds.tr_rd H12_ 4 rfl 5 rfl) ((Holds.ro_at H12_ 2 rfl))))
 refine A_tk 0 (v := (vQ tb)) rfl (by kernel_rfl) (fun w hS => x_move rfl) hq13_ ?_
 refine A_tk 1 (v := (vQ tb)) rfl (by kernel_rfl) (fun w hS => by kernel_rfl) hq13_ ?_
 refine A_tk 2 (v := (vQ tb)) rfl (by kernel_rfl) (fun w hS => by kernel_rfl) hq13_ ?_
 refine A_tk 3 (v := (vQ (rt sb W))) rfl (by kernel_rfl) (fun w hS => x_load1 rfl underlying182 rfl (hS.2.1 0 (vQ (rt sb W)) rfl)) hq13_ ?_
 refine A_tk 4 (v := (vQ tb)) rfl (by kernel_rfl) (fun w hS => x_move rfl) hq13_ ?_
 refine A_tk 5 (v := (vQ tb)) rfl (by kernel_rfl) (fun w hS => by kernel_rfl) hq13_ ?_
 refine A_tk 6 (v := (vP (some ⟨tb, 2, none⟩))) rfl (by kernel_rfl) (fun w hS => by kernel_rfl) hq13_ ?_
 refine A_tk 7 (v := (vQ sb)) rfl (by kernel_rfl) (fun w hS => x_load1 rfl underlying182 rfl (hS.2.1 2 (vQ sb) rfl)) hq13_ ?_
 refine A_tk 8 (v := (Value.func (.func 168) #[] #[(vQ b7_)])) rfl (by kernel_rfl) (fun w hS => by kernel_rfl) hq13_ ?_
 refine A_ready (i := 9) (rs := []) (by kernel_rfl) ?_
 refine AllR.cons ?_ AllR.nil
 have H14_ : Holds w8_.drew (sl 44 5 (vS none 0 0) 0 ([] : List Value) :: cl b7_ 279 [(Value.func (.func 53) #[] #[(vQ t10)])] :: cl b2_ 111 [(Value.iface 166 (Value.string (ByteArray.mk #[0]))), (Value.iface 166 (Value.string (ByteArray.mk #[])))] :: ro R :: cl tb 188 [(vQ (rt sb W)), (vI .i64 cnt), (vQ sb)] :: tr sb sb W :: clf sb 185 sc :: cl t10 30 [(vS none 0 0)] :: F) := Holds.add_nil H12_ 44 5
 have H15_ := ((Holds.bring (Holds.bring H14_ 7 rfl) 2 rfl) :)
 have H16_ : Holds w8_.drew (vp (nvP b7_ t10) ([] : List (EK × EK)) :: cl b2_ 111 [(Value.iface 166 (Value.string (ByteArray.mk #[0]))), (Value.iface 166 (Value.string (ByteArray.mk #[])))] :: ro R :: cl tb 188 [(vQ (rt sb W)), (vI .i64 cnt), (vQ sb)] :: tr sb sb W :: clf sb 185 sc :: F) := Holds.exG_in (Q := nvQ b7_ t10 []) (.slice none 0 0) H15_
 have H17_ := Holds.recl H16_ 1 rfl ((lcons (rfl : (Value.iface 166 (Value.string (ByteArray.mk #[0]))) = ((Value.iface 166 (Value.string (ByteArray.mk #[0]))))) (lcons (rfl : (Value.iface 166 (Value.string (ByteArray.mk #[]))) = ((Value.iface 166 (Value.string (ByteArray.mk #[]))))) rfl)) : [(Value.iface 166 (Value.string (ByteArray.mk #[0]))), (Value.iface 166 (Value.string (ByteArray.mk #[])))] = [((Value.iface 166 (Value.string (ByteArray.mk #[0])))), ((Value.iface 166 (Value.string (ByteArray.mk #[]))))])
 have H20_ := ((Holds.bring (Holds.bring (Holds.bring (Holds.bring H17_ 1 rfl) 5 rfl) 5 rfl) 4 rfl) :)
 refine A_op (ls' := #[true, true, true, true, true, true, true, true, true, true]) rfl (by kernel_rfl) (T_call (al := [(vQ (rt sb W)), (vQ b2_), (vQ sb), (Value.func (.func 168) #[] #[(vQ b7_)])]) (pre := [tr sb sb W, clf sb 185 sc, cl b2_ 111 [((Value.iface 166 (Value.string (ByteArray.mk #[0])))), ((Value.iface 166 (Value.string (ByteArray.mk #[]))))], vp (nvP b7_ t10) ([] : List (EK × EK))]) rfl rfl cb167 (itVisit R EK (EO 1) R (List (EK × EK)) (nvP b7_ t10) (fun _ _ => True) nvStep (fun _ => True) List.length ((ino W).length) sc b2_ b7_ sb sb W ([] : List (EK × EK)) (Value.iface 166 (Value.string (ByteArray.mk #[0]))) (Value.iface 166 (Value.string (ByteArray.mk #[]))) kb0 ke0 (hW) ((show (EO 1).Val _ _ kb0 from ev1 _)) ((show (EO 1).Val _ _ ke0 from ev1 _)) (trivial) (rfl) ((TAll.all (fun _ => trivial) _)) ((fun s n => by show (s ++ [nk2 n]).length ≤ _; simp)) (by simp) ((fun R s n l r p _ hn _ hs _ => nvStepT R b7_ t10 (ino W).length hN s n l r p hn hs))) H20_ ?_)
 rintro v18_ p24_ w21_ ⟨rfl, rfl, he19_⟩ S23_ H22_
 have S25_ := Same.trans (Same.trans S11_ (Same.drew _)) S23_
 have H26_ := ((Holds.bring H22_ 4 rfl) :)
 obtain ⟨q27_, H28_⟩ := Holds.exG_out H26_
 have H29_ : Holds w21_ (cl b7_ 279 [(Value.func (.func 53) #[] #[(vQ t10)])] :: cl t10 30 [q27_] :: sl 44 5 q27_ (List.length (List.map spn ((vis (EO 1) nvStep kb0 ke0 W ([] : List (EK × EK))).1))) ((List.map spn ((vis (EO 1) nvStep kb0 ke0 W ([] : List (EK × EK))).1)).flatMap SN.cells) :: ro R :: tr sb sb W :: clf sb 185 sc :: cl b2_ 111 [((Value.iface 166 (Value.string (ByteArray.mk #[0])))), ((Value.iface 166 (Value.string (ByteArray.mk #[]))))] :: cl tb 188 [(vQ (rt sb W)), (vI .i64 cnt), (vQ sb)] :: F) := H28_
 refine ⟨⟨Holds.rd H29_ 0 rfl, Holds.rd H29_ 7 rfl, Holds.tr_rd H29_ 4 rfl 5 rfl, (Holds.ro_at H29_ 3 rfl)⟩, ?_⟩
 refine A_done (by kernel_rfl) ?_
 refine R_0 rfl ?_
 have H30_ := Holds.resl H29_ 2 rfl ((by first | rfl | (simp [RQ.cells, CM.cells, RT.cells, SN.cells]; done)) : (List.map spn ((vis (EO 1) nvStep kb0 ke0 W ([] : List (EK × EK))).1)).flatMap SN.cells = (List.map spn (vis (EO 1) nvStep kb0 ke0 W []).1).flatMap SN.cells) ((by first | rfl | omega | (simp; done) | (simp; omega)) : (List.length (List.map spn ((vis (EO 1) nvStep kb0 ke0 W ([] : List (EK × EK))).1))) = (List.length (List.map spn (vis (EO 1) nvStep kb0 ke0 W []).1)))
 have H31_ := Holds.pkF H30_ [3, 6, 3, 3, 1, 1] 2
 exact ⟨_, _, rfl, ⟨q27_, rfl, rfl⟩, S25_, H31_⟩
end Go.Proofs.Ytlnihndjepjagaa
set_option linter.unusedVariables false
set_option linter.unusedSimpArgs false
namespace Go.Proofs.Ytlnihndjepjagaa
open Go Go.RowKit Gw Try
open Go.Value renaming int → vI, bool → vB, slice → vS, pointer → vP, agg → vA, tuple → vT

theorem ks_step {out P : List ByteArray} {left l1 l2 : List (ByteArray × Value)} {a : ByteArray} {v : Value} (h : (out ++ left.map (·.1)).Perm P) (e : left = l1 ++ (a, v) :: l2) : ((out ++ [a]) ++ (l1 ++ l2).map (·.1)).Perm P := by
  subst e
  refine List.Perm.trans ?_ h
  rw [List.map_append, List.map_append, List.map_cons, List.append_assoc]
  refine List.Perm.append_left out ?_
  rw [List.singleton_append]
  exact List.perm_middle.symm
theorem ks_end {out P : List ByteArray} {left : List (ByteArray × Value)} (h : (out ++ left.map (·.1)).Perm P) (e : left = []) : out.Perm P := by
  subst e
  rw [List.map_nil, List.append_nil] at h
  exact h
theorem ks_len {out P : List ByteArray} {left : List (ByteArray × Value)} (h : (out ++ left.map (·.1)).Perm P) : out.length ≤ P.length := by
  rw [← h.length_eq, List.length_append]; omega

set_option maxHeartbeats 16000000 in
theorem ovOverlaps (R : HP) (v : Value) (L : List RT) (hL : RS R 21 v (List.length L) (L.flatMap RT.cells)) (hl : L.length ≤ 200) (hK : ∀ y ∈ L, 1 ≤ y.q.kind ∧ y.q.kind ≤ 3) (hPp : ∀ x ∈ L, PrpR x) (hsz : ∀ x ∈ L, x.q.key.size ≤ 1000000000000000) :
    TriG Try.prog 18 #[v] R [] (fun R' v__ post__ => (v__ = (vT #[(vS none 0 0), (vS none 0 0), (vI .i64 5)]) ∧ post__ = [] ∧ (¬ okF L)) ∨ (∃ (kv sv : Value) (K : List ByteArray) (D : List (EK × EK)), v__ = (vT #[kv, sv, (vI .i64 0)]) ∧ post__ = [] ∧ (okF L) ∧ (K.Perm (putsK L)) ∧ (SrtK K) ∧ (D.Perm (delsK L)) ∧ (SrtD D) ∧ (RS R' 1 kv (List.length K) (K.map Value.string)) ∧ (RS R' 5 sv (List.length (D.map spn)) ((D.map spn).flatMap SN.cells)))) := by
 refine TriG.into (n := 43) (al := [v]) func18 rfl ntmps18 rfl rfl fun w F H => ?_
 refine cr fun _ hK1_ => ?_
 refine sv (v := (vS none 0 0)) (x_assign rfl) ?_
 refine sv (v := (vS none 0 0)) (x_assign rfl) ?_
 refine sv (v := (vI .i64 0)) (x_assign rfl) ?_
 refine wn (hK1_ _ _ ?_)
 refine cr fun _ hK2_ => ?_
 refine sv (v := v) (x_move rfl) ?_
 refine S_list (T_callG (al := [v]) (pre := []) rfl rfl cb50 (ovOpsIn R v L hL (hl) (hK)) H ?_)
 rintro R4_ v5_ p12_ w9_ hs3_ ⟨_, T6_, rfl, rfl, he7_, he8_⟩ S11_ H10_
 have S13_ := Same.trans (Same.refl w) S11_
 refine S_list (T_callW (al := [v5_]) rfl rfl cb49 (Calls.into (n := 10) func49 rfl ntmps49 rfl rfl ?_))
 refine cr fun _ hK14_ => ?_
 refine sv (v := (Value.map none)) (x_assign rfl) ?_
 refine sv (v := (Value.nilIface)) (x_assign rfl) ?_
 refine sv (v := (Value.nilIface)) (x_assign rfl) ?_
 refine wn (hK14_ _ _ ?_)
 refine cr fun _ hK15_ => ?_
 refine sv (v := v5_) (x_move rfl) ?_
 refine S_list (T_call (al := [v5_]) (pre := []) rfl rfl cb72 (ovIntervals R4_ v5_ T6_ L (he7_) (he8_) (hl) (hPp) (hsz)) H10_ ?_)
 rintro v16_ p29_ w26_ hq30_ S28_ H27_
 rcases hq30_ with ⟨mb17_, tb18_, sb19_, W20_, cnt21_, rfl, rfl, he22_, he23_⟩ | ⟨tb24_, rfl, rfl, he25_⟩
 ·skip
  have S31_ := Same.trans S13_ S28_
  have hIWx_ := he22_
  have hPl_ := putsK_len L
  have hDl_ := delsK_len L
  have hWl_ := hIWx_.len
  refine sv (v := (Value.map (some mb17_))) (by kernel_rfl) ?_
  refine sv (v := (Value.iface 186 (vQ tb18_))) (by kernel_rfl) ?_
  refine sv (v := (Value.nilIface)) (by kernel_rfl) ?_
  refine sv (v := (Value.map (some mb17_))) (x_assign rfl) ?_
  refine sv (v := (Value.iface 186 (vQ tb18_))) (x_assign rfl) ?_
  refine sv (v := (Value.nilIface)) (x_assign rfl) ?_
  refine wn (hK15_ _ _ ?_)
  refine C_ret ?_
  refine R_any (v := (vT #[(Value.map (some mb17_)), (Value.iface 186 (vQ tb18_)), (Value.nilIface)])) (run_results3 rfl rfl rfl rfl) ⟨_, rfl, ?_⟩
  refine sv (v := (vT #[(Value.map (some mb17_)), (Value.iface 186 (vQ tb18_)), (Value.nilIface)])) (x_move rfl) ?_
  refine sv (v := (Value.map (some mb17_))) (by kernel_rfl) ?_
  refine sv (v := (Value.iface 186 (vQ tb18_))) (by kernel_rfl) ?_
  refine sv (v := (Value.nilIface)) (by kernel_rfl) ?_
  refine sv (v := (Value.map (some mb17_))) (x_assign rfl) ?_
  refine sv (v := (Value.iface 186 (vQ tb18_))) (x_assign rfl) ?_
  refine sv (v := (Value.nilIface)) (x_assign rfl) ?_
  refine wn (hK2_ _ _ ?_)
  refine C_seq (fun _ hK33_ => ?_)
  refine cr fun _ hK34_ => ?_
  refine sm (Value.nilIface) ?_
  refine sv (v := (vB false)) (by kernel_rfl) ?_
  refine wn (hK34_ _ _ ?_)
  refine C_condF rfl ?_
  refine C_skip (X_then (hK33_ _ _ ?_))
  refine cr fun _ hK35_ => ?_
  refine sv (v := (vS none 0 0)) (x_assign rfl) ?_
  refine wn (hK35_ _ _ ?_)
  refine C_seq (fun _ hK36_ => ?_)
  refine cr fun _ hK37_ => ?_
  refine sm (Value.map (some mb17_)) ?_
  refine S_list (T_range rfl underlying99 H27_ 1 rfl ?_)
  intro r38_ w39_ S41_ H40_
  have S42_ := Same.trans S31_ S41_
  refine wn (hK37_ _ _ ?_)
  refine C_block ?_
  have H43_ : Holds w39_ (sl 9 1 (vS none 0 0) (List.length ([] : List ByteArray)) (([] : List ByteArray).map Value.string) :: ro R4_ :: rg Value.string mb17_ r38_ (pmp (putsK L)) (pmp (putsK L)) none :: cl tb18_ 188 [(vQ (rt sb19_ W20_)), (vI .i64 cnt21_), (vQ sb19_)] :: tr sb19_ sb19_ W20_ :: clf sb19_ 185 [(Value.nilIface), (Value.nilIface), (Value.nilIface), (Value.nilIface), (vP none), (vP none), (vP none), (vI .i64 0)] :: F) := Holds.add_nil H40_ 9 1
  refine C_loop (γ := (List (ByteArray × Value)) × (Option (ByteArray × Value)) × Value × (List ByteArray)) (fun x__ a__ w1__ => match x__ with | ⟨left, cu, ov, out⟩ => ∃ h : Env, a__ = mkA 43 (upd (upd (upd (upd (upd (upd h 2 (vS none 0 0)) 3 (vS none 0 0)) 4 (vI .i64 0)) 6 (Value.iface 186 (vQ tb18_))) 8 ov) 23 (vQ r38_)) [] ∧ Holds w1__ (sl 9 1 ov (List.length out) (out.map Value.string) :: ro R4_ :: rg Value.string mb17_ r38_ (pmp (putsK L)) left cu :: cl tb18_ 188 [(vQ (rt sb19_ W20_)), (vI .i64 cnt21_), (vQ sb19_)] :: tr sb19_ sb19_ W20_ :: clf sb19_ 185 [(Value.nilIface), (Value.nilIface), (Value.nilIface), (Value.nilIface), (vP none), (vP none), (vP none), (vI .i64 0)] :: F) ∧ Same w w1__ ∧ ((out ++ left.map (·.1)).Perm (putsK L))) (fun x__ => match x__ with | ⟨left, cu, ov, out⟩ => left.length) (⟨pmp (putsK L), none, (vS none 0 0), ([] : List ByteArray)⟩) ⟨_, congrArg (fun e => mkA 43 e []) (ch (ch (ch (ch (ch (ch rfl rfl) rfl) rfl) rfl) (rfl : (vS none 0 0) = ((vS none 0 0)))) rfl), H43_, S42_, (by rw [List.nil_append, pmp_keys])⟩ ?_
  rintro ⟨left, cu, ov, out⟩ _ w44_ ⟨h, rfl, H45_, S46_, hpk⟩
  refine cr fun _ hK47_ => ?_
  refine S_list (T_next rfl H45_ 2 rfl (fun hl48_ => ?_) ?_)
  ·skip
   refine sv (v := (vB false)) (by kernel_rfl) ?_
   refine wn (hK47_ _ _ ?_)
   refine C_seq (fun _ hK57_ => ?_)
   refine C_condF rfl ?_
   refine C_exit (X_thenX (X_thenX (X_blkHit ?_)))
   refine (X_then (hK36_ _ _ ?_))
   refine cr fun _ hK58_ => ?_
   refine sv (v := ov) (x_move rfl) ?_
   have hout_ := ks_end hpk hl48_
   have H60_ := ((Holds.bring H45_ 1 rfl) :)
   refine S_list (T_call (al := [ov]) (pre := [sl 9 1 ov (List.length out) (out.map Value.string)]) rfl rfl cb51 (ovSort R4_ ov out (by have h__ := hout_.length_eq; omega)) H60_ ?_)
   rintro v59_ p64_ w61_ ⟨rfl, rfl⟩ S63_ H62_
   have S65_ := Same.trans S46_ S63_
   refine wn (hK58_ _ _ ?_)
   refine cr fun _ hK66_ => ?_
   refine S_list (T_alloc z30 H62_ ?_)
   intro b67_ w68_ S70_ H69_
   have S71_ := Same.trans S65_ S70_
   refine wn (hK66_ _ _ ?_)
   refine C_seq (fun _ hK72_ => ?_)
   refine A_start (S := fun w => SlRd ov ((srtK out).map Value.string) w ∧ Rd tb18_ [(vQ (rt sb19_ W20_)), (vI .i64 cnt21_), (vQ sb19_)] w ∧ RtRd w (rt sb19_ W20_) (rmx W20_) ∧ Sub R4_ (hp w)) (N := 7) foll rfl rfl ?_
   have H73_ := Holds.drew_ H69_
   refine A_cut #[true, true, true, true, true, true, false] 1 (fun a__ w1__ => ∃ h : Env, a__ = mkA 43 (upd (upd (upd (upd (upd (upd (upd (upd h 2 (vS none 0 0)) 3 (vS none 0 0)) 4 (vI .i64 0)) 8 ov) 10 (vQ b67_)) 35 (vA #[(Value.iface 166 (Value.string (ByteArray.mk #[0]))), (Value.iface 166 (Value.string (ByteArray.mk #[])))])) 36 (Value.func (.func 53) #[] #[(vQ b67_)])) 39 (Value.iface 186 (vQ tb18_))) [] ∧ Holds w1__ (ro R4_ :: cl b67_ 30 [(vS none 0 0)] :: sl 9 1 ov (List.length (srtK out)) ((srtK out).map Value.string) :: rg Value.string mb17_ r38_ (pmp (putsK L)) left cu :: cl tb18_ 188 [(vQ (rt sb19_ W20_)), (vI .i64 cnt21_), (vQ sb19_)] :: tr sb19_ sb19_ W20_ :: clf sb19_ 185 [(Value.nilIface), (Value.nilIface), (Value.nilIface), (Value.nilIface), (vP none), (vP none), (vP none), (vI .i64 0)] :: F) ∧ Same w w1__) ?_ ?_
   ·rintro _ w92_ ⟨h, rfl, H93_, S94_⟩
    refine A_ready (i := 6) (rs := []) (by kernel_rfl) ?_
    refine AllR.cons ?_ AllR.nil
    have H97_ := ((Holds.bring (Holds.bring (Holds.bring (Holds.bring (Holds.bring H93_ 1 rfl) 6 rfl) 6 rfl) 6 rfl) 4 rfl) :)
    refine A_op (ls' := #[true, true, true, true, true, true, true]) rfl (by kernel_rfl) (T_invoke (al := [(vQ tb18_), (vA #[(Value.iface 166 (Value.string (ByteArray.mk #[0]))), (Value.iface 166 (Value.string (ByteArray.mk #[])))]), (Value.func (.func 53) #[] #[(vQ b67_)])]) (pre := [cl tb18_ 188 [(vQ (rt sb19_ W20_)), (vI .i64 cnt21_), (vQ sb19_)], tr sb19_ sb19_ W20_, clf sb19_ 185 [(Value.nilIface), (Value.nilIface), (Value.nilIface), (Value.nilIface), (vP none), (vP none), (vP none), (vI .i64 0)], cl b67_ 30 [(vS none 0 0)]]) rfl (fun w => by kernel_rfl) rfl cb153 (ovVisit R4_ tb18_ sb19_ b67_ W20_ cnt21_ [(Value.nilIface), (Value.nilIface), (Value.nilIface), (Value.nilIface), (vP none), (vP none), (vP none), (vI .i64 0)] (hIWx_.ok.1) (by omega)) H97_ ?_)
    rintro v95_ p101_ w98_ ⟨sv96_, rfl, rfl⟩ S100_ H99_
    have S102_ := Same.trans S94_ S100_
    refine ⟨⟨Holds.slrd H99_ 6 rfl, Holds.rd H99_ 1 rfl, Holds.tr_rd H99_ 2 rfl 3 rfl, (Holds.ro_at H99_ 0 rfl)⟩, ?_⟩
    refine A_done (by kernel_rfl) ?_
    refine (X_then (hK72_ _ _ ?_))
    refine C_seq (fun _ hK103_ => ?_)
    refine A_start (S := fun w => RtRd w (rt sb19_ W20_) (rmx W20_) ∧ Rd b67_ [sv96_] w ∧ SlRd sv96_ ((List.map spn (vis (EO 1) nvStep kb0 ke0 W20_ []).1).flatMap SN.cells) w ∧ SlRd ov ((srtK out).map Value.string) w ∧ Sub R4_ (hp w)) (N := 5) foll rfl rfl ?_
    have H104_ := Holds.drew_ H99_
    have hq105_ := And.intro (Holds.tr_rd H104_ 2 rfl 3 rfl) (And.intro (Holds.rd H104_ 4 rfl) (And.intro (Holds.slrd H104_ 5 rfl) (And.intro (Holds.slrd H104_ 6 rfl) ((Holds.ro_at H104_ 0 rfl)))))
    refine A_tk 0 (v := ov) rfl (by kernel_rfl) (fun w hS => x_move rfl) hq105_ ?_
    refine A_tk 1 (v := sv96_) rfl (by kernel_rfl) (fun w hS => x_load1 rfl underlying30 rfl (hS.2.1 0 sv96_ rfl)) hq105_ ?_
    refine A_tk 2 (v := ov) rfl (by kernel_rfl) (fun w hS => x_assign rfl) hq105_ ?_
    refine A_tk 3 (v := sv96_) rfl (by kernel_rfl) (fun w hS => x_assign rfl) hq105_ ?_
    refine A_tk 4 (v := (vI .i64 0)) rfl (by kernel_rfl) (fun w hS => x_assign rfl) hq105_ ?_
    refine A_done (by kernel_rfl) ?_
    refine (X_then (hK103_ _ _ ?_))
    refine C_ret ?_
    refine R_any (v := (vT #[ov, sv96_, (vI .i64 0)])) (run_results3 rfl rfl rfl rfl) ?_
    have H106_ := Holds.resl H104_ 5 rfl (by rw [vis_all hIWx_ (delsK_beg hPp)] : (List.map spn (vis (EO 1) nvStep kb0 ke0 W20_ []).1).flatMap SN.cells = (List.map spn (List.map nk2 (ino W20_))).flatMap SN.cells) (by rw [vis_all hIWx_ (delsK_beg hPp)] : (List.length (List.map spn (vis (EO 1) nvStep kb0 ke0 W20_ []).1)) = (List.length (List.map spn (List.map nk2 (ino W20_)))))
    have H107_ := ((Holds.bring (Holds.bring H106_ 5 rfl) 1 rfl) :)
    obtain ⟨R108_, hs109_, ⟨R110_, ha111_, hs112_⟩, H113_⟩ := Holds.gift H107_
    have hz_R_R108_ := Sub.trans' hs3_ hs109_
    have hr114_ : RS R108_ 5 sv96_ (List.length (List.map spn (List.map nk2 (ino W20_)))) ((List.map spn (List.map nk2 (ino W20_))).flatMap SN.cells) := (sl_RS ha111_ (Sub.rfl' _)).mono hs112_
    have H115_ := ((Holds.bring (Holds.bring H113_ 5 rfl) 1 rfl) :)
    obtain ⟨R116_, hs117_, ⟨R118_, ha119_, hs120_⟩, H121_⟩ := Holds.gift H115_
    have hz_R_R116_ := Sub.trans' hz_R_R108_ hs117_
    have hz_R4__R116_ := Sub.trans' hs109_ hs117_
    have hr122_ : RS R116_ 1 ov (List.length (srtK out)) ((srtK out).map Value.string) := (sl_RS ha119_ (Sub.rfl' _)).mono hs120_
    have H123_ := Holds.pkF H121_ [0] 5
    exact ⟨R116_, _, _, rfl, hz_R_R116_, (.inr ⟨ov, sv96_, (srtK out), (List.map nk2 (ino W20_)), rfl, rfl, (he23_), ((srtK_perm _).trans hout_), (srtK_srt _), (hIWx_.m), (hIWx_.srtD), (hr122_), ((hr114_.mono hs117_))⟩), (Same.trans S102_ (Same.drew _)), H123_⟩
   intro hJ91
   have hq124_ := And.intro (Holds.slrd H73_ 2 rfl) (And.intro (Holds.rd H73_ 4 rfl) (And.intro (Holds.tr_rd H73_ 5 rfl 6 rfl) ((Holds.ro_at H73_ 1 rfl))))
   refine A_tk 0 (v := (Value.iface 186 (vQ tb18_))) rfl (by kernel_rfl) (fun w hS => x_move rfl) hq124_ ?_
   refine A_tk 2 (v := (Value.func (.func 53) #[] #[(vQ b67_)])) rfl (by kernel_rfl) (fun w hS => by kernel_rfl) hq124_ ?_
   refine A_tk 3 (v := ((Value.func (.method "Visit") #[(Value.iface 186 (vQ tb18_))] #[]))) rfl (by kernel_rfl) (fun w hS => by kernel_rfl) hq124_ ?_
   refine A_tk 4 (v := ((Value.func (.method "Visit") #[(Value.iface 186 (vQ tb18_))] #[]))) rfl (by kernel_rfl) (fun w hS => by kernel_rfl) hq124_ ?_
   refine A_tk 5 (v := (Value.iface 186 (vQ tb18_))) rfl (by kernel_rfl) (fun w hS => x_move rfl) hq124_ ?_
   refine A_ready (i := 1) (rs := []) (by kernel_rfl) ?_
   refine AllR.cons ?_ AllR.nil
   have H126_ := ((Holds.bring H73_ 1 rfl) :)
   refine A_op (ls' := #[true, true, true, true, true, true, false]) rfl (by kernel_rfl) (T_call (al := [(Value.string (ByteArray.mk #[0])), (Value.string (ByteArray.mk #[]))]) (pre := []) rfl rfl cb52 (ovNewIv R4_ (ByteArray.mk #[0]) (ByteArray.mk #[])) H126_ ?_)
   rintro v125_ p130_ w127_ ⟨rfl, rfl⟩ S129_ H128_
   have S131_ := Same.trans (Same.trans S71_ (Same.drew _)) S129_
   refine ⟨⟨Holds.slrd H128_ 2 rfl, Holds.rd H128_ 4 rfl, Holds.tr_rd H128_ 5 rfl 6 rfl, (Holds.ro_at H128_ 0 rfl)⟩, ?_⟩
   exact hJ91 _ _ ⟨_, congrArg (fun e => mkA 43 e []) (ch (ch (ch (ch (ch (ch (ch (ch rfl rfl) rfl) rfl) rfl) rfl) rfl) rfl) rfl), H128_, S131_⟩
  ·rintro ⟨p49_a, p49_v⟩ l50_ l51_ he52_
   intro w53_ S55_ H54_
   have S56_ := Same.trans S46_ S55_
   refine sv (v := (vB true)) (by kernel_rfl) ?_
   refine wn (hK47_ _ _ ?_)
   refine C_seq (fun _ hK132_ => ?_)
   refine C_condT rfl ?_
   refine C_skip (X_then (hK132_ _ _ ?_))
   refine C_block ?_
   refine cr fun _ hK133_ => ?_
   refine S_list (T_entry rfl H54_ 2 rfl ?_)
   refine sv (v := (Value.string p49_a)) (by kernel_rfl) ?_
   refine sv (v := (Value.string p49_a)) (x_assign rfl) ?_
   refine wn (hK133_ _ _ ?_)
   refine C_reg ?_
   refine sv (v := ov) (x_move rfl) ?_
   refine sm (Value.string p49_a) ?_
   refine S_list (T_new (obj := .cells #[(Value.string p49_a)] 9) (f := fun b__ => .slice (some ⟨b__, 0, none⟩) 1 1) (A := fun b__ => cl b__ 9 [(Value.string p49_a)]) (by kernel_rfl) (fun l h => h.alloc _ _) H54_ ?_)
   intro b134_ w135_ S137_ H136_
   have S138_ := Same.trans S56_ S137_
   refine S_list (T_append rfl rfl underlying28 z9 rfl (by decide) H136_ 1 rfl (Holds.cl_src H136_ 0 rfl underlying28 (by simp [Value.oneCell']) rfl) (by have h__ := ks_len hpk; omega) ?_)
   intro v139_ w140_ S142_ H141_
   have S143_ := Same.trans S138_ S142_
   refine sv (v := v139_) (x_assign rfl) ?_
   refine wpList_nil (X_blkN (X_then ?_))
   have H144_ := Holds.resl H141_ 1 rfl (by simp : (out.map Value.string) ++ [(Value.string p49_a)] = (out ++ [p49_a]).map Value.string) (by simp : (List.length out) + 1 = (List.length (out ++ [p49_a])))
   have H145_ := Holds.pkF H144_ [1, 1, 1, 1, 1, 1] 1
   exact ⟨⟨l50_ ++ l51_, (some (p49_a, p49_v)), v139_, (out ++ [p49_a])⟩, ⟨_, congrArg (fun e => mkA 43 e []) (ch (ch (ch (ch (ch (ch rfl rfl) rfl) rfl) rfl) rfl) rfl), H145_, S143_, (ks_step hpk he52_)⟩, (by have h9_ := congrArg List.length he52_; simp at h9_ ⊢; omega)⟩
 ·skip
  have S32_ := Same.trans S13_ S28_
  refine sv (v := (Value.map none)) (by kernel_rfl) ?_
  refine sv (v := (Value.iface 186 (vQ tb24_))) (by kernel_rfl) ?_
  refine sv (v := (Value.iface 133 (Value.string (ByteArray.mk #[101, 116, 99, 100, 115, 101, 114, 118, 101, 114, 58, 32, 100, 117, 112, 108, 105, 99, 97, 116, 101, 32, 107, 101, 121, 32, 103, 105, 118, 101, 110, 32, 105, 110, 32, 116, 120, 110, 32, 114, 101, 113, 117, 101, 115, 116])))) (by kernel_rfl) ?_
  refine sv (v := (Value.map none)) (x_assign rfl) ?_
  refine sv (v := (Value.iface 186 (vQ tb24_))) (x_assign rfl) ?_
  refine sv (v := (Value.iface 133 (Value.string (ByteArray.mk #[101, 116, 99, 100, 115, 101, 114, 118, 101, 114, 58, 32, 100, 117, 112, 108, 105, 99, 97, 116, 101, 32, 107, 101, 121, 32, 103, 105, 118, 101, 110, 32, 105, 110, 32, 116, 120, 110, 32, 114, 101, 113, 117, 101, 115, 116])))) (x_assign rfl) ?_
  refine wn (hK15_ _ _ ?_)
  refine C_ret ?_
  refine R_any (v := (vT #[(Value.map none), (Value.iface 186 (vQ tb24_)), (Value.iface 133 (Value.string (ByteArray.mk #[101, 116, 99, 100, 115, 101, 114, 118, 101, 114, 58, 32, 100, 117, 112, 108, 105, 99, 97, 116, 101, 32, 107, 101, 121, 32, 103, 105, 118, 101, 110, 32, 105, 110, 32, 116, 120, 110, 32, 114, 101, 113, 117, 101, 115, 116])))])) (run_results3 rfl rfl rfl rfl) ⟨_, rfl, ?_⟩
  refine sv (v := (vT #[(Value.map none), (Value.iface 186 (vQ tb24_)), (Value.iface 133 (Value.string (ByteArray.mk #[101, 116, 99, 100, 115, 101, 114, 118, 101, 114, 58, 32, 100, 117, 112, 108, 105, 99, 97, 116, 101, 32, 107, 101, 121, 32, 103, 105, 118, 101, 110, 32, 105, 110, 32, 116, 120, 110, 32, 114, 101, 113, 117, 101, 115, 116])))])) (x_move rfl) ?_
  refine sv (v := (Value.map none)) (by kernel_rfl) ?_
  refine sv (v := (Value.iface 186 (vQ tb24_))) (by kernel_rfl) ?_
  refine sv (v := (Value.iface 133 (Value.string (ByteArray.mk #[101, 116, 99, 100, 115, 101, 114, 118, 101, 114, 58, 32, 100, 117, 112, 108, 105, 99, 97, 116, 101, 32, 107, 101, 121, 32, 103, 105, 118, 101, 110, 32, 105, 110, 32, 116, 120, 110, 32, 114, 101, 113, 117, 101, 115, 116])))) (by kernel_rfl) ?_
  refine sv (v := (Value.map none)) (x_assign rfl) ?_
  refine sv (v := (Value.iface 186 (vQ tb24_))) (x_assign rfl) ?_
  refine sv (v := (Value.iface 133 (Value.string (ByteArray.mk #[101, 116, 99, 100, 115, 101, 114, 118, 101, 114, 58, 32, 100, 117, 112, 108, 105, 99, 97, 116, 101, 32, 107, 101, 121, 32, 103, 105, 118, 101, 110, 32, 105, 110, 32, 116, 120, 110, 32, 114, 101, 113, 117, 101, 115, 116])))) (x_assign rfl) ?_
  refine wn (hK2_ _ _ ?_)
  refine C_seq (fun _ hK146_ => ?_)
  refine cr fun _ hK147_ => ?_
  refine sm (Value.iface 133 (Value.string (ByteArray.mk #[101, 116, 99, 100, 115, 101, 114, 118, 101, 114, 58, 32, 100, 117, 112, 108, 105, 99, 97, 116, 101, 32, 107, 101, 121, 32, 103, 105, 118, 101, 110, 32, 105, 110, 32, 116, 120, 110, 32, 114, 101, 113, 117, 101, 115, 116]))) ?_
  refine sv (v := (vB true)) (by kernel_rfl) ?_
  refine wn (hK147_ _ _ ?_)
  refine C_condT rfl ?_
  refine cr fun _ hK148_ => ?_
  refine sm (Value.iface 133 (Value.string (ByteArray.mk #[101, 116, 99, 100, 115, 101, 114, 118, 101, 114, 58, 32, 100, 117, 112, 108, 105, 99, 97, 116, 101, 32, 107, 101, 121, 32, 103, 105, 118, 101, 110, 32, 105, 110, 32, 116, 120, 110, 32, 114, 101, 113, 117, 101, 115, 116]))) ?_
  refine S_list (T_callW (al := [(Value.iface 133 (Value.string (ByteArray.mk #[101, 116, 99, 100, 115, 101, 114, 118, 101, 114, 58, 32, 100, 117, 112, 108, 105, 99, 97, 116, 101, 32, 107, 101, 121, 32, 103, 105, 118, 101, 110, 32, 105, 110, 32, 116, 120, 110, 32, 114, 101, 113, 117, 101, 115, 116])))]) rfl rfl cb40 (Calls.into (n := 27) func40 rfl ntmps40 rfl rfl ?_))
  refine cr fun _ hK149_ => ?_
  refine sv (v := (vI .i64 0)) (x_assign rfl) ?_
  refine wn (hK149_ _ _ ?_)
  refine C_seq (fun _ hK150_ => ?_)
  refine cr fun _ hK151_ => ?_
  refine sm (Value.iface 133 (Value.string (ByteArray.mk #[101, 116, 99, 100, 115, 101, 114, 118, 101, 114, 58, 32, 100, 117, 112, 108, 105, 99, 97, 116, 101, 32, 107, 101, 121, 32, 103, 105, 118, 101, 110, 32, 105, 110, 32, 116, 120, 110, 32, 114, 101, 113, 117, 101, 115, 116]))) ?_
  refine wn (hK151_ _ _ ?_)
  refine C_block ?_
  refine cr fun _ hK152_ => ?_
  refine sv (v := (vB false)) (by kernel_rfl) ?_
  refine sv (v := (vB false)) (x_assign rfl) ?_
  refine wn (hK152_ _ _ ?_)
  refine C_condF rfl ?_
  refine cr fun _ hK153_ => ?_
  refine sv (v := (Value.iface 133 (Value.string (ByteArray.mk #[101, 116, 99, 100, 115, 101, 114, 118, 101, 114, 58, 32, 107, 101, 121, 32, 105, 115, 32, 110, 111, 116, 32, 112, 114, 111, 118, 105, 100, 101, 100])))) (by kernel_rfl) ?_
  refine sv (v := (vB false)) (x_cast (x_eqK rfl rfl underlying84 (by kernel_rfl) underlying133) (congrArg vB (by simp only [toList_data]; decide))) ?_
  refine sv (v := (vB false)) (x_assign rfl) ?_
  refine wn (hK153_ _ _ ?_)
  refine C_condF rfl ?_
  refine cr fun _ hK154_ => ?_
  refine sv (v := (Value.iface 133 (Value.string (ByteArray.mk #[101, 116, 99, 100, 115, 101, 114, 118, 101, 114, 58, 32, 118, 97, 108, 117, 101, 32, 105, 115, 32, 112, 114, 111, 118, 105, 100, 101, 100])))) (by kernel_rfl) ?_
  refine sv (v := (vB false)) (x_cast (x_eqK rfl rfl underlying84 (by kernel_rfl) underlying133) (congrArg vB (by simp only [toList_data]; decide))) ?_
  refine sv (v := (vB false)) (x_assign rfl) ?_
  refine wn (hK154_ _ _ ?_)
  refine C_condF rfl ?_
  refine cr fun _ hK155_ => ?_
  refine sv (v := (Value.iface 133 (Value.string (ByteArray.mk #[101, 116, 99, 100, 115, 101, 114, 118, 101, 114, 58, 32, 108, 101, 97, 115, 101, 32, 105, 115, 32, 112, 114, 111, 118, 105, 100, 101, 100])))) (by kernel_rfl) ?_
  refine sv (v := (vB false)) (x_cast (x_eqK rfl rfl underlying84 (by kernel_rfl) underlying133) (congrArg vB (by simp only [toList_data]; decide))) ?_
  refine sv (v := (vB false)) (x_assign rfl) ?_
  refine wn (hK155_ _ _ ?_)
  refine C_condF rfl ?_
  refine cr fun _ hK156_ => ?_
  refine sv (v := (Value.iface 133 (Value.string (ByteArray.mk #[101, 116, 99, 100, 115, 101, 114, 118, 101, 114, 58, 32, 116, 111, 111, 32, 109, 97, 110, 121, 32, 111, 112, 101, 114, 97, 116, 105, 111, 110, 115, 32, 105, 110, 32, 116, 120, 110, 32, 114, 101, 113, 117, 101, 115, 116])))) (by kernel_rfl) ?_
  refine sv (v := (vB false)) (x_cast (x_eqK rfl rfl underlying84 (by kernel_rfl) underlying133) (congrArg vB (by simp only [toList_data]; decide))) ?_
  refine sv (v := (vB false)) (x_assign rfl) ?_
  refine wn (hK156_ _ _ ?_)
  refine C_condF rfl ?_
  refine cr fun _ hK157_ => ?_
  refine sv (v := (Value.iface 133 (Value.string (ByteArray.mk #[101, 116, 99, 100, 115, 101, 114, 118, 101, 114, 58, 32, 100, 117, 112, 108, 105, 99, 97, 116, 101, 32, 107, 101, 121, 32, 103, 105, 118, 101, 110, 32, 105, 110, 32, 116, 120, 110, 32, 114, 101, 113, 117, 101, 115, 116])))) (by kernel_rfl) ?_
  refine sv (v := (vB true)) (x_cast (x_eqK rfl rfl underlying84 (by kernel_rfl) underlying133) (congrArg vB (by simp only [toList_data]; decide))) ?_
  refine sv (v := (vB true)) (x_assign rfl) ?_
  refine wn (hK157_ _ _ ?_)
  refine C_condT rfl ?_
  refine cr fun _ hK158_ => ?_
  refine sv (v := (vI .i64 5)) (x_assign rfl) ?_
  refine wn (hK158_ _ _ ?_)
  refine C_ret (X_blkR (X_thenR ?_))
  refine R_any (v := (vI .i64 5)) (run_results1 rfl rfl) ⟨_, rfl, ?_⟩
  refine sv (v := (vS none 0 0)) (x_assign rfl) ?_
  refine sv (v := (vS none 0 0)) (x_assign rfl) ?_
  refine sv (v := (vI .i64 5)) (x_assign rfl) ?_
  refine wn (hK148_ _ _ ?_)
  refine C_ret (X_thenR ?_)
  refine R_any (v := (vT #[(vS none 0 0), (vS none 0 0), (vI .i64 5)])) (run_results3 rfl rfl rfl rfl) ?_
  exact ⟨R4_, _, _, rfl, hs3_, (.inl ⟨rfl, rfl, (he25_)⟩), S32_, H27_⟩
end Go.Proofs.Ytlnihndjepjagaa
