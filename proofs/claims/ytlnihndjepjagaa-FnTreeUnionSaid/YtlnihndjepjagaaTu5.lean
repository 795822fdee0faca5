/- Words, and proved steps, on which the proof leans. -/
import Derived.Test.YtlnihndjepjagaaTu4
set_option linter.unusedVariables false
set_option linter.unusedSimpArgs false
namespace Go.Proofs.Ytlnihndjepjagaa
open Go Go.RowKit Gw Try
open Go.Value renaming int → vI, bool → vB, slice → vS, pointer → vP, agg → vA, tuple → vT

structure SN where
  in__Begin : ByteArray
  in__End : ByteArray
  in__Point : Bool
  from_ : Int
  till : Int
def SN.cells (x : SN) : List Value := [(Value.string x.in__Begin), (Value.string x.in__End), (vB x.in__Point), (vI .i64 x.from_), (vI .i64 x.till)]
theorem SN.len (x : SN) : x.cells.length = 5 := rfl

theorem if_ff {α : Type} (a b : α) : (if (false : Bool) = true then a else b) = b := rfl
theorem if_tt {α : Type} (a b : α) : (if (true : Bool) = true then a else b) = a := rfl
/-! ### Intervals as data -/
def SN.plain (s : SN) : SN := if s.in__Point = true then ⟨s.in__Begin, s.in__Begin ++ ByteArray.mk #[0], false, s.from_, s.till⟩ else s
def SN.lo (ord : Int) (s : SN) : EK := ek ord s.plain.in__Begin s.plain.from_
def SN.hi (ord : Int) (s : SN) : EK := ek ord s.plain.in__End s.plain.till
def sAhead (ord : Int) (s t : SN) : Bool := decide (ecm ord (s.lo ord) (t.lo ord) < 0) || (decide (ecm ord (s.lo ord) (t.lo ord) = 0) && decide (ecm ord (s.hi ord) (t.hi ord) < 0))
def sMeet (ord : Int) (s t : SN) : Bool := decide (ecm ord (s.lo ord) (t.hi ord) < 0) && decide (ecm ord (t.lo ord) (s.hi ord) < 0)
def sSame (ord : Int) (s t : SN) : Bool := !(sAhead ord s t) && !(sAhead ord t s)
def sProper (ord : Int) (s : SN) : Bool := decide (ecm ord (s.lo ord) (s.hi ord) < 0)
theorem sSame_iff {ord : Int} {s t : SN} : sSame ord s t = true ↔ s.lo ord = t.lo ord ∧ s.hi ord = t.hi ord := by
  have f1 := ecm_flip ord (s.lo ord) (t.lo ord)
  have f2 := ecm_flip ord (s.hi ord) (t.hi ord)
  unfold sSame sAhead
  simp only [Bool.and_eq_true, Bool.not_eq_true', Bool.or_eq_false_iff, Bool.and_eq_false_iff, decide_eq_false_iff_not]
  constructor
  · intro h
    have e1 : ecm ord (s.lo ord) (t.lo ord) = 0 := by omega
    have e2 : ecm ord (s.hi ord) (t.hi ord) = 0 := by omega
    exact ⟨ecm_anti ord e1, ecm_anti ord e2⟩
  · rintro ⟨e1, e2⟩
    rw [e1, e2] at *
    rw [ecm_refl, ecm_refl]
    omega
attribute [irreducible] sAhead sMeet sSame
structure SnOk (ord : Int) (s : SN) : Prop where
  o : 0 ≤ ord ∧ ord ≤ 3
  b : s.in__Begin.size ≤ 2147483647
  e : s.in__End.size ≤ 2147483647
  n : ord = 3 → s.in__Point = false ∧ -2305843009213693952 ≤ s.from_ ∧ s.from_ ≤ 2305843009213693952 ∧ -2305843009213693952 ≤ s.till ∧ s.till ≤ 2305843009213693952
theorem lo_text {ord : Int} {s : SN} (h : ord ≠ 3) : s.lo ord = .t s.in__Begin.data.toList := by
  unfold SN.lo ek SN.plain
  rw [if_neg h]
  split <;> rfl
theorem hi_text {ord : Int} {s : SN} (h : ord ≠ 3) (hp : s.in__Point = false) : s.hi ord = .t s.in__End.data.toList := by
  unfold SN.hi ek SN.plain
  rw [if_neg h, if_neg (by rw [hp]; decide)]
theorem hi_point {ord : Int} {s : SN} (h : ord ≠ 3) (hp : s.in__Point = true) : s.hi ord = .t (s.in__Begin ++ ByteArray.mk #[0]).data.toList := by
  unfold SN.hi ek SN.plain
  rw [if_neg h, if_pos hp]
theorem lo_num {s : SN} : s.lo 3 = .n s.from_ := by
  unfold SN.lo ek SN.plain
  rw [if_pos rfl]
  split <;> rfl
theorem hi_num {s : SN} : s.hi 3 = .n s.till := by
  unfold SN.hi ek SN.plain
  rw [if_pos rfl]
  split <;> rfl
def EK.text : EK → ByteArray | .t x => ⟨x.toArray⟩ | .n _ => ⟨#[]⟩
def EK.num : EK → Int | .t _ => 0 | .n x => x
def ekSpan (b e : EK) : SN := ⟨b.text, e.text, false, b.num, e.num⟩
theorem text_t (s : ByteArray) : EK.text (.t s.data.toList) = s := by
  cases s; simp [EK.text]
theorem num_t (x : List UInt8) : EK.num (.t x) = 0 := rfl
theorem app0 (s : ByteArray) : (s ++ ByteArray.mk #[0]).data.toList = s.data.toList ++ [0] := by simp
theorem ints_app0 (s : ByteArray) : u8s (ints s ++ [0]) = (s ++ ByteArray.mk #[0]).data.toList := by
  rw [app0, ← u8s_ints s]
  simp [u8s]
theorem text_strN (A : List Int) : EK.text (.t (u8s A)) = strN A := by
  rw [← strN_u8s, text_t]


set_option maxHeartbeats 1600000 in
theorem spEnds (R : HP) (ord : Int) (s t : ByteArray) (a b : Int) :
    Tri Try.prog 77 #[(vI .i64 ord), (Value.string s), (Value.string t), (vI .i64 a), (vI .i64 b)] R [] (fun v__ post__ => v__ = (vI .i64 (ecm ord (ek ord s a) (ek ord t b))) ∧ post__ = []) := by
 refine Tri.into (n := 46) (al := [(vI .i64 ord), (Value.string s), (Value.string t), (vI .i64 a), (vI .i64 b)]) func77 rfl ntmps77 rfl rfl fun w F H => ?_
 refine cr fun _ hK1_ => ?_
 refine sv (v := (vI .i64 0)) (x_assign rfl) ?_
 refine wn (hK1_ _ _ ?_)
 refine cr fun _ hK2_ => ?_
 refine sm (Value.string s) ?_
 refine sm (Value.string t) ?_
 refine sv (v := (vB (Op.bytesLess s.toList t.toList))) (x_str rfl rfl rfl (by decide)) ?_
 refine sm (Value.string s) ?_
 refine sm (Value.string t) ?_
 refine sv (v := (vB (!(Op.bytesLess s.toList t.toList || s.toList == t.toList)))) (x_str rfl rfl rfl (by decide)) ?_
 refine sv (v := (vB (Op.bytesLess s.toList t.toList))) (x_assign rfl) ?_
 refine sv (v := (vB (!(Op.bytesLess s.toList t.toList || s.toList == t.toList)))) (x_assign rfl) ?_
 refine wn (hK2_ _ _ ?_)
 refine C_seq (fun _ hK3_ => ?_)
 refine C_block ?_
 refine cr fun _ hK4_ => ?_
 refine sm (vI .i64 ord) ?_
 refine sv (v := (vB (decide (ord = 3)))) (x_bin rfl rfl rfl) ?_
 refine sv (v := (vB (decide (ord = 3)))) (x_assign rfl) ?_
 refine wn (hK4_ _ _ ?_)
 refine C_cond (b := decide (ord = 3)) rfl (fun c5_t => ?_) (fun c5_f => ?_)
 ·have c5_tp : ord = 3 := of_decide_eq_true c5_t
  refine C_reg ?_
  refine sm (vI .i64 a) ?_
  refine sm (vI .i64 b) ?_
  refine sv (v := (vB (decide (a < b)))) (x_bin rfl rfl rfl) ?_
  refine sm (vI .i64 a) ?_
  refine sm (vI .i64 b) ?_
  refine sv (v := (vB (decide (b < a)))) (x_bin rfl rfl rfl) ?_
  refine sv (v := (vB (decide (a < b)))) (x_assign rfl) ?_
  refine sv (v := (vB (decide (b < a)))) (x_assign rfl) ?_
  refine wpList_nil (X_blkN (X_then (hK3_ _ _ ?_)))
  refine C_seq (fun _ hK6_ => ?_)
  refine C_block ?_
  refine cr fun _ hK7_ => ?_
  refine sm (vB (decide (a < b))) ?_
  refine sv (v := (vB (decide (a < b)))) (x_assign rfl) ?_
  refine wn (hK7_ _ _ ?_)
  refine C_cond (b := decide (a < b)) rfl (fun c8_t => ?_) (fun c8_f => ?_)
  ·have c8_tp : a < b := of_decide_eq_true c8_t
   refine cr fun _ hK9_ => ?_
   refine sv (v := (vI .i64 (-1))) (x_assign rfl) ?_
   refine wn (hK9_ _ _ ?_)
   refine C_ret (X_blkR (X_thenR ?_))
   refine R_any (v := (vI .i64 (-1))) (run_results1 rfl rfl) ?_
   exact ⟨_, _, rfl, ⟨(congrArg (vI .i64) ((by rw [ecm_ends]; unfold endsL endsM; rw [if_pos c5_tp, if_pos c5_tp, c8_t] <;> rfl) : -1 = ecm ord (ek ord s a) (ek ord t b))), rfl⟩, (Same.refl w), H⟩
  ·have c8_fp : ¬ (a < b) := of_decide_eq_false c8_f
   refine cr fun _ hK10_ => ?_
   refine sm (vB (decide (b < a))) ?_
   refine sv (v := (vB (decide (b < a)))) (x_assign rfl) ?_
   refine wn (hK10_ _ _ ?_)
   refine C_cond (b := decide (b < a)) rfl (fun c11_t => ?_) (fun c11_f => ?_)
   ·have c11_tp : b < a := of_decide_eq_true c11_t
    refine cr fun _ hK12_ => ?_
    refine sv (v := (vI .i64 1)) (x_assign rfl) ?_
    refine wn (hK12_ _ _ ?_)
    refine C_ret (X_blkR (X_thenR ?_))
    refine R_any (v := (vI .i64 1)) (run_results1 rfl rfl) ?_
    exact ⟨_, _, rfl, ⟨(congrArg (vI .i64) ((by rw [ecm_ends]; unfold endsL endsM; rw [if_pos c5_tp, if_pos c5_tp, c11_t, c8_f] <;> rfl) : 1 = ecm ord (ek ord s a) (ek ord t b))), rfl⟩, (Same.refl w), H⟩
   ·have c11_fp : ¬ (b < a) := of_decide_eq_false c11_f
    refine C_skip (X_blkN (X_then (hK6_ _ _ ?_)))
    refine cr fun _ hK13_ => ?_
    refine sv (v := (vI .i64 0)) (x_assign rfl) ?_
    refine wn (hK13_ _ _ ?_)
    refine C_ret ?_
    refine R_any (v := (vI .i64 0)) (run_results1 rfl rfl) ?_
    exact ⟨_, _, rfl, ⟨(congrArg (vI .i64) ((by rw [ecm_ends]; unfold endsL endsM; rw [if_pos c5_tp, if_pos c5_tp, c11_f, c8_f] <;> rfl) : 0 = ecm ord (ek ord s a) (ek ord t b))), rfl⟩, (Same.refl w), H⟩
 ·have c5_fp : ¬ (ord = 3) := of_decide_eq_false c5_f
  refine cr fun _ hK14_ => ?_
  refine sm (vI .i64 ord) ?_
  refine sv (v := (vB (decide (ord ≠ 0)))) (x_bin rfl rfl rfl) ?_
  refine sm (vB (decide (ord ≠ 0))) ?_
  rcases Bool.eq_false_or_eq_true (decide (ord ≠ 0)) with c15_t | c15_f
  ·have c15_tp : ord ≠ 0 := of_decide_eq_true c15_t
   refine S_yes (j := 2) (dj := 31) (b := true) rfl rfl (congrArg vB c15_t) (T_val (v := (Value.string s)) (x_move rfl) ?_)
   refine S_yes (j := 2) (dj := 31) (b := true) rfl rfl (congrArg vB c15_t) (T_val (v := (vB (s.toList == (ByteArray.mk #[]).toList))) (x_str rfl rfl rfl (by decide)) ?_)
   refine S_yes (j := 2) (dj := 31) (b := true) rfl rfl (congrArg vB c15_t) (T_val (v := (Value.string t)) (x_move rfl) ?_)
   refine S_yes (j := 2) (dj := 31) (b := true) rfl rfl (congrArg vB c15_t) (T_val (v := (vB (t.toList == (ByteArray.mk #[]).toList))) (x_str rfl rfl rfl (by decide)) ?_)
   refine S_yes (j := 2) (dj := 31) (b := true) rfl rfl (congrArg vB c15_t) (T_val (v := (vB (!((s.toList == (ByteArray.mk #[]).toList) == (t.toList == (ByteArray.mk #[]).toList))))) (x_neqB rfl rfl underlying4) ?_)
   refine S_list (T_pickT (v := (vB (!((s.toList == (ByteArray.mk #[]).toList) == (t.toList == (ByteArray.mk #[]).toList))))) (congrArg vB c15_t) rfl ?_)
   refine sv (v := (vB (!((s.toList == (ByteArray.mk #[]).toList) == (t.toList == (ByteArray.mk #[]).toList))))) (x_assign rfl) ?_
   refine wn (hK14_ _ _ ?_)
   refine C_cond (b := !((s.toList == (ByteArray.mk #[]).toList) == (t.toList == (ByteArray.mk #[]).toList))) rfl (fun c16_t => ?_) (fun c16_f => ?_)
   ·skip
    refine C_reg ?_
    refine sm (Value.string t) ?_
    refine sv (v := (vB (t.toList == (ByteArray.mk #[]).toList))) (x_str rfl rfl rfl (by decide)) ?_
    refine sm (Value.string s) ?_
    refine sv (v := (vB (s.toList == (ByteArray.mk #[]).toList))) (x_str rfl rfl rfl (by decide)) ?_
    refine sv (v := (vB (t.toList == (ByteArray.mk #[]).toList))) (x_assign rfl) ?_
    refine sv (v := (vB (s.toList == (ByteArray.mk #[]).toList))) (x_assign rfl) ?_
    refine wpList_nil (X_blkN (X_then (hK3_ _ _ ?_)))
    refine C_seq (fun _ hK17_ => ?_)
    refine C_block ?_
    refine cr fun _ hK18_ => ?_
    refine sm (vB (t.toList == (ByteArray.mk #[]).toList)) ?_
    refine sv (v := (vB (t.toList == (ByteArray.mk #[]).toList))) (x_assign rfl) ?_
    refine wn (hK18_ _ _ ?_)
    refine C_cond (b := t.toList == (ByteArray.mk #[]).toList) rfl (fun c19_t => ?_) (fun c19_f => ?_)
    ·skip
     refine cr fun _ hK20_ => ?_
     refine sv (v := (vI .i64 (-1))) (x_assign rfl) ?_
     refine wn (hK20_ _ _ ?_)
     refine C_ret (X_blkR (X_thenR ?_))
     refine R_any (v := (vI .i64 (-1))) (run_results1 rfl rfl) ?_
     exact ⟨_, _, rfl, ⟨(congrArg (vI .i64) ((by rw [ecm_ends]; unfold endsL endsM; rw [if_neg c5_fp, if_neg c5_fp, c15_t, Bool.true_and, c16_t, if_tt, if_tt, c19_t] <;> rfl) : -1 = ecm ord (ek ord s a) (ek ord t b))), rfl⟩, (Same.refl w), H⟩
    ·skip
     refine cr fun _ hK21_ => ?_
     refine sm (vB (s.toList == (ByteArray.mk #[]).toList)) ?_
     refine sv (v := (vB (s.toList == (ByteArray.mk #[]).toList))) (x_assign rfl) ?_
     refine wn (hK21_ _ _ ?_)
     refine C_cond (b := s.toList == (ByteArray.mk #[]).toList) rfl (fun c22_t => ?_) (fun c22_f => ?_)
     ·skip
      refine cr fun _ hK23_ => ?_
      refine sv (v := (vI .i64 1)) (x_assign rfl) ?_
      refine wn (hK23_ _ _ ?_)
      refine C_ret (X_blkR (X_thenR ?_))
      refine R_any (v := (vI .i64 1)) (run_results1 rfl rfl) ?_
      exact ⟨_, _, rfl, ⟨(congrArg (vI .i64) ((by rw [ecm_ends]; unfold endsL endsM; rw [if_neg c5_fp, if_neg c5_fp, c15_t, Bool.true_and, c16_t, if_tt, if_tt, c22_t, c19_f] <;> rfl) : 1 = ecm ord (ek ord s a) (ek ord t b))), rfl⟩, (Same.refl w), H⟩
     ·skip
      refine C_skip (X_blkN (X_then (hK17_ _ _ ?_)))
      refine cr fun _ hK24_ => ?_
      refine sv (v := (vI .i64 0)) (x_assign rfl) ?_
      refine wn (hK24_ _ _ ?_)
      refine C_ret ?_
      refine R_any (v := (vI .i64 0)) (run_results1 rfl rfl) ?_
      exact ⟨_, _, rfl, ⟨(congrArg (vI .i64) ((by rw [ecm_ends]; unfold endsL endsM; rw [if_neg c5_fp, if_neg c5_fp, c15_t, Bool.true_and, c16_t, if_tt, if_tt, c22_f, c19_f] <;> rfl) : 0 = ecm ord (ek ord s a) (ek ord t b))), rfl⟩, (Same.refl w), H⟩
   ·skip
    refine C_skip (X_blkN (X_then (hK3_ _ _ ?_)))
    refine C_seq (fun _ hK25_ => ?_)
    refine C_block ?_
    refine cr fun _ hK26_ => ?_
    refine sm (vB (Op.bytesLess s.toList t.toList)) ?_
    refine sv (v := (vB (Op.bytesLess s.toList t.toList))) (x_assign rfl) ?_
    refine wn (hK26_ _ _ ?_)
    refine C_cond (b := Op.bytesLess s.toList t.toList) rfl (fun c27_t => ?_) (fun c27_f => ?_)
    ·skip
     refine cr fun _ hK28_ => ?_
     refine sv (v := (vI .i64 (-1))) (x_assign rfl) ?_
     refine wn (hK28_ _ _ ?_)
     refine C_ret (X_blkR (X_thenR ?_))
     refine R_any (v := (vI .i64 (-1))) (run_results1 rfl rfl) ?_
     exact ⟨_, _, rfl, ⟨(congrArg (vI .i64) ((by rw [ecm_ends]; unfold endsL endsM; rw [if_neg c5_fp, if_neg c5_fp, c15_t, Bool.true_and, c16_f, if_ff, if_ff, c27_t] <;> rfl) : -1 = ecm ord (ek ord s a) (ek ord t b))), rfl⟩, (Same.refl w), H⟩
    ·skip
     refine cr fun _ hK29_ => ?_
     refine sm (vB (!(Op.bytesLess s.toList t.toList || s.toList == t.toList))) ?_
     refine sv (v := (vB (!(Op.bytesLess s.toList t.toList || s.toList == t.toList)))) (x_assign rfl) ?_
     refine wn (hK29_ _ _ ?_)
     refine C_cond (b := !(Op.bytesLess s.toList t.toList || s.toList == t.toList)) rfl (fun c30_t => ?_) (fun c30_f => ?_)
     ·skip
      refine cr fun _ hK31_ => ?_
      refine sv (v := (vI .i64 1)) (x_assign rfl) ?_
      refine wn (hK31_ _ _ ?_)
      refine C_ret (X_blkR (X_thenR ?_))
      refine R_any (v := (vI .i64 1)) (run_results1 rfl rfl) ?_
      exact ⟨_, _, rfl, ⟨(congrArg (vI .i64) ((by rw [ecm_ends]; unfold endsL endsM; rw [if_neg c5_fp, if_neg c5_fp, c15_t, Bool.true_and, c16_f, if_ff, if_ff, c30_t, c27_f] <;> rfl) : 1 = ecm ord (ek ord s a) (ek ord t b))), rfl⟩, (Same.refl w), H⟩
     ·skip
      refine C_skip (X_blkN (X_then (hK25_ _ _ ?_)))
      refine cr fun _ hK32_ => ?_
      refine sv (v := (vI .i64 0)) (x_assign rfl) ?_
      refine wn (hK32_ _ _ ?_)
      refine C_ret ?_
      refine R_any (v := (vI .i64 0)) (run_results1 rfl rfl) ?_
      exact ⟨_, _, rfl, ⟨(congrArg (vI .i64) ((by rw [ecm_ends]; unfold endsL endsM; rw [if_neg c5_fp, if_neg c5_fp, c15_t, Bool.true_and, c16_f, if_ff, if_ff, c30_f, c27_f] <;> rfl) : 0 = ecm ord (ek ord s a) (ek ord t b))), rfl⟩, (Same.refl w), H⟩
  ·have c15_fp : ¬ (ord ≠ 0) := of_decide_eq_false c15_f
   refine S_no (j := 2) (dj := 31) (b := false) rfl rfl (congrArg vB c15_f) (by decide) ?_
   refine S_no (j := 2) (dj := 31) (b := false) rfl rfl (congrArg vB c15_f) (by decide) ?_
   refine S_no (j := 2) (dj := 31) (b := false) rfl rfl (congrArg vB c15_f) (by decide) ?_
   refine S_no (j := 2) (dj := 31) (b := false) rfl rfl (congrArg vB c15_f) (by decide) ?_
   refine S_no (j := 2) (dj := 31) (b := false) rfl rfl (congrArg vB c15_f) (by decide) ?_
   refine S_list (T_pickF (v := (vB false)) (congrArg vB c15_f) rfl ?_)
   refine sv (v := (vB false)) (x_assign rfl) ?_
   refine wn (hK14_ _ _ ?_)
   refine C_condF rfl ?_
   refine C_skip (X_blkN (X_then (hK3_ _ _ ?_)))
   refine C_seq (fun _ hK33_ => ?_)
   refine C_block ?_
   refine cr fun _ hK34_ => ?_
   refine sm (vB (Op.bytesLess s.toList t.toList)) ?_
   refine sv (v := (vB (Op.bytesLess s.toList t.toList))) (x_assign rfl) ?_
   refine wn (hK34_ _ _ ?_)
   refine C_cond (b := Op.bytesLess s.toList t.toList) rfl (fun c35_t => ?_) (fun c35_f => ?_)
   ·skip
    refine cr fun _ hK36_ => ?_
    refine sv (v := (vI .i64 (-1))) (x_assign rfl) ?_
    refine wn (hK36_ _ _ ?_)
    refine C_ret (X_blkR (X_thenR ?_))
    refine R_any (v := (vI .i64 (-1))) (run_results1 rfl rfl) ?_
    exact ⟨_, _, rfl, ⟨(congrArg (vI .i64) ((by rw [ecm_ends]; unfold endsL endsM; rw [if_neg c5_fp, if_neg c5_fp, c15_f, Bool.false_and, if_ff, if_ff, c35_t] <;> rfl) : -1 = ecm ord (ek ord s a) (ek ord t b))), rfl⟩, (Same.refl w), H⟩
   ·skip
    refine cr fun _ hK37_ => ?_
    refine sm (vB (!(Op.bytesLess s.toList t.toList || s.toList == t.toList))) ?_
    refine sv (v := (vB (!(Op.bytesLess s.toList t.toList || s.toList == t.toList)))) (x_assign rfl) ?_
    refine wn (hK37_ _ _ ?_)
    refine C_cond (b := !(Op.bytesLess s.toList t.toList || s.toList == t.toList)) rfl (fun c38_t => ?_) (fun c38_f => ?_)
    ·skip
     refine cr fun _ hK39_ => ?_
     refine sv (v := (vI .i64 1)) (x_assign rfl) ?_
     refine wn (hK39_ _ _ ?_)
     refine C_ret (X_blkR (X_thenR ?_))
     refine R_any (v := (vI .i64 1)) (run_results1 rfl rfl) ?_
     exact ⟨_, _, rfl, ⟨(congrArg (vI .i64) ((by rw [ecm_ends]; unfold endsL endsM; rw [if_neg c5_fp, if_neg c5_fp, c15_f, Bool.false_and, if_ff, if_ff, c38_t, c35_f] <;> rfl) : 1 = ecm ord (ek ord s a) (ek ord t b))), rfl⟩, (Same.refl w), H⟩
    ·skip
     refine C_skip (X_blkN (X_then (hK33_ _ _ ?_)))
     refine cr fun _ hK40_ => ?_
     refine sv (v := (vI .i64 0)) (x_assign rfl) ?_
     refine wn (hK40_ _ _ ?_)
     refine C_ret ?_
     refine R_any (v := (vI .i64 0)) (run_results1 rfl rfl) ?_
     exact ⟨_, _, rfl, ⟨(congrArg (vI .i64) ((by rw [ecm_ends]; unfold endsL endsM; rw [if_neg c5_fp, if_neg c5_fp, c15_f, Bool.false_and, if_ff, if_ff, c38_f, c35_f] <;> rfl) : 0 = ecm ord (ek ord s a) (ek ord t b))), rfl⟩, (Same.refl w), H⟩

set_option maxHeartbeats 1600000 in
theorem spPlain (R : HP) (s : SN) (hb : s.in__Begin.size ≤ 2147483647) :
    Tri Try.prog 76 #[(vA #[(Value.string s.in__Begin), (Value.string s.in__End), (vB s.in__Point), (vI .i64 s.from_), (vI .i64 s.till)])] R [] (fun v__ post__ => v__ = (vA #[(Value.string ((SN.plain s).in__Begin)), (Value.string ((SN.plain s).in__End)), (vB ((SN.plain s).in__Point)), (vI .i64 ((SN.plain s).from_)), (vI .i64 ((SN.plain s).till))]) ∧ post__ = []) := by
 refine Tri.into (n := 16) (al := [(vA #[(Value.string s.in__Begin), (Value.string s.in__End), (vB s.in__Point), (vI .i64 s.from_), (vI .i64 s.till)])]) func76 rfl ntmps76 rfl rfl fun w F H => ?_
 refine cr fun _ hK1_ => ?_
 refine S_list (T_box (v := (vA #[(Value.string s.in__Begin), (Value.string s.in__End), (vB s.in__Point), (vI .i64 s.from_), (vI .i64 s.till)])) rfl H ?_)
 intro b2_ w3_ S5_ H4_
 have S6_ := Same.trans (Same.refl w) S5_
 refine S_list (T_alloc z44 H4_ ?_)
 intro b7_ w8_ S10_ H9_
 have S11_ := Same.trans S6_ S10_
 refine wn (hK1_ _ _ ?_)
 refine C_seq (fun _ hK12_ => ?_)
 refine cr fun _ hK13_ => ?_
 refine sv (v := (vQ b2_)) (by kernel_rfl) ?_
 refine sv (v := (vP (some ⟨b2_, 2, none⟩))) (by kernel_rfl) ?_
 refine sv (v := (vB s.in__Point)) (x_load1 rfl underlying4 rfl ((Holds.rd H9_ 1 rfl) 2 (vB s.in__Point) rfl)) ?_
 refine wn (hK13_ _ _ ?_)
 refine C_cond (b := s.in__Point) rfl (fun c14_t => ?_) (fun c14_f => ?_)
 ·skip
  refine C_reg ?_
  refine sv (v := (vQ b2_)) (by kernel_rfl) ?_
  refine sv (v := (vQ b2_)) (by kernel_rfl) ?_
  refine sv (v := (Value.string s.in__Begin)) (x_load1 rfl underlying9 rfl ((Holds.rd H9_ 1 rfl) 0 (Value.string s.in__Begin) rfl)) ?_
  refine sv (v := (vQ b2_)) (by kernel_rfl) ?_
  refine sv (v := (vQ b2_)) (by kernel_rfl) ?_
  refine sv (v := (Value.string s.in__Begin)) (x_load1 rfl underlying9 rfl ((Holds.rd H9_ 1 rfl) 0 (Value.string s.in__Begin) rfl)) ?_
  refine sv (v := (Value.string (s.in__Begin ++ (ByteArray.mk #[0])))) (x_str rfl rfl (so_add (by have h1__ : (ByteArray.mk #[0]).size = 1 := rfl; omega)) (by decide)) ?_
  refine sv (v := (vA #[(Value.string s.in__Begin), (Value.string (s.in__Begin ++ (ByteArray.mk #[0]))), (vB false)])) (by kernel_rfl) ?_
  refine sv (v := (vQ b2_)) (by kernel_rfl) ?_
  refine S_list0 (T_storeN (vs := [(Value.string s.in__Begin), (Value.string (s.in__Begin ++ (ByteArray.mk #[0]))), (vB false)]) rfl rfl z42 rfl (by simp [Value.oneCell']) H9_ 1 rfl (Nat.le_of_ble_eq_true (by rfl)) ?_)
  intro w15_ S17_ H16_
  have S18_ := Same.trans S11_ S17_
  refine wn (hK12_ _ _ ?_)
  refine cr fun _ hK19_ => ?_
  refine sv (v := (vA #[(Value.string s.in__Begin), (Value.string (s.in__Begin ++ (ByteArray.mk #[0]))), (vB false), (vI .i64 s.from_), (vI .i64 s.till)])) (x_loadN (vs := [(Value.string s.in__Begin), (Value.string (s.in__Begin ++ (ByteArray.mk #[0]))), (vB false), (vI .i64 s.from_), (vI .i64 s.till)]) rfl underlying44 rfl z44 rfl (Rd.cells (Holds.rd H16_ 1 rfl) 0 rfl)) ?_
  refine S_list0 (T_storeN (vs := [(Value.string s.in__Begin), (Value.string (s.in__Begin ++ (ByteArray.mk #[0]))), (vB false), (vI .i64 s.from_), (vI .i64 s.till)]) rfl rfl z44 rfl (by simp [Value.oneCell']) H16_ 0 rfl (Nat.le_of_ble_eq_true (by rfl)) ?_)
  intro w20_ S22_ H21_
  have S23_ := Same.trans S18_ S22_
  refine wn (hK19_ _ _ ?_)
  refine C_ret ?_
  refine R_any (v := (vA #[(Value.string s.in__Begin), (Value.string (s.in__Begin ++ (ByteArray.mk #[0]))), (vB false), (vI .i64 s.from_), (vI .i64 s.till)])) (run_results1 rfl ⟨_, rfl, load_resN underlying44 rfl z44 rfl (vs := [(Value.string s.in__Begin), (Value.string (s.in__Begin ++ (ByteArray.mk #[0]))), (vB false), (vI .i64 s.from_), (vI .i64 s.till)]) (Holds.cl_cells H21_ 0 rfl 0 rfl)⟩) ?_
  have H24_ := Holds.pkF H21_ [2] 2
  exact ⟨_, _, rfl, ⟨(congrArg (fun l => vA (List.toArray l)) (lcons (congrArg Value.string ((by unfold SN.plain; simp [c14_t]) : s.in__Begin = ((SN.plain s).in__Begin))) (lcons (congrArg Value.string ((by unfold SN.plain; simp [c14_t]) : (s.in__Begin ++ (ByteArray.mk #[0])) = ((SN.plain s).in__End))) (lcons (congrArg vB ((by unfold SN.plain; simp [c14_t]) : false = ((SN.plain s).in__Point))) (lcons (congrArg (vI .i64) ((by unfold SN.plain; simp [c14_t]) : s.from_ = (SN.plain s).from_)) (lcons (congrArg (vI .i64) ((by unfold SN.plain; simp [c14_t]) : s.till = (SN.plain s).till)) rfl)))))), rfl⟩, S23_, H24_⟩
 ·skip
  refine C_skip (X_then (hK12_ _ _ ?_))
  refine cr fun _ hK25_ => ?_
  refine sv (v := (vA #[(Value.string s.in__Begin), (Value.string s.in__End), (vB s.in__Point), (vI .i64 s.from_), (vI .i64 s.till)])) (x_loadN (vs := [(Value.string s.in__Begin), (Value.string s.in__End), (vB s.in__Point), (vI .i64 s.from_), (vI .i64 s.till)]) rfl underlying44 rfl z44 rfl (Rd.cells (Holds.rd H9_ 1 rfl) 0 rfl)) ?_
  refine S_list0 (T_storeN (vs := [(Value.string s.in__Begin), (Value.string s.in__End), (vB s.in__Point), (vI .i64 s.from_), (vI .i64 s.till)]) rfl rfl z44 rfl (by simp [Value.oneCell']) H9_ 0 rfl (Nat.le_of_ble_eq_true (by rfl)) ?_)
  intro w26_ S28_ H27_
  have S29_ := Same.trans S11_ S28_
  refine wn (hK25_ _ _ ?_)
  refine C_ret ?_
  refine R_any (v := (vA #[(Value.string s.in__Begin), (Value.string s.in__End), (vB s.in__Point), (vI .i64 s.from_), (vI .i64 s.till)])) (run_results1 rfl ⟨_, rfl, load_resN underlying44 rfl z44 rfl (vs := [(Value.string s.in__Begin), (Value.string s.in__End), (vB s.in__Point), (vI .i64 s.from_), (vI .i64 s.till)]) (Holds.cl_cells H27_ 0 rfl 0 rfl)⟩) ?_
  have H30_ := Holds.pkF H27_ [2] 2
  exact ⟨_, _, rfl, ⟨(congrArg (fun l => vA (List.toArray l)) (lcons (congrArg Value.string ((by unfold SN.plain; simp [c14_f]) : s.in__Begin = ((SN.plain s).in__Begin))) (lcons (congrArg Value.string ((by unfold SN.plain; simp [c14_f]) : s.in__End = ((SN.plain s).in__End))) (lcons (congrArg vB ((by unfold SN.plain; simp [c14_f]) : s.in__Point = ((SN.plain s).in__Point))) (lcons (congrArg (vI .i64) ((by unfold SN.plain; simp [c14_f]) : s.from_ = (SN.plain s).from_)) (lcons (congrArg (vI .i64) ((by unfold SN.plain; simp [c14_f]) : s.till = (SN.plain s).till)) rfl)))))), rfl⟩, S29_, H30_⟩

set_option maxHeartbeats 1600000 in
theorem spAhead (R : HP) (ord : Int) (s t : SN) (hs : s.in__Begin.size ≤ 2147483647) (ht : t.in__Begin.size ≤ 2147483647) :
    Tri Try.prog 55 #[(vI .i64 ord), (vA #[(Value.string s.in__Begin), (Value.string s.in__End), (vB s.in__Point), (vI .i64 s.from_), (vI .i64 s.till)]), (vA #[(Value.string t.in__Begin), (Value.string t.in__End), (vB t.in__Point), (vI .i64 t.from_), (vI .i64 t.till)])] R [] (fun v__ post__ => v__ = (vB (sAhead ord s t)) ∧ post__ = []) := by
 refine Tri.into (n := 47) (al := [(vI .i64 ord), (vA #[(Value.string s.in__Begin), (Value.string s.in__End), (vB s.in__Point), (vI .i64 s.from_), (vI .i64 s.till)]), (vA #[(Value.string t.in__Begin), (Value.string t.in__End), (vB t.in__Point), (vI .i64 t.from_), (vI .i64 t.till)])]) func55 rfl ntmps55 rfl rfl fun w F H => ?_
 refine cr fun _ hK1_ => ?_
 refine S_list (T_box (v := (vA #[(Value.string s.in__Begin), (Value.string s.in__End), (vB s.in__Point), (vI .i64 s.from_), (vI .i64 s.till)])) rfl H ?_)
 intro b2_ w3_ S5_ H4_
 have S6_ := Same.trans (Same.refl w) S5_
 refine S_list (T_box (v := (vA #[(Value.string t.in__Begin), (Value.string t.in__End), (vB t.in__Point), (vI .i64 t.from_), (vI .i64 t.till)])) rfl H4_ ?_)
 intro b7_ w8_ S10_ H9_
 have S11_ := Same.trans S6_ S10_
 refine sv (v := (vB false)) (x_assign rfl) ?_
 refine wn (hK1_ _ _ ?_)
 refine C_seq (fun _ hK12_ => ?_)
 refine A_start (S := fun w => Rd b7_ [(Value.string t.in__Begin), (Value.string t.in__End), (vB t.in__Point), (vI .i64 t.from_), (vI .i64 t.till)] w ∧ Rd b2_ [(Value.string s.in__Begin), (Value.string s.in__End), (vB s.in__Point), (vI .i64 s.from_), (vI .i64 s.till)] w ∧ Sub R (hp w)) (N := 8) foll rfl rfl ?_
 have H13_ := Holds.drew_ H9_
 refine A_cut #[true, true, true, true, true, true, true, false] 1 (fun a__ w1__ => ∃ b28_ : Nat, ∃ b33_ : Nat, ∃ h : Env, a__ = mkA 47 (upd (upd (upd (upd (upd h 0 (vI .i64 ord)) 6 (vB false)) 7 (vQ b28_)) 8 (vQ b33_)) 13 (vA #[(Value.string ((SN.plain t).in__Begin)), (Value.string ((SN.plain t).in__End)), (vB ((SN.plain t).in__Point)), (vI .i64 ((SN.plain t).from_)), (vI .i64 ((SN.plain t).till))])) [] ∧ Holds w1__ (cl b33_ 44 [(Value.string ByteArray.empty), (Value.string ByteArray.empty), (vB false), (vI .i64 0), (vI .i64 0)] :: cl b28_ 44 [(Value.string ((SN.plain s).in__Begin)), (Value.string ((SN.plain s).in__End)), (vB ((SN.plain s).in__Point)), (vI .i64 ((SN.plain s).from_)), (vI .i64 ((SN.plain s).till))] :: ro R :: cl b7_ 44 [(Value.string t.in__Begin), (Value.string t.in__End), (vB t.in__Point), (vI .i64 t.from_), (vI .i64 t.till)] :: cl b2_ 44 [(Value.string s.in__Begin), (Value.string s.in__End), (vB s.in__Point), (vI .i64 s.from_), (vI .i64 s.till)] :: F) ∧ Same w w1__) ?_ ?_
 ·rintro _ w151_ ⟨b28_, b33_, h, rfl, H152_, S153_⟩
  refine A_ready (i := 7) (rs := []) (by kernel_rfl) ?_
  refine AllR.cons ?_ AllR.nil
  refine A_op0 (ls' := #[true, true, true, true, true, true, true, true]) rfl (by kernel_rfl) (T_storeN (vs := [(Value.string ((SN.plain t).in__Begin)), (Value.string ((SN.plain t).in__End)), (vB ((SN.plain t).in__Point)), (vI .i64 ((SN.plain t).from_)), (vI .i64 ((SN.plain t).till))]) rfl rfl z44 rfl (by simp [Value.oneCell']) H152_ 0 rfl (Nat.le_of_ble_eq_true (by rfl)) ?_)
  intro w154_ S156_ H155_
  have S157_ := Same.trans S153_ S156_
  refine ⟨⟨Holds.rd H155_ 3 rfl, Holds.rd H155_ 4 rfl, (Holds.ro_at H155_ 2 rfl)⟩, ?_⟩
  refine A_done (by kernel_rfl) ?_
  refine (X_then (hK12_ _ _ ?_))
  refine cr fun _ hK158_ => ?_
  refine sm (vI .i64 ord) ?_
  refine sv (v := (vQ b28_)) (by kernel_rfl) ?_
  refine sv (v := (vQ b28_)) (by kernel_rfl) ?_
  refine sv (v := (Value.string ((SN.plain s).in__Begin))) (x_load1 rfl underlying9 rfl ((Holds.rd H155_ 1 rfl) 0 (Value.string ((SN.plain s).in__Begin)) rfl)) ?_
  refine sv (v := (vQ b33_)) (by kernel_rfl) ?_
  refine sv (v := (vQ b33_)) (by kernel_rfl) ?_
  refine sv (v := (Value.string ((SN.plain t).in__Begin))) (x_load1 rfl underlying9 rfl ((Holds.rd H155_ 0 rfl) 0 (Value.string ((SN.plain t).in__Begin)) rfl)) ?_
  refine sv (v := (vP (some ⟨b28_, 3, none⟩))) (by kernel_rfl) ?_
  refine sv (v := (vI .i64 ((SN.plain s).from_))) (x_load1 rfl underlying2 rfl ((Holds.rd H155_ 1 rfl) 3 (vI .i64 ((SN.plain s).from_)) rfl)) ?_
  refine sv (v := (vP (some ⟨b33_, 3, none⟩))) (by kernel_rfl) ?_
  refine sv (v := (vI .i64 ((SN.plain t).from_))) (x_load1 rfl underlying2 rfl ((Holds.rd H155_ 0 rfl) 3 (vI .i64 ((SN.plain t).from_)) rfl)) ?_
  have H160_ := ((Holds.bring H155_ 2 rfl) :)
  refine S_list (T_call (al := [(vI .i64 ord), (Value.string ((SN.plain s).in__Begin)), (Value.string ((SN.plain t).in__Begin)), (vI .i64 ((SN.plain s).from_)), (vI .i64 ((SN.plain t).from_))]) (pre := []) rfl rfl cb77 (spEnds R ord ((SN.plain s).in__Begin) ((SN.plain t).in__Begin) ((SN.plain s).from_) ((SN.plain t).from_)) H160_ ?_)
  rintro v159_ p164_ w161_ ⟨rfl, rfl⟩ S163_ H162_
  have S165_ := Same.trans S157_ S163_
  refine sv (v := (vI .i64 (ecm ord (ek ord ((SN.plain s).in__Begin) ((SN.plain s).from_)) (ek ord ((SN.plain t).in__Begin) ((SN.plain t).from_))))) (x_assign rfl) ?_
  refine wn (hK158_ _ _ ?_)
  refine cr fun _ hK166_ => ?_
  refine sv (v := (vI .i64 (ecm ord (ek ord ((SN.plain s).in__Begin) ((SN.plain s).from_)) (ek ord ((SN.plain t).in__Begin) ((SN.plain t).from_))))) (x_move rfl) ?_
  refine sv (v := (vB (decide (ecm ord (ek ord ((SN.plain s).in__Begin) ((SN.plain s).from_)) (ek ord ((SN.plain t).in__Begin) ((SN.plain t).from_)) < 0)))) (x_bin rfl rfl rfl) ?_
  refine sv (v := (vB (decide (ecm ord (ek ord ((SN.plain s).in__Begin) ((SN.plain s).from_)) (ek ord ((SN.plain t).in__Begin) ((SN.plain t).from_)) < 0)))) (x_move rfl) ?_
  rcases Bool.eq_false_or_eq_true (decide (ecm ord (ek ord ((SN.plain s).in__Begin) ((SN.plain s).from_)) (ek ord ((SN.plain t).in__Begin) ((SN.plain t).from_)) < 0)) with c167_t | c167_f
  ·have c167_tp : ecm ord (ek ord ((SN.plain s).in__Begin) ((SN.plain s).from_)) (ek ord ((SN.plain t).in__Begin) ((SN.plain t).from_)) < 0 := of_decide_eq_true c167_t
   refine S_no (j := 2) (dj := 28) (b := true) rfl rfl (congrArg vB c167_t) (by decide) ?_
   refine S_no (j := 2) (dj := 28) (b := true) rfl rfl (congrArg vB c167_t) (by decide) ?_
   refine S_no (j := 2) (dj := 28) (b := true) rfl rfl (congrArg vB c167_t) (by decide) ?_
   refine S_noU (j := 5) (dj := 31) rfl rfl rfl ?_
   refine S_noU (j := 5) (dj := 31) rfl rfl rfl ?_
   refine S_noU (j := 5) (dj := 31) rfl rfl rfl ?_
   refine S_noU (j := 5) (dj := 31) rfl rfl rfl ?_
   refine S_noU (j := 5) (dj := 31) rfl rfl rfl ?_
   refine S_noU (j := 5) (dj := 31) rfl rfl rfl ?_
   refine S_noU (j := 5) (dj := 31) rfl rfl rfl ?_
   refine S_noU (j := 5) (dj := 31) rfl rfl rfl ?_
   refine S_noU (j := 5) (dj := 31) rfl rfl rfl ?_
   refine S_noU (j := 5) (dj := 31) rfl rfl rfl ?_
   refine S_noU (j := 5) (dj := 31) rfl rfl rfl ?_
   refine S_noU (j := 5) (dj := 31) rfl rfl rfl ?_
   refine S_noU (j := 5) (dj := 31) rfl rfl rfl ?_
   refine S_no (j := 2) (dj := 28) (b := true) rfl rfl (congrArg vB c167_t) (by decide) ?_
   refine S_list (T_pickT (v := (vB true)) (congrArg vB c167_t) rfl ?_)
   refine sv (v := (vB true)) (x_assign rfl) ?_
   refine wn (hK166_ _ _ ?_)
   refine C_ret ?_
   refine R_any (v := (vB true)) (run_results1 rfl rfl) ?_
   have H168_ := Holds.pkF H162_ [0] 4
   exact ⟨_, _, rfl, ⟨(congrArg vB ((by unfold sAhead SN.lo SN.hi; simp [c167_t]) : true = (sAhead ord s t))), rfl⟩, S165_, H168_⟩
  ·have c167_fp : ¬ (ecm ord (ek ord ((SN.plain s).in__Begin) ((SN.plain s).from_)) (ek ord ((SN.plain t).in__Begin) ((SN.plain t).from_)) < 0) := of_decide_eq_false c167_f
   refine S_yes (j := 2) (dj := 28) (b := false) rfl rfl (congrArg vB c167_f) (T_val (v := (vI .i64 (ecm ord (ek ord ((SN.plain s).in__Begin) ((SN.plain s).from_)) (ek ord ((SN.plain t).in__Begin) ((SN.plain t).from_))))) (x_move rfl) ?_)
   refine S_yes (j := 2) (dj := 28) (b := false) rfl rfl (congrArg vB c167_f) (T_val (v := (vB (decide (ecm ord (ek ord ((SN.plain s).in__Begin) ((SN.plain s).from_)) (ek ord ((SN.plain t).in__Begin) ((SN.plain t).from_)) = 0)))) (x_bin rfl rfl rfl) ?_)
   refine S_yes (j := 2) (dj := 28) (b := false) rfl rfl (congrArg vB c167_f) (T_val (v := (vB (decide (ecm ord (ek ord ((SN.plain s).in__Begin) ((SN.plain s).from_)) (ek ord ((SN.plain t).in__Begin) ((SN.plain t).from_)) = 0)))) (x_move rfl) ?_)
   rcases Bool.eq_false_or_eq_true (decide (ecm ord (ek ord ((SN.plain s).in__Begin) ((SN.plain s).from_)) (ek ord ((SN.plain t).in__Begin) ((SN.plain t).from_)) = 0)) with c169_t | c169_f
   ·have c169_tp : ecm ord (ek ord ((SN.plain s).in__Begin) ((SN.plain s).from_)) (ek ord ((SN.plain t).in__Begin) ((SN.plain t).from_)) = 0 := of_decide_eq_true c169_t
    refine S_yes (j := 5) (dj := 31) (b := true) rfl rfl (congrArg vB c169_t) (T_val (v := (vI .i64 ord)) (x_move rfl) ?_)
    refine S_yes (j := 5) (dj := 31) (b := true) rfl rfl (congrArg vB c169_t) (T_val (v := (vQ b28_)) (by kernel_rfl) ?_)
    refine S_yes (j := 5) (dj := 31) (b := true) rfl rfl (congrArg vB c169_t) (T_val (v := (vP (some ⟨b28_, 1, none⟩))) (by kernel_rfl) ?_)
    refine S_yes (j := 5) (dj := 31) (b := true) rfl rfl (congrArg vB c169_t) (T_val (v := (Value.string ((SN.plain s).in__End))) (x_load1 rfl underlying9 rfl ((Holds.rd H162_ 2 rfl) 1 (Value.string ((SN.plain s).in__End)) rfl)) ?_)
    refine S_yes (j := 5) (dj := 31) (b := true) rfl rfl (congrArg vB c169_t) (T_val (v := (vQ b33_)) (by kernel_rfl) ?_)
    refine S_yes (j := 5) (dj := 31) (b := true) rfl rfl (congrArg vB c169_t) (T_val (v := (vP (some ⟨b33_, 1, none⟩))) (by kernel_rfl) ?_)
    refine S_yes (j := 5) (dj := 31) (b := true) rfl rfl (congrArg vB c169_t) (T_val (v := (Value.string ((SN.plain t).in__End))) (x_load1 rfl underlying9 rfl ((Holds.rd H162_ 1 rfl) 1 (Value.string ((SN.plain t).in__End)) rfl)) ?_)
    refine S_yes (j := 5) (dj := 31) (b := true) rfl rfl (congrArg vB c169_t) (T_val (v := (vP (some ⟨b28_, 4, none⟩))) (by kernel_rfl) ?_)
    refine S_yes (j := 5) (dj := 31) (b := true) rfl rfl (congrArg vB c169_t) (T_val (v := (vI .i64 ((SN.plain s).till))) (x_load1 rfl underlying2 rfl ((Holds.rd H162_ 2 rfl) 4 (vI .i64 ((SN.plain s).till)) rfl)) ?_)
    refine S_yes (j := 5) (dj := 31) (b := true) rfl rfl (congrArg vB c169_t) (T_val (v := (vP (some ⟨b33_, 4, none⟩))) (by kernel_rfl) ?_)
    refine S_yes (j := 5) (dj := 31) (b := true) rfl rfl (congrArg vB c169_t) (T_val (v := (vI .i64 ((SN.plain t).till))) (x_load1 rfl underlying2 rfl ((Holds.rd H162_ 1 rfl) 4 (vI .i64 ((SN.plain t).till)) rfl)) ?_)
    refine S_yes (j := 5) (dj := 31) (b := true) rfl rfl (congrArg vB c169_t) (T_call (al := [(vI .i64 ord), (Value.string ((SN.plain s).in__End)), (Value.string ((SN.plain t).in__End)), (vI .i64 ((SN.plain s).till)), (vI .i64 ((SN.plain t).till))]) (pre := []) rfl rfl cb77 (spEnds R ord ((SN.plain s).in__End) ((SN.plain t).in__End) ((SN.plain s).till) ((SN.plain t).till)) H162_ ?_)
    rintro v170_ p174_ w171_ ⟨rfl, rfl⟩ S173_ H172_
    have S175_ := Same.trans S165_ S173_
    refine S_yes (j := 5) (dj := 31) (b := true) rfl rfl (congrArg vB c169_t) (T_val (v := (vB (decide (ecm ord (ek ord ((SN.plain s).in__End) ((SN.plain s).till)) (ek ord ((SN.plain t).in__End) ((SN.plain t).till)) < 0)))) (x_bin rfl rfl rfl) ?_)
    refine S_yes (j := 2) (dj := 28) (b := false) rfl rfl (congrArg vB c167_f) (T_pickT (v := (vB (decide (ecm ord (ek ord ((SN.plain s).in__End) ((SN.plain s).till)) (ek ord ((SN.plain t).in__End) ((SN.plain t).till)) < 0)))) (congrArg vB c169_t) rfl ?_)
    refine S_list (T_pickF (v := (vB (decide (ecm ord (ek ord ((SN.plain s).in__End) ((SN.plain s).till)) (ek ord ((SN.plain t).in__End) ((SN.plain t).till)) < 0)))) (congrArg vB c167_f) rfl ?_)
    refine sv (v := (vB (decide (ecm ord (ek ord ((SN.plain s).in__End) ((SN.plain s).till)) (ek ord ((SN.plain t).in__End) ((SN.plain t).till)) < 0)))) (x_assign rfl) ?_
    refine wn (hK166_ _ _ ?_)
    refine C_ret ?_
    refine R_any (v := (vB (decide (ecm ord (ek ord ((SN.plain s).in__End) ((SN.plain s).till)) (ek ord ((SN.plain t).in__End) ((SN.plain t).till)) < 0)))) (run_results1 rfl rfl) ?_
    have H176_ := Holds.pkF H172_ [0] 4
    exact ⟨_, _, rfl, ⟨(congrArg vB ((by unfold sAhead SN.lo SN.hi; simp [c167_f, c169_t]) : (decide (ecm ord (ek ord ((SN.plain s).in__End) ((SN.plain s).till)) (ek ord ((SN.plain t).in__End) ((SN.plain t).till)) < 0)) = (sAhead ord s t))), rfl⟩, S175_, H176_⟩
   ·have c169_fp : ¬ (ecm ord (ek ord ((SN.plain s).in__Begin) ((SN.plain s).from_)) (ek ord ((SN.plain t).in__Begin) ((SN.plain t).from_)) = 0) := of_decide_eq_false c169_f
    refine S_no (j := 5) (dj := 31) (b := false) rfl rfl (congrArg vB c169_f) (by decide) ?_
    refine S_no (j := 5) (dj := 31) (b := false) rfl rfl (congrArg vB c169_f) (by decide) ?_
    refine S_no (j := 5) (dj := 31) (b := false) rfl rfl (congrArg vB c169_f) (by decide) ?_
    refine S_no (j := 5) (dj := 31) (b := false) rfl rfl (congrArg vB c169_f) (by decide) ?_
    refine S_no (j := 5) (dj := 31) (b := false) rfl rfl (congrArg vB c169_f) (by decide) ?_
    refine S_no (j := 5) (dj := 31) (b := false) rfl rfl (congrArg vB c169_f) (by decide) ?_
    refine S_no (j := 5) (dj := 31) (b := false) rfl rfl (congrArg vB c169_f) (by decide) ?_
    refine S_no (j := 5) (dj := 31) (b := false) rfl rfl (congrArg vB c169_f) (by decide) ?_
    refine S_no (j := 5) (dj := 31) (b := false) rfl rfl (congrArg vB c169_f) (by decide) ?_
    refine S_no (j := 5) (dj := 31) (b := false) rfl rfl (congrArg vB c169_f) (by decide) ?_
    refine S_no (j := 5) (dj := 31) (b := false) rfl rfl (congrArg vB c169_f) (by decide) ?_
    refine S_no (j := 5) (dj := 31) (b := false) rfl rfl (congrArg vB c169_f) (by decide) ?_
    refine S_no (j := 5) (dj := 31) (b := false) rfl rfl (congrArg vB c169_f) (by decide) ?_
    refine S_yes (j := 2) (dj := 28) (b := false) rfl rfl (congrArg vB c167_f) (T_pickF (v := (vB false)) (congrArg vB c169_f) rfl ?_)
    refine S_list (T_pickF (v := (vB false)) (congrArg vB c167_f) rfl ?_)
    refine sv (v := (vB false)) (x_assign rfl) ?_
    refine wn (hK166_ _ _ ?_)
    refine C_ret ?_
    refine R_any (v := (vB false)) (run_results1 rfl rfl) ?_
    have H177_ := Holds.pkF H162_ [0] 4
    exact ⟨_, _, rfl, ⟨(congrArg vB ((by unfold sAhead SN.lo SN.hi; simp [c167_f, c169_f]) : false = (sAhead ord s t))), rfl⟩, S165_, H177_⟩
 intro hJ143
 refine A_cut #[true, true, true, true, true, true, false, false] 2 (fun a__ w1__ => ∃ b28_ : Nat, ∃ b33_ : Nat, ∃ h : Env, a__ = mkA 47 (upd (upd (upd (upd (upd (upd h 0 (vI .i64 ord)) 6 (vB false)) 7 (vQ b28_)) 8 (vQ b33_)) 11 (vA #[(Value.string ((SN.plain s).in__Begin)), (Value.string ((SN.plain s).in__End)), (vB ((SN.plain s).in__Point)), (vI .i64 ((SN.plain s).from_)), (vI .i64 ((SN.plain s).till))])) 13 (vA #[(Value.string ((SN.plain t).in__Begin)), (Value.string ((SN.plain t).in__End)), (vB ((SN.plain t).in__Point)), (vI .i64 ((SN.plain t).from_)), (vI .i64 ((SN.plain t).till))])) [] ∧ Holds w1__ (cl b33_ 44 [(Value.string ByteArray.empty), (Value.string ByteArray.empty), (vB false), (vI .i64 0), (vI .i64 0)] :: cl b28_ 44 [(Value.string ByteArray.empty), (Value.string ByteArray.empty), (vB false), (vI .i64 0), (vI .i64 0)] :: ro R :: cl b7_ 44 [(Value.string t.in__Begin), (Value.string t.in__End), (vB t.in__Point), (vI .i64 t.from_), (vI .i64 t.till)] :: cl b2_ 44 [(Value.string s.in__Begin), (Value.string s.in__End), (vB s.in__Point), (vI .i64 s.from_), (vI .i64 s.till)] :: F) ∧ Same w w1__) ?_ ?_
 ·rintro _ w178_ ⟨b28_, b33_, h, rfl, H179_, S180_⟩
  refine A_ready (i := 6) (rs := []) (by kernel_rfl) ?_
  refine AllR.cons ?_ AllR.nil
  refine A_op0 (ls' := #[true, true, true, true, true, true, true, false]) rfl (by kernel_rfl) (T_storeN (vs := [(Value.string ((SN.plain s).in__Begin)), (Value.string ((SN.plain s).in__End)), (vB ((SN.plain s).in__Point)), (vI .i64 ((SN.plain s).from_)), (vI .i64 ((SN.plain s).till))]) rfl rfl z44 rfl (by simp [Value.oneCell']) H179_ 1 rfl (Nat.le_of_ble_eq_true (by rfl)) ?_)
  intro w181_ S183_ H182_
  have S184_ := Same.trans S180_ S183_
  refine ⟨⟨Holds.rd H182_ 3 rfl, Holds.rd H182_ 4 rfl, (Holds.ro_at H182_ 2 rfl)⟩, ?_⟩
  exact hJ143 _ _ ⟨b28_, b33_, _, congrArg (fun e => mkA 47 e []) (ch (ch (ch (ch (ch rfl rfl) rfl) rfl) rfl) rfl), H182_, S184_⟩
 intro hJ142
 refine A_cut #[true, true, true, true, true, false, false, false] 3 (fun a__ w1__ => ∃ b28_ : Nat, ∃ h : Env, a__ = mkA 47 (upd (upd (upd (upd (upd h 0 (vI .i64 ord)) 6 (vB false)) 7 (vQ b28_)) 11 (vA #[(Value.string ((SN.plain s).in__Begin)), (Value.string ((SN.plain s).in__End)), (vB ((SN.plain s).in__Point)), (vI .i64 ((SN.plain s).from_)), (vI .i64 ((SN.plain s).till))])) 13 (vA #[(Value.string ((SN.plain t).in__Begin)), (Value.string ((SN.plain t).in__End)), (vB ((SN.plain t).in__Point)), (vI .i64 ((SN.plain t).from_)), (vI .i64 ((SN.plain t).till))])) [] ∧ Holds w1__ (cl b28_ 44 [(Value.string ByteArray.empty), (Value.string ByteArray.empty), (vB false), (vI .i64 0), (vI .i64 0)] :: ro R :: cl b7_ 44 [(Value.string t.in__Begin), (Value.string t.in__End), (vB t.in__Point), (vI .i64 t.from_), (vI .i64 t.till)] :: cl b2_ 44 [(Value.string s.in__Begin), (Value.string s.in__End), (vB s.in__Point), (vI .i64 s.from_), (vI .i64 s.till)] :: F) ∧ Same w w1__) ?_ ?_
 ·rintro _ w185_ ⟨b28_, h, rfl, H186_, S187_⟩
  refine A_ready (i := 5) (rs := []) (by kernel_rfl) ?_
  refine AllR.cons ?_ AllR.nil
  refine A_op (ls' := #[true, true, true, true, true, true, false, false]) rfl (by kernel_rfl) (T_alloc z44 H186_ ?_)
  intro b188_ w189_ S191_ H190_
  have S192_ := Same.trans S187_ S191_
  refine ⟨⟨Holds.rd H190_ 3 rfl, Holds.rd H190_ 4 rfl, (Holds.ro_at H190_ 2 rfl)⟩, ?_⟩
  exact hJ142 _ _ ⟨b28_, b188_, _, congrArg (fun e => mkA 47 e []) (ch (ch (ch (ch (ch (ch rfl rfl) rfl) rfl) rfl) rfl) rfl), H190_, S192_⟩
 intro hJ141
 refine A_cut #[true, true, true, true, false, true, false, false] 3 (fun a__ w1__ => ∃ b46_ : Nat, ∃ h : Env, a__ = mkA 47 (upd (upd (upd (upd (upd h 0 (vI .i64 ord)) 6 (vB false)) 8 (vQ b46_)) 11 (vA #[(Value.string ((SN.plain s).in__Begin)), (Value.string ((SN.plain s).in__End)), (vB ((SN.plain s).in__Point)), (vI .i64 ((SN.plain s).from_)), (vI .i64 ((SN.plain s).till))])) 13 (vA #[(Value.string ((SN.plain t).in__Begin)), (Value.string ((SN.plain t).in__End)), (vB ((SN.plain t).in__Point)), (vI .i64 ((SN.plain t).from_)), (vI .i64 ((SN.plain t).till))])) [] ∧ Holds w1__ (cl b46_ 44 [(Value.string ByteArray.empty), (Value.string ByteArray.empty), (vB false), (vI .i64 0), (vI .i64 0)] :: ro R :: cl b7_ 44 [(Value.string t.in__Begin), (Value.string t.in__End), (vB t.in__Point), (vI .i64 t.from_), (vI .i64 t.till)] :: cl b2_ 44 [(Value.string s.in__Begin), (Value.string s.in__End), (vB s.in__Point), (vI .i64 s.from_), (vI .i64 s.till)] :: F) ∧ Same w w1__) ?_ ?_
 ·rintro _ w193_ ⟨b46_, h, rfl, H194_, S195_⟩
  refine A_ready (i := 4) (rs := []) (by kernel_rfl) ?_
  refine AllR.cons ?_ AllR.nil
  refine A_op (ls' := #[true, true, true, true, true, true, false, false]) rfl (by kernel_rfl) (T_alloc z44 H194_ ?_)
  intro b196_ w197_ S199_ H198_
  have S200_ := Same.trans S195_ S199_
  refine ⟨⟨Holds.rd H198_ 3 rfl, Holds.rd H198_ 4 rfl, (Holds.ro_at H198_ 2 rfl)⟩, ?_⟩
  have H201_ := Holds.pkF H198_ [1, 0, 0, 0, 0] 0
  exact hJ142 _ _ ⟨b196_, b46_, _, congrArg (fun e => mkA 47 e []) (ch (ch (ch (ch (ch (ch rfl rfl) rfl) rfl) rfl) rfl) rfl), H201_, S200_⟩
 intro hJ144
 refine A_cut #[true, true, true, false, true, true, false, false] 3 (fun a__ w1__ => ∃ b56_ : Nat, ∃ b68_ : Nat, ∃ h : Env, a__ = mkA 47 (upd (upd (upd (upd (upd (upd h 0 (vI .i64 ord)) 6 (vB false)) 7 (vQ b56_)) 8 (vQ b68_)) 11 (vA #[(Value.string ((SN.plain s).in__Begin)), (Value.string ((SN.plain s).in__End)), (vB ((SN.plain s).in__Point)), (vI .i64 ((SN.plain s).from_)), (vI .i64 ((SN.plain s).till))])) 12 (vA #[(Value.string t.in__Begin), (Value.string t.in__End), (vB t.in__Point), (vI .i64 t.from_), (vI .i64 t.till)])) [] ∧ Holds w1__ (cl b68_ 44 [(Value.string ByteArray.empty), (Value.string ByteArray.empty), (vB false), (vI .i64 0), (vI .i64 0)] :: cl b56_ 44 [(Value.string ByteArray.empty), (Value.string ByteArray.empty), (vB false), (vI .i64 0), (vI .i64 0)] :: ro R :: cl b7_ 44 [(Value.string t.in__Begin), (Value.string t.in__End), (vB t.in__Point), (vI .i64 t.from_), (vI .i64 t.till)] :: cl b2_ 44 [(Value.string s.in__Begin), (Value.string s.in__End), (vB s.in__Point), (vI .i64 s.from_), (vI .i64 s.till)] :: F) ∧ Same w w1__) ?_ ?_
 ·rintro _ w202_ ⟨b56_, b68_, h, rfl, H203_, S204_⟩
  refine A_ready (i := 3) (rs := []) (by kernel_rfl) ?_
  refine AllR.cons ?_ AllR.nil
  have H206_ := ((Holds.bring H203_ 2 rfl) :)
  refine A_op (ls' := #[true, true, true, true, true, true, false, false]) rfl (by kernel_rfl) (T_call (al := [(vA #[(Value.string t.in__Begin), (Value.string t.in__End), (vB t.in__Point), (vI .i64 t.from_), (vI .i64 t.till)])]) (pre := []) rfl rfl cb76 (spPlain R t (by first | assumption | omega)) H206_ ?_)
  rintro v205_ p210_ w207_ ⟨rfl, rfl⟩ S209_ H208_
  have S211_ := Same.trans S204_ S209_
  refine ⟨⟨Holds.rd H208_ 3 rfl, Holds.rd H208_ 4 rfl, (Holds.ro_at H208_ 0 rfl)⟩, ?_⟩
  have H212_ := Holds.pkF H208_ [1, 1, 0, 0, 0] 0
  exact hJ142 _ _ ⟨b56_, b68_, _, congrArg (fun e => mkA 47 e []) (ch (ch (ch (ch (ch (ch rfl rfl) rfl) rfl) rfl) rfl) rfl), H212_, S211_⟩
 intro hJ146
 refine A_cut #[true, true, true, true, false, false, false, false] 4 (fun a__ w1__ => ∃ h : Env, a__ = mkA 47 (upd (upd (upd (upd h 0 (vI .i64 ord)) 6 (vB false)) 11 (vA #[(Value.string ((SN.plain s).in__Begin)), (Value.string ((SN.plain s).in__End)), (vB ((SN.plain s).in__Point)), (vI .i64 ((SN.plain s).from_)), (vI .i64 ((SN.plain s).till))])) 13 (vA #[(Value.string ((SN.plain t).in__Begin)), (Value.string ((SN.plain t).in__End)), (vB ((SN.plain t).in__Point)), (vI .i64 ((SN.plain t).from_)), (vI .i64 ((SN.plain t).till))])) [] ∧ Holds w1__ (ro R :: cl b7_ 44 [(Value.string t.in__Begin), (Value.string t.in__End), (vB t.in__Point), (vI .i64 t.from_), (vI .i64 t.till)] :: cl b2_ 44 [(Value.string s.in__Begin), (Value.string s.in__End), (vB s.in__Point), (vI .i64 s.from_), (vI .i64 s.till)] :: F) ∧ Same w w1__) ?_ ?_
 ·rintro _ w213_ ⟨h, rfl, H214_, S215_⟩
  refine A_ready (i := 4) (rs := [5]) (by kernel_rfl) ?_
  refine AllR.cons ?_ ?_
  ·skip
   refine A_op (ls' := #[true, true, true, true, true, false, false, false]) rfl (by kernel_rfl) (T_alloc z44 H214_ ?_)
   intro b216_ w217_ S219_ H218_
   have S220_ := Same.trans S215_ S219_
   refine ⟨⟨Holds.rd H218_ 2 rfl, Holds.rd H218_ 3 rfl, (Holds.ro_at H218_ 1 rfl)⟩, ?_⟩
   exact hJ141 _ _ ⟨b216_, _, congrArg (fun e => mkA 47 e []) (ch (ch (ch (ch (ch rfl rfl) rfl) rfl) rfl) rfl), H218_, S220_⟩
  refine AllR.cons ?_ AllR.nil
  refine A_op (ls' := #[true, true, true, true, false, true, false, false]) rfl (by kernel_rfl) (T_alloc z44 H214_ ?_)
  intro b221_ w222_ S224_ H223_
  have S225_ := Same.trans S215_ S224_
  refine ⟨⟨Holds.rd H223_ 2 rfl, Holds.rd H223_ 3 rfl, (Holds.ro_at H223_ 1 rfl)⟩, ?_⟩
  exact hJ144 _ _ ⟨b221_, _, congrArg (fun e => mkA 47 e []) (ch (ch (ch (ch (ch rfl rfl) rfl) rfl) rfl) rfl), H223_, S225_⟩
 intro hJ140
 refine A_cut #[true, true, true, false, true, false, false, false] 4 (fun a__ w1__ => ∃ b56_ : Nat, ∃ h : Env, a__ = mkA 47 (upd (upd (upd (upd (upd h 0 (vI .i64 ord)) 6 (vB false)) 7 (vQ b56_)) 11 (vA #[(Value.string ((SN.plain s).in__Begin)), (Value.string ((SN.plain s).in__End)), (vB ((SN.plain s).in__Point)), (vI .i64 ((SN.plain s).from_)), (vI .i64 ((SN.plain s).till))])) 12 (vA #[(Value.string t.in__Begin), (Value.string t.in__End), (vB t.in__Point), (vI .i64 t.from_), (vI .i64 t.till)])) [] ∧ Holds w1__ (cl b56_ 44 [(Value.string ByteArray.empty), (Value.string ByteArray.empty), (vB false), (vI .i64 0), (vI .i64 0)] :: ro R :: cl b7_ 44 [(Value.string t.in__Begin), (Value.string t.in__End), (vB t.in__Point), (vI .i64 t.from_), (vI .i64 t.till)] :: cl b2_ 44 [(Value.string s.in__Begin), (Value.string s.in__End), (vB s.in__Point), (vI .i64 s.from_), (vI .i64 s.till)] :: F) ∧ Same w w1__) ?_ ?_
 ·rintro _ w226_ ⟨b56_, h, rfl, H227_, S228_⟩
  refine A_ready (i := 3) (rs := [5]) (by kernel_rfl) ?_
  refine AllR.cons ?_ ?_
  ·skip
   have H230_ := ((Holds.bring H227_ 1 rfl) :)
   refine A_op (ls' := #[true, true, true, true, true, false, false, false]) rfl (by kernel_rfl) (T_call (al := [(vA #[(Value.string t.in__Begin), (Value.string t.in__End), (vB t.in__Point), (vI .i64 t.from_), (vI .i64 t.till)])]) (pre := []) rfl rfl cb76 (spPlain R t (by first | assumption | omega)) H230_ ?_)
   rintro v229_ p234_ w231_ ⟨rfl, rfl⟩ S233_ H232_
   have S235_ := Same.trans S228_ S233_
   refine ⟨⟨Holds.rd H232_ 2 rfl, Holds.rd H232_ 3 rfl, (Holds.ro_at H232_ 0 rfl)⟩, ?_⟩
   have H236_ := Holds.pkF H232_ [1, 0, 0, 0] 0
   exact hJ141 _ _ ⟨b56_, _, congrArg (fun e => mkA 47 e []) (ch (ch (ch (ch (ch rfl rfl) rfl) rfl) rfl) rfl), H236_, S235_⟩
  refine AllR.cons ?_ AllR.nil
  refine A_op (ls' := #[true, true, true, false, true, true, false, false]) rfl (by kernel_rfl) (T_alloc z44 H227_ ?_)
  intro b237_ w238_ S240_ H239_
  have S241_ := Same.trans S228_ S240_
  refine ⟨⟨Holds.rd H239_ 3 rfl, Holds.rd H239_ 4 rfl, (Holds.ro_at H239_ 2 rfl)⟩, ?_⟩
  exact hJ146 _ _ ⟨b56_, b237_, _, congrArg (fun e => mkA 47 e []) (ch (ch (ch (ch (ch (ch rfl rfl) rfl) rfl) rfl) rfl) rfl), H239_, S241_⟩
 intro hJ145
 refine A_cut #[true, true, true, false, false, true, false, false] 4 (fun a__ w1__ => ∃ b80_ : Nat, ∃ h : Env, a__ = mkA 47 (upd (upd (upd (upd (upd h 0 (vI .i64 ord)) 6 (vB false)) 8 (vQ b80_)) 11 (vA #[(Value.string ((SN.plain s).in__Begin)), (Value.string ((SN.plain s).in__End)), (vB ((SN.plain s).in__Point)), (vI .i64 ((SN.plain s).from_)), (vI .i64 ((SN.plain s).till))])) 12 (vA #[(Value.string t.in__Begin), (Value.string t.in__End), (vB t.in__Point), (vI .i64 t.from_), (vI .i64 t.till)])) [] ∧ Holds w1__ (cl b80_ 44 [(Value.string ByteArray.empty), (Value.string ByteArray.empty), (vB false), (vI .i64 0), (vI .i64 0)] :: ro R :: cl b7_ 44 [(Value.string t.in__Begin), (Value.string t.in__End), (vB t.in__Point), (vI .i64 t.from_), (vI .i64 t.till)] :: cl b2_ 44 [(Value.string s.in__Begin), (Value.string s.in__End), (vB s.in__Point), (vI .i64 s.from_), (vI .i64 s.till)] :: F) ∧ Same w w1__) ?_ ?_
 ·rintro _ w242_ ⟨b80_, h, rfl, H243_, S244_⟩
  refine A_ready (i := 3) (rs := [4]) (by kernel_rfl) ?_
  refine AllR.cons ?_ ?_
  ·skip
   have H246_ := ((Holds.bring H243_ 1 rfl) :)
   refine A_op (ls' := #[true, true, true, true, false, true, false, false]) rfl (by kernel_rfl) (T_call (al := [(vA #[(Value.string t.in__Begin), (Value.string t.in__End), (vB t.in__Point), (vI .i64 t.from_), (vI .i64 t.till)])]) (pre := []) rfl rfl cb76 (spPlain R t (by first | assumption | omega)) H246_ ?_)
   rintro v245_ p250_ w247_ ⟨rfl, rfl⟩ S249_ H248_
   have S251_ := Same.trans S244_ S249_
   refine ⟨⟨Holds.rd H248_ 2 rfl, Holds.rd H248_ 3 rfl, (Holds.ro_at H248_ 0 rfl)⟩, ?_⟩
   have H252_ := Holds.pkF H248_ [1, 0, 0, 0] 0
   exact hJ144 _ _ ⟨b80_, _, congrArg (fun e => mkA 47 e []) (ch (ch (ch (ch (ch rfl rfl) rfl) rfl) rfl) rfl), H252_, S251_⟩
  refine AllR.cons ?_ AllR.nil
  refine A_op (ls' := #[true, true, true, false, true, true, false, false]) rfl (by kernel_rfl) (T_alloc z44 H243_ ?_)
  intro b253_ w254_ S256_ H255_
  have S257_ := Same.trans S244_ S256_
  refine ⟨⟨Holds.rd H255_ 3 rfl, Holds.rd H255_ 4 rfl, (Holds.ro_at H255_ 2 rfl)⟩, ?_⟩
  have H258_ := Holds.pkF H255_ [1, 0, 0, 0, 0] 0
  exact hJ146 _ _ ⟨b253_, b80_, _, congrArg (fun e => mkA 47 e []) (ch (ch (ch (ch (ch (ch rfl rfl) rfl) rfl) rfl) rfl) rfl), H258_, S257_⟩
 intro hJ147
 refine A_cut #[true, false, true, false, true, true, false, false] 4 (fun a__ w1__ => ∃ b97_ : Nat, ∃ b109_ : Nat, ∃ h : Env, a__ = mkA 47 (upd (upd (upd (upd (upd (upd h 0 (vI .i64 ord)) 6 (vB false)) 7 (vQ b97_)) 8 (vQ b109_)) 10 (vA #[(Value.string s.in__Begin), (Value.string s.in__End), (vB s.in__Point), (vI .i64 s.from_), (vI .i64 s.till)])) 12 (vA #[(Value.string t.in__Begin), (Value.string t.in__End), (vB t.in__Point), (vI .i64 t.from_), (vI .i64 t.till)])) [] ∧ Holds w1__ (cl b109_ 44 [(Value.string ByteArray.empty), (Value.string ByteArray.empty), (vB false), (vI .i64 0), (vI .i64 0)] :: cl b97_ 44 [(Value.string ByteArray.empty), (Value.string ByteArray.empty), (vB false), (vI .i64 0), (vI .i64 0)] :: cl b7_ 44 [(Value.string t.in__Begin), (Value.string t.in__End), (vB t.in__Point), (vI .i64 t.from_), (vI .i64 t.till)] :: cl b2_ 44 [(Value.string s.in__Begin), (Value.string s.in__End), (vB s.in__Point), (vI .i64 s.from_), (vI .i64 s.till)] :: ro R :: F) ∧ Same w w1__) ?_ ?_
 ·rintro _ w259_ ⟨b97_, b109_, h, rfl, H260_, S261_⟩
  refine A_ready (i := 1) (rs := []) (by kernel_rfl) ?_
  refine AllR.cons ?_ AllR.nil
  have H263_ := ((Holds.bring H260_ 4 rfl) :)
  refine A_op (ls' := #[true, true, true, false, true, true, false, false]) rfl (by kernel_rfl) (T_call (al := [(vA #[(Value.string s.in__Begin), (Value.string s.in__End), (vB s.in__Point), (vI .i64 s.from_), (vI .i64 s.till)])]) (pre := []) rfl rfl cb76 (spPlain R s (by first | assumption | omega)) H263_ ?_)
  rintro v262_ p267_ w264_ ⟨rfl, rfl⟩ S266_ H265_
  have S268_ := Same.trans S261_ S266_
  refine ⟨⟨Holds.rd H265_ 3 rfl, Holds.rd H265_ 4 rfl, (Holds.ro_at H265_ 0 rfl)⟩, ?_⟩
  have H269_ := Holds.pkF H265_ [1, 1, 0, 0, 0] 0
  exact hJ146 _ _ ⟨b97_, b109_, _, congrArg (fun e => mkA 47 e []) (ch (ch (ch (ch (ch (ch rfl rfl) rfl) rfl) rfl) rfl) rfl), H269_, S268_⟩
 intro hJ149
 refine A_cut #[true, true, true, false, false, false, false, false] 5 (fun a__ w1__ => ∃ h : Env, a__ = mkA 47 (upd (upd (upd (upd h 0 (vI .i64 ord)) 6 (vB false)) 11 (vA #[(Value.string ((SN.plain s).in__Begin)), (Value.string ((SN.plain s).in__End)), (vB ((SN.plain s).in__Point)), (vI .i64 ((SN.plain s).from_)), (vI .i64 ((SN.plain s).till))])) 12 (vA #[(Value.string t.in__Begin), (Value.string t.in__End), (vB t.in__Point), (vI .i64 t.from_), (vI .i64 t.till)])) [] ∧ Holds w1__ (ro R :: cl b7_ 44 [(Value.string t.in__Begin), (Value.string t.in__End), (vB t.in__Point), (vI .i64 t.from_), (vI .i64 t.till)] :: cl b2_ 44 [(Value.string s.in__Begin), (Value.string s.in__End), (vB s.in__Point), (vI .i64 s.from_), (vI .i64 s.till)] :: F) ∧ Same w w1__) ?_ ?_
 ·rintro _ w270_ ⟨h, rfl, H271_, S272_⟩
  refine A_ready (i := 3) (rs := [4, 5]) (by kernel_rfl) ?_
  refine AllR.cons ?_ ?_
  ·skip
   refine A_op (ls' := #[true, true, true, true, false, false, false, false]) rfl (by kernel_rfl) (T_call (al := [(vA #[(Value.string t.in__Begin), (Value.string t.in__End), (vB t.in__Point), (vI .i64 t.from_), (vI .i64 t.till)])]) (pre := []) rfl rfl cb76 (spPlain R t (by first | assumption | omega)) H271_ ?_)
   rintro v273_ p277_ w274_ ⟨rfl, rfl⟩ S276_ H275_
   have S278_ := Same.trans S272_ S276_
   refine ⟨⟨Holds.rd H275_ 1 rfl, Holds.rd H275_ 2 rfl, (Holds.ro_at H275_ 0 rfl)⟩, ?_⟩
   exact hJ140 _ _ ⟨_, congrArg (fun e => mkA 47 e []) (ch (ch (ch (ch rfl rfl) rfl) rfl) rfl), H275_, S278_⟩
  refine AllR.cons ?_ ?_
  ·skip
   refine A_op (ls' := #[true, true, true, false, true, false, false, false]) rfl (by kernel_rfl) (T_alloc z44 H271_ ?_)
   intro b279_ w280_ S282_ H281_
   have S283_ := Same.trans S272_ S282_
   refine ⟨⟨Holds.rd H281_ 2 rfl, Holds.rd H281_ 3 rfl, (Holds.ro_at H281_ 1 rfl)⟩, ?_⟩
   exact hJ145 _ _ ⟨b279_, _, congrArg (fun e => mkA 47 e []) (ch (ch (ch (ch (ch rfl rfl) rfl) rfl) rfl) rfl), H281_, S283_⟩
  refine AllR.cons ?_ AllR.nil
  refine A_op (ls' := #[true, true, true, false, false, true, false, false]) rfl (by kernel_rfl) (T_alloc z44 H271_ ?_)
  intro b284_ w285_ S287_ H286_
  have S288_ := Same.trans S272_ S287_
  refine ⟨⟨Holds.rd H286_ 2 rfl, Holds.rd H286_ 3 rfl, (Holds.ro_at H286_ 1 rfl)⟩, ?_⟩
  exact hJ147 _ _ ⟨b284_, _, congrArg (fun e => mkA 47 e []) (ch (ch (ch (ch (ch rfl rfl) rfl) rfl) rfl) rfl), H286_, S288_⟩
 intro hJ139
 refine A_cut #[true, false, true, false, true, false, false, false] 5 (fun a__ w1__ => ∃ b97_ : Nat, ∃ h : Env, a__ = mkA 47 (upd (upd (upd (upd (upd h 0 (vI .i64 ord)) 6 (vB false)) 7 (vQ b97_)) 10 (vA #[(Value.string s.in__Begin), (Value.string s.in__End), (vB s.in__Point), (vI .i64 s.from_), (vI .i64 s.till)])) 12 (vA #[(Value.string t.in__Begin), (Value.string t.in__End), (vB t.in__Point), (vI .i64 t.from_), (vI .i64 t.till)])) [] ∧ Holds w1__ (cl b97_ 44 [(Value.string ByteArray.empty), (Value.string ByteArray.empty), (vB false), (vI .i64 0), (vI .i64 0)] :: cl b7_ 44 [(Value.string t.in__Begin), (Value.string t.in__End), (vB t.in__Point), (vI .i64 t.from_), (vI .i64 t.till)] :: cl b2_ 44 [(Value.string s.in__Begin), (Value.string s.in__End), (vB s.in__Point), (vI .i64 s.from_), (vI .i64 s.till)] :: ro R :: F) ∧ Same w w1__) ?_ ?_
 ·rintro _ w289_ ⟨b97_, h, rfl, H290_, S291_⟩
  refine A_ready (i := 1) (rs := [5]) (by kernel_rfl) ?_
  refine AllR.cons ?_ ?_
  ·skip
   have H293_ := ((Holds.bring H290_ 3 rfl) :)
   refine A_op (ls' := #[true, true, true, false, true, false, false, false]) rfl (by kernel_rfl) (T_call (al := [(vA #[(Value.string s.in__Begin), (Value.string s.in__End), (vB s.in__Point), (vI .i64 s.from_), (vI .i64 s.till)])]) (pre := []) rfl rfl cb76 (spPlain R s (by first | assumption | omega)) H293_ ?_)
   rintro v292_ p297_ w294_ ⟨rfl, rfl⟩ S296_ H295_
   have S298_ := Same.trans S291_ S296_
   refine ⟨⟨Holds.rd H295_ 2 rfl, Holds.rd H295_ 3 rfl, (Holds.ro_at H295_ 0 rfl)⟩, ?_⟩
   have H299_ := Holds.pkF H295_ [1, 0, 0, 0] 0
   exact hJ145 _ _ ⟨b97_, _, congrArg (fun e => mkA 47 e []) (ch (ch (ch (ch (ch rfl rfl) rfl) rfl) rfl) rfl), H299_, S298_⟩
  refine AllR.cons ?_ AllR.nil
  refine A_op (ls' := #[true, false, true, false, true, true, false, false]) rfl (by kernel_rfl) (T_alloc z44 H290_ ?_)
  intro b300_ w301_ S303_ H302_
  have S304_ := Same.trans S291_ S303_
  refine ⟨⟨Holds.rd H302_ 2 rfl, Holds.rd H302_ 3 rfl, (Holds.ro_at H302_ 4 rfl)⟩, ?_⟩
  exact hJ149 _ _ ⟨b97_, b300_, _, congrArg (fun e => mkA 47 e []) (ch (ch (ch (ch (ch (ch rfl rfl) rfl) rfl) rfl) rfl) rfl), H302_, S304_⟩
 intro hJ148
 refine A_cut #[true, false, true, false, false, true, false, false] 5 (fun a__ w1__ => ∃ b121_ : Nat, ∃ h : Env, a__ = mkA 47 (upd (upd (upd (upd (upd h 0 (vI .i64 ord)) 6 (vB false)) 8 (vQ b121_)) 10 (vA #[(Value.string s.in__Begin), (Value.string s.in__End), (vB s.in__Point), (vI .i64 s.from_), (vI .i64 s.till)])) 12 (vA #[(Value.string t.in__Begin), (Value.string t.in__End), (vB t.in__Point), (vI .i64 t.from_), (vI .i64 t.till)])) [] ∧ Holds w1__ (cl b121_ 44 [(Value.string ByteArray.empty), (Value.string ByteArray.empty), (vB false), (vI .i64 0), (vI .i64 0)] :: cl b7_ 44 [(Value.string t.in__Begin), (Value.string t.in__End), (vB t.in__Point), (vI .i64 t.from_), (vI .i64 t.till)] :: cl b2_ 44 [(Value.string s.in__Begin), (Value.string s.in__End), (vB s.in__Point), (vI .i64 s.from_), (vI .i64 s.till)] :: ro R :: F) ∧ Same w w1__) ?_ ?_
 ·rintro _ w305_ ⟨b121_, h, rfl, H306_, S307_⟩
  refine A_ready (i := 1) (rs := [4]) (by kernel_rfl) ?_
  refine AllR.cons ?_ ?_
  ·skip
   have H309_ := ((Holds.bring H306_ 3 rfl) :)
   refine A_op (ls' := #[true, true, true, false, false, true, false, false]) rfl (by kernel_rfl) (T_call (al := [(vA #[(Value.string s.in__Begin), (Value.string s.in__End), (vB s.in__Point), (vI .i64 s.from_), (vI .i64 s.till)])]) (pre := []) rfl rfl cb76 (spPlain R s (by first | assumption | omega)) H309_ ?_)
   rintro v308_ p313_ w310_ ⟨rfl, rfl⟩ S312_ H311_
   have S314_ := Same.trans S307_ S312_
   refine ⟨⟨Holds.rd H311_ 2 rfl, Holds.rd H311_ 3 rfl, (Holds.ro_at H311_ 0 rfl)⟩, ?_⟩
   have H315_ := Holds.pkF H311_ [1, 0, 0, 0] 0
   exact hJ147 _ _ ⟨b121_, _, congrArg (fun e => mkA 47 e []) (ch (ch (ch (ch (ch rfl rfl) rfl) rfl) rfl) rfl), H315_, S314_⟩
  refine AllR.cons ?_ AllR.nil
  refine A_op (ls' := #[true, false, true, false, true, true, false, false]) rfl (by kernel_rfl) (T_alloc z44 H306_ ?_)
  intro b316_ w317_ S319_ H318_
  have S320_ := Same.trans S307_ S319_
  refine ⟨⟨Holds.rd H318_ 2 rfl, Holds.rd H318_ 3 rfl, (Holds.ro_at H318_ 4 rfl)⟩, ?_⟩
  have H321_ := Holds.pkF H318_ [1, 0, 0, 0, 0] 0
  exact hJ149 _ _ ⟨b316_, b121_, _, congrArg (fun e => mkA 47 e []) (ch (ch (ch (ch (ch (ch rfl rfl) rfl) rfl) rfl) rfl) rfl), H321_, S320_⟩
 intro hJ150
 have hq322_ := And.intro (Holds.rd H13_ 0 rfl) (And.intro (Holds.rd H13_ 1 rfl) ((Holds.ro_at H13_ 2 rfl)))
 refine A_tk 0 (v := (vA #[(Value.string s.in__Begin), (Value.string s.in__End), (vB s.in__Point), (vI .i64 s.from_), (vI .i64 s.till)])) rfl (by kernel_rfl) (fun w hS => x_loadN (vs := [(Value.string s.in__Begin), (Value.string s.in__End), (vB s.in__Point), (vI .i64 s.from_), (vI .i64 s.till)]) rfl underlying44 rfl z44 rfl (Rd.cells hS.2.1 0 rfl)) hq322_ ?_
 refine A_tk 2 (v := (vA #[(Value.string t.in__Begin), (Value.string t.in__End), (vB t.in__Point), (vI .i64 t.from_), (vI .i64 t.till)])) rfl (by kernel_rfl) (fun w hS => x_loadN (vs := [(Value.string t.in__Begin), (Value.string t.in__End), (vB t.in__Point), (vI .i64 t.from_), (vI .i64 t.till)]) rfl underlying44 rfl z44 rfl (Rd.cells hS.1 0 rfl)) hq322_ ?_
 refine A_ready (i := 1) (rs := [4, 5]) (by kernel_rfl) ?_
 refine AllR.cons ?_ ?_
 ·skip
  have H324_ := ((Holds.bring H13_ 2 rfl) :)
  refine A_op (ls' := #[true, true, true, false, false, false, false, false]) rfl (by kernel_rfl) (T_call (al := [(vA #[(Value.string s.in__Begin), (Value.string s.in__End), (vB s.in__Point), (vI .i64 s.from_), (vI .i64 s.till)])]) (pre := []) rfl rfl cb76 (spPlain R s (by first | assumption | omega)) H324_ ?_)
  rintro v323_ p328_ w325_ ⟨rfl, rfl⟩ S327_ H326_
  have S329_ := Same.trans (Same.trans S11_ (Same.drew _)) S327_
  refine ⟨⟨Holds.rd H326_ 1 rfl, Holds.rd H326_ 2 rfl, (Holds.ro_at H326_ 0 rfl)⟩, ?_⟩
  exact hJ139 _ _ ⟨_, congrArg (fun e => mkA 47 e []) (ch (ch (ch (ch rfl rfl) rfl) rfl) rfl), H326_, S329_⟩
 refine AllR.cons ?_ ?_
 ·skip
  refine A_op (ls' := #[true, false, true, false, true, false, false, false]) rfl (by kernel_rfl) (T_alloc z44 H13_ ?_)
  intro b330_ w331_ S333_ H332_
  have S334_ := Same.trans (Same.trans S11_ (Same.drew _)) S333_
  refine ⟨⟨Holds.rd H332_ 1 rfl, Holds.rd H332_ 2 rfl, (Holds.ro_at H332_ 3 rfl)⟩, ?_⟩
  exact hJ148 _ _ ⟨b330_, _, congrArg (fun e => mkA 47 e []) (ch (ch (ch (ch (ch rfl rfl) rfl) rfl) rfl) rfl), H332_, S334_⟩
 refine AllR.cons ?_ AllR.nil
 refine A_op (ls' := #[true, false, true, false, false, true, false, false]) rfl (by kernel_rfl) (T_alloc z44 H13_ ?_)
 intro b335_ w336_ S338_ H337_
 have S339_ := Same.trans (Same.trans S11_ (Same.drew _)) S338_
 refine ⟨⟨Holds.rd H337_ 1 rfl, Holds.rd H337_ 2 rfl, (Holds.ro_at H337_ 3 rfl)⟩, ?_⟩
 exact hJ150 _ _ ⟨b335_, _, congrArg (fun e => mkA 47 e []) (ch (ch (ch (ch (ch rfl rfl) rfl) rfl) rfl) rfl), H337_, S339_⟩

set_option maxHeartbeats 1600000 in
theorem spMeet (R : HP) (ord : Int) (s t : SN) (hs : s.in__Begin.size ≤ 2147483647) (ht : t.in__Begin.size ≤ 2147483647) :
    Tri Try.prog 64 #[(vI .i64 ord), (vA #[(Value.string s.in__Begin), (Value.string s.in__End), (vB s.in__Point), (vI .i64 s.from_), (vI .i64 s.till)]), (vA #[(Value.string t.in__Begin), (Value.string t.in__End), (vB t.in__Point), (vI .i64 t.from_), (vI .i64 t.till)])] R [] (fun v__ post__ => v__ = (vB (sMeet ord s t)) ∧ post__ = []) := by
 refine Tri.into (n := 41) (al := [(vI .i64 ord), (vA #[(Value.string s.in__Begin), (Value.string s.in__End), (vB s.in__Point), (vI .i64 s.from_), (vI .i64 s.till)]), (vA #[(Value.string t.in__Begin), (Value.string t.in__End), (vB t.in__Point), (vI .i64 t.from_), (vI .i64 t.till)])]) func64 rfl ntmps64 rfl rfl fun w F H => ?_
 refine cr fun _ hK1_ => ?_
 refine S_list (T_box (v := (vA #[(Value.string s.in__Begin), (Value.string s.in__End), (vB s.in__Point), (vI .i64 s.from_), (vI .i64 s.till)])) rfl H ?_)
 intro b2_ w3_ S5_ H4_
 have S6_ := Same.trans (Same.refl w) S5_
 refine S_list (T_box (v := (vA #[(Value.string t.in__Begin), (Value.string t.in__End), (vB t.in__Point), (vI .i64 t.from_), (vI .i64 t.till)])) rfl H4_ ?_)
 intro b7_ w8_ S10_ H9_
 have S11_ := Same.trans S6_ S10_
 refine sv (v := (vB false)) (x_assign rfl) ?_
 refine wn (hK1_ _ _ ?_)
 refine C_seq (fun _ hK12_ => ?_)
 refine A_start (S := fun w => Rd b7_ [(Value.string t.in__Begin), (Value.string t.in__End), (vB t.in__Point), (vI .i64 t.from_), (vI .i64 t.till)] w ∧ Rd b2_ [(Value.string s.in__Begin), (Value.string s.in__End), (vB s.in__Point), (vI .i64 s.from_), (vI .i64 s.till)] w ∧ Sub R (hp w)) (N := 8) foll rfl rfl ?_
 have H13_ := Holds.drew_ H9_
 refine A_cut #[true, true, true, true, true, true, true, false] 1 (fun a__ w1__ => ∃ b28_ : Nat, ∃ b33_ : Nat, ∃ h : Env, a__ = mkA 41 (upd (upd (upd (upd (upd h 0 (vI .i64 ord)) 6 (vB false)) 7 (vQ b28_)) 8 (vQ b33_)) 12 (vA #[(Value.string ((SN.plain t).in__Begin)), (Value.string ((SN.plain t).in__End)), (vB ((SN.plain t).in__Point)), (vI .i64 ((SN.plain t).from_)), (vI .i64 ((SN.plain t).till))])) [] ∧ Holds w1__ (cl b33_ 44 [(Value.string ByteArray.empty), (Value.string ByteArray.empty), (vB false), (vI .i64 0), (vI .i64 0)] :: cl b28_ 44 [(Value.string ((SN.plain s).in__Begin)), (Value.string ((SN.plain s).in__End)), (vB ((SN.plain s).in__Point)), (vI .i64 ((SN.plain s).from_)), (vI .i64 ((SN.plain s).till))] :: ro R :: cl b7_ 44 [(Value.string t.in__Begin), (Value.string t.in__End), (vB t.in__Point), (vI .i64 t.from_), (vI .i64 t.till)] :: cl b2_ 44 [(Value.string s.in__Begin), (Value.string s.in__End), (vB s.in__Point), (vI .i64 s.from_), (vI .i64 s.till)] :: F) ∧ Same w w1__) ?_ ?_
 ·rintro _ w151_ ⟨b28_, b33_, h, rfl, H152_, S153_⟩
  refine A_ready (i := 7) (rs := []) (by kernel_rfl) ?_
  refine AllR.cons ?_ AllR.nil
  refine A_op0 (ls' := #[true, true, true, true, true, true, true, true]) rfl (by kernel_rfl) (T_storeN (vs := [(Value.string ((SN.plain t).in__Begin)), (Value.string ((SN.plain t).in__End)), (vB ((SN.plain t).in__Point)), (vI .i64 ((SN.plain t).from_)), (vI .i64 ((SN.plain t).till))]) rfl rfl z44 rfl (by simp [Value.oneCell']) H152_ 0 rfl (Nat.le_of_ble_eq_true (by rfl)) ?_)
  intro w154_ S156_ H155_
  have S157_ := Same.trans S153_ S156_
  refine ⟨⟨Holds.rd H155_ 3 rfl, Holds.rd H155_ 4 rfl, (Holds.ro_at H155_ 2 rfl)⟩, ?_⟩
  refine A_done (by kernel_rfl) ?_
  refine (X_then (hK12_ _ _ ?_))
  refine cr fun _ hK158_ => ?_
  refine sm (vI .i64 ord) ?_
  refine sv (v := (vQ b28_)) (by kernel_rfl) ?_
  refine sv (v := (vQ b28_)) (by kernel_rfl) ?_
  refine sv (v := (Value.string ((SN.plain s).in__Begin))) (x_load1 rfl underlying9 rfl ((Holds.rd H155_ 1 rfl) 0 (Value.string ((SN.plain s).in__Begin)) rfl)) ?_
  refine sv (v := (vQ b33_)) (by kernel_rfl) ?_
  refine sv (v := (vP (some ⟨b33_, 1, none⟩))) (by kernel_rfl) ?_
  refine sv (v := (Value.string ((SN.plain t).in__End))) (x_load1 rfl underlying9 rfl ((Holds.rd H155_ 0 rfl) 1 (Value.string ((SN.plain t).in__End)) rfl)) ?_
  refine sv (v := (vP (some ⟨b28_, 3, none⟩))) (by kernel_rfl) ?_
  refine sv (v := (vI .i64 ((SN.plain s).from_))) (x_load1 rfl underlying2 rfl ((Holds.rd H155_ 1 rfl) 3 (vI .i64 ((SN.plain s).from_)) rfl)) ?_
  refine sv (v := (vP (some ⟨b33_, 4, none⟩))) (by kernel_rfl) ?_
  refine sv (v := (vI .i64 ((SN.plain t).till))) (x_load1 rfl underlying2 rfl ((Holds.rd H155_ 0 rfl) 4 (vI .i64 ((SN.plain t).till)) rfl)) ?_
  have H160_ := ((Holds.bring H155_ 2 rfl) :)
  refine S_list (T_call (al := [(vI .i64 ord), (Value.string ((SN.plain s).in__Begin)), (Value.string ((SN.plain t).in__End)), (vI .i64 ((SN.plain s).from_)), (vI .i64 ((SN.plain t).till))]) (pre := []) rfl rfl cb77 (spEnds R ord ((SN.plain s).in__Begin) ((SN.plain t).in__End) ((SN.plain s).from_) ((SN.plain t).till)) H160_ ?_)
  rintro v159_ p164_ w161_ ⟨rfl, rfl⟩ S163_ H162_
  have S165_ := Same.trans S157_ S163_
  refine sv (v := (vB (decide (ecm ord (ek ord ((SN.plain s).in__Begin) ((SN.plain s).from_)) (ek ord ((SN.plain t).in__End) ((SN.plain t).till)) < 0)))) (x_bin rfl rfl rfl) ?_
  refine sv (v := (vB (decide (ecm ord (ek ord ((SN.plain s).in__Begin) ((SN.plain s).from_)) (ek ord ((SN.plain t).in__End) ((SN.plain t).till)) < 0)))) (x_move rfl) ?_
  rcases Bool.eq_false_or_eq_true (decide (ecm ord (ek ord ((SN.plain s).in__Begin) ((SN.plain s).from_)) (ek ord ((SN.plain t).in__End) ((SN.plain t).till)) < 0)) with c166_t | c166_f
  ·have c166_tp : ecm ord (ek ord ((SN.plain s).in__Begin) ((SN.plain s).from_)) (ek ord ((SN.plain t).in__End) ((SN.plain t).till)) < 0 := of_decide_eq_true c166_t
   refine S_yes (j := 13) (dj := 26) (b := true) rfl rfl (congrArg vB c166_t) (T_val (v := (vI .i64 ord)) (x_move rfl) ?_)
   refine S_yes (j := 13) (dj := 26) (b := true) rfl rfl (congrArg vB c166_t) (T_val (v := (vQ b33_)) (by kernel_rfl) ?_)
   refine S_yes (j := 13) (dj := 26) (b := true) rfl rfl (congrArg vB c166_t) (T_val (v := (vQ b33_)) (by kernel_rfl) ?_)
   refine S_yes (j := 13) (dj := 26) (b := true) rfl rfl (congrArg vB c166_t) (T_val (v := (Value.string ((SN.plain t).in__Begin))) (x_load1 rfl underlying9 rfl ((Holds.rd H162_ 1 rfl) 0 (Value.string ((SN.plain t).in__Begin)) rfl)) ?_)
   refine S_yes (j := 13) (dj := 26) (b := true) rfl rfl (congrArg vB c166_t) (T_val (v := (vQ b28_)) (by kernel_rfl) ?_)
   refine S_yes (j := 13) (dj := 26) (b := true) rfl rfl (congrArg vB c166_t) (T_val (v := (vP (some ⟨b28_, 1, none⟩))) (by kernel_rfl) ?_)
   refine S_yes (j := 13) (dj := 26) (b := true) rfl rfl (congrArg vB c166_t) (T_val (v := (Value.string ((SN.plain s).in__End))) (x_load1 rfl underlying9 rfl ((Holds.rd H162_ 2 rfl) 1 (Value.string ((SN.plain s).in__End)) rfl)) ?_)
   refine S_yes (j := 13) (dj := 26) (b := true) rfl rfl (congrArg vB c166_t) (T_val (v := (vP (some ⟨b33_, 3, none⟩))) (by kernel_rfl) ?_)
   refine S_yes (j := 13) (dj := 26) (b := true) rfl rfl (congrArg vB c166_t) (T_val (v := (vI .i64 ((SN.plain t).from_))) (x_load1 rfl underlying2 rfl ((Holds.rd H162_ 1 rfl) 3 (vI .i64 ((SN.plain t).from_)) rfl)) ?_)
   refine S_yes (j := 13) (dj := 26) (b := true) rfl rfl (congrArg vB c166_t) (T_val (v := (vP (some ⟨b28_, 4, none⟩))) (by kernel_rfl) ?_)
   refine S_yes (j := 13) (dj := 26) (b := true) rfl rfl (congrArg vB c166_t) (T_val (v := (vI .i64 ((SN.plain s).till))) (x_load1 rfl underlying2 rfl ((Holds.rd H162_ 2 rfl) 4 (vI .i64 ((SN.plain s).till)) rfl)) ?_)
   refine S_yes (j := 13) (dj := 26) (b := true) rfl rfl (congrArg vB c166_t) (T_call (al := [(vI .i64 ord), (Value.string ((SN.plain t).in__Begin)), (Value.string ((SN.plain s).in__End)), (vI .i64 ((SN.plain t).from_)), (vI .i64 ((SN.plain s).till))]) (pre := []) rfl rfl cb77 (spEnds R ord ((SN.plain t).in__Begin) ((SN.plain s).in__End) ((SN.plain t).from_) ((SN.plain s).till)) H162_ ?_)
   rintro v167_ p171_ w168_ ⟨rfl, rfl⟩ S170_ H169_
   have S172_ := Same.trans S165_ S170_
   refine S_yes (j := 13) (dj := 26) (b := true) rfl rfl (congrArg vB c166_t) (T_val (v := (vB (decide (ecm ord (ek ord ((SN.plain t).in__Begin) ((SN.plain t).from_)) (ek ord ((SN.plain s).in__End) ((SN.plain s).till)) < 0)))) (x_bin rfl rfl rfl) ?_)
   refine S_list (T_pickT (v := (vB (decide (ecm ord (ek ord ((SN.plain t).in__Begin) ((SN.plain t).from_)) (ek ord ((SN.plain s).in__End) ((SN.plain s).till)) < 0)))) (congrArg vB c166_t) rfl ?_)
   refine sv (v := (vB (decide (ecm ord (ek ord ((SN.plain t).in__Begin) ((SN.plain t).from_)) (ek ord ((SN.plain s).in__End) ((SN.plain s).till)) < 0)))) (x_assign rfl) ?_
   refine wn (hK158_ _ _ ?_)
   refine C_ret ?_
   refine R_any (v := (vB (decide (ecm ord (ek ord ((SN.plain t).in__Begin) ((SN.plain t).from_)) (ek ord ((SN.plain s).in__End) ((SN.plain s).till)) < 0)))) (run_results1 rfl rfl) ?_
   have H173_ := Holds.pkF H169_ [0] 4
   exact ⟨_, _, rfl, ⟨(congrArg vB ((by unfold sMeet SN.lo SN.hi; simp [c166_t]) : (decide (ecm ord (ek ord ((SN.plain t).in__Begin) ((SN.plain t).from_)) (ek ord ((SN.plain s).in__End) ((SN.plain s).till)) < 0)) = (sMeet ord s t))), rfl⟩, S172_, H173_⟩
  ·have c166_fp : ¬ (ecm ord (ek ord ((SN.plain s).in__Begin) ((SN.plain s).from_)) (ek ord ((SN.plain t).in__End) ((SN.plain t).till)) < 0) := of_decide_eq_false c166_f
   refine S_no (j := 13) (dj := 26) (b := false) rfl rfl (congrArg vB c166_f) (by decide) ?_
   refine S_no (j := 13) (dj := 26) (b := false) rfl rfl (congrArg vB c166_f) (by decide) ?_
   refine S_no (j := 13) (dj := 26) (b := false) rfl rfl (congrArg vB c166_f) (by decide) ?_
   refine S_no (j := 13) (dj := 26) (b := false) rfl rfl (congrArg vB c166_f) (by decide) ?_
   refine S_no (j := 13) (dj := 26) (b := false) rfl rfl (congrArg vB c166_f) (by decide) ?_
   refine S_no (j := 13) (dj := 26) (b := false) rfl rfl (congrArg vB c166_f) (by decide) ?_
   refine S_no (j := 13) (dj := 26) (b := false) rfl rfl (congrArg vB c166_f) (by decide) ?_
   refine S_no (j := 13) (dj := 26) (b := false) rfl rfl (congrArg vB c166_f) (by decide) ?_
   refine S_no (j := 13) (dj := 26) (b := false) rfl rfl (congrArg vB c166_f) (by decide) ?_
   refine S_no (j := 13) (dj := 26) (b := false) rfl rfl (congrArg vB c166_f) (by decide) ?_
   refine S_no (j := 13) (dj := 26) (b := false) rfl rfl (congrArg vB c166_f) (by decide) ?_
   refine S_no (j := 13) (dj := 26) (b := false) rfl rfl (congrArg vB c166_f) (by decide) ?_
   refine S_no (j := 13) (dj := 26) (b := false) rfl rfl (congrArg vB c166_f) (by decide) ?_
   refine S_list (T_pickF (v := (vB false)) (congrArg vB c166_f) rfl ?_)
   refine sv (v := (vB false)) (x_assign rfl) ?_
   refine wn (hK158_ _ _ ?_)
   refine C_ret ?_
   refine R_any (v := (vB false)) (run_results1 rfl rfl) ?_
   have H174_ := Holds.pkF H162_ [0] 4
   exact ⟨_, _, rfl, ⟨(congrArg vB ((by unfold sMeet SN.lo SN.hi; simp [c166_f]) : false = (sMeet ord s t))), rfl⟩, S165_, H174_⟩
 intro hJ143
 refine A_cut #[true, true, true, true, true, true, false, false] 2 (fun a__ w1__ => ∃ b28_ : Nat, ∃ b33_ : Nat, ∃ h : Env, a__ = mkA 41 (upd (upd (upd (upd (upd (upd h 0 (vI .i64 ord)) 6 (vB false)) 7 (vQ b28_)) 8 (vQ b33_)) 10 (vA #[(Value.string ((SN.plain s).in__Begin)), (Value.string ((SN.plain s).in__End)), (vB ((SN.plain s).in__Point)), (vI .i64 ((SN.plain s).from_)), (vI .i64 ((SN.plain s).till))])) 12 (vA #[(Value.string ((SN.plain t).in__Begin)), (Value.string ((SN.plain t).in__End)), (vB ((SN.plain t).in__Point)), (vI .i64 ((SN.plain t).from_)), (vI .i64 ((SN.plain t).till))])) [] ∧ Holds w1__ (cl b33_ 44 [(Value.string ByteArray.empty), (Value.string ByteArray.empty), (vB false), (vI .i64 0), (vI .i64 0)] :: cl b28_ 44 [(Value.string ByteArray.empty), (Value.string ByteArray.empty), (vB false), (vI .i64 0), (vI .i64 0)] :: ro R :: cl b7_ 44 [(Value.string t.in__Begin), (Value.string t.in__End), (vB t.in__Point), (vI .i64 t.from_), (vI .i64 t.till)] :: cl b2_ 44 [(Value.string s.in__Begin), (Value.string s.in__End), (vB s.in__Point), (vI .i64 s.from_), (vI .i64 s.till)] :: F) ∧ Same w w1__) ?_ ?_
 ·rintro _ w175_ ⟨b28_, b33_, h, rfl, H176_, S177_⟩
  refine A_ready (i := 6) (rs := []) (by kernel_rfl) ?_
  refine AllR.cons ?_ AllR.nil
  refine A_op0 (ls' := #[true, true, true, true, true, true, true, false]) rfl (by kernel_rfl) (T_storeN (vs := [(Value.string ((SN.plain s).in__Begin)), (Value.string ((SN.plain s).in__End)), (vB ((SN.plain s).in__Point)), (vI .i64 ((SN.plain s).from_)), (vI .i64 ((SN.plain s).till))]) rfl rfl z44 rfl (by simp [Value.oneCell']) H176_ 1 rfl (Nat.le_of_ble_eq_true (by rfl)) ?_)
  intro w178_ S180_ H179_
  have S181_ := Same.trans S177_ S180_
  refine ⟨⟨Holds.rd H179_ 3 rfl, Holds.rd H179_ 4 rfl, (Holds.ro_at H179_ 2 rfl)⟩, ?_⟩
  exact hJ143 _ _ ⟨b28_, b33_, _, congrArg (fun e => mkA 41 e []) (ch (ch (ch (ch (ch rfl rfl) rfl) rfl) rfl) rfl), H179_, S181_⟩
 intro hJ142
 refine A_cut #[true, true, true, true, true, false, false, false] 3 (fun a__ w1__ => ∃ b28_ : Nat, ∃ h : Env, a__ = mkA 41 (upd (upd (upd (upd (upd h 0 (vI .i64 ord)) 6 (vB false)) 7 (vQ b28_)) 10 (vA #[(Value.string ((SN.plain s).in__Begin)), (Value.string ((SN.plain s).in__End)), (vB ((SN.plain s).in__Point)), (vI .i64 ((SN.plain s).from_)), (vI .i64 ((SN.plain s).till))])) 12 (vA #[(Value.string ((SN.plain t).in__Begin)), (Value.string ((SN.plain t).in__End)), (vB ((SN.plain t).in__Point)), (vI .i64 ((SN.plain t).from_)), (vI .i64 ((SN.plain t).till))])) [] ∧ Holds w1__ (cl b28_ 44 [(Value.string ByteArray.empty), (Value.string ByteArray.empty), (vB false), (vI .i64 0), (vI .i64 0)] :: ro R :: cl b7_ 44 [(Value.string t.in__Begin), (Value.string t.in__End), (vB t.in__Point), (vI .i64 t.from_), (vI .i64 t.till)] :: cl b2_ 44 [(Value.string s.in__Begin), (Value.string s.in__End), (vB s.in__Point), (vI .i64 s.from_), (vI .i64 s.till)] :: F) ∧ Same w w1__) ?_ ?_
 ·rintro _ w182_ ⟨b28_, h, rfl, H183_, S184_⟩
  refine A_ready (i := 5) (rs := []) (by kernel_rfl) ?_
  refine AllR.cons ?_ AllR.nil
  refine A_op (ls' := #[true, true, true, true, true, true, false, false]) rfl (by kernel_rfl) (T_alloc z44 H183_ ?_)
  intro b185_ w186_ S188_ H187_
  have S189_ := Same.trans S184_ S188_
  refine ⟨⟨Holds.rd H187_ 3 rfl, Holds.rd H187_ 4 rfl, (Holds.ro_at H187_ 2 rfl)⟩, ?_⟩
  exact hJ142 _ _ ⟨b28_, b185_, _, congrArg (fun e => mkA 41 e []) (ch (ch (ch (ch (ch (ch rfl rfl) rfl) rfl) rfl) rfl) rfl), H187_, S189_⟩
 intro hJ141
 refine A_cut #[true, true, true, true, false, true, false, false] 3 (fun a__ w1__ => ∃ b46_ : Nat, ∃ h : Env, a__ = mkA 41 (upd (upd (upd (upd (upd h 0 (vI .i64 ord)) 6 (vB false)) 8 (vQ b46_)) 10 (vA #[(Value.string ((SN.plain s).in__Begin)), (Value.string ((SN.plain s).in__End)), (vB ((SN.plain s).in__Point)), (vI .i64 ((SN.plain s).from_)), (vI .i64 ((SN.plain s).till))])) 12 (vA #[(Value.string ((SN.plain t).in__Begin)), (Value.string ((SN.plain t).in__End)), (vB ((SN.plain t).in__Point)), (vI .i64 ((SN.plain t).from_)), (vI .i64 ((SN.plain t).till))])) [] ∧ Holds w1__ (cl b46_ 44 [(Value.string ByteArray.empty), (Value.string ByteArray.empty), (vB false), (vI .i64 0), (vI .i64 0)] :: ro R :: cl b7_ 44 [(Value.string t.in__Begin), (Value.string t.in__End), (vB t.in__Point), (vI .i64 t.from_), (vI .i64 t.till)] :: cl b2_ 44 [(Value.string s.in__Begin), (Value.string s.in__End), (vB s.in__Point), (vI .i64 s.from_), (vI .i64 s.till)] :: F) ∧ Same w w1__) ?_ ?_
 ·rintro _ w190_ ⟨b46_, h, rfl, H191_, S192_⟩
  refine A_ready (i := 4) (rs := []) (by kernel_rfl) ?_
  refine AllR.cons ?_ AllR.nil
  refine A_op (ls' := #[true, true, true, true, true, true, false, false]) rfl (by kernel_rfl) (T_alloc z44 H191_ ?_)
  intro b193_ w194_ S196_ H195_
  have S197_ := Same.trans S192_ S196_
  refine ⟨⟨Holds.rd H195_ 3 rfl, Holds.rd H195_ 4 rfl, (Holds.ro_at H195_ 2 rfl)⟩, ?_⟩
  have H198_ := Holds.pkF H195_ [1, 0, 0, 0, 0] 0
  exact hJ142 _ _ ⟨b193_, b46_, _, congrArg (fun e => mkA 41 e []) (ch (ch (ch (ch (ch (ch rfl rfl) rfl) rfl) rfl) rfl) rfl), H198_, S197_⟩
 intro hJ144
 refine A_cut #[true, true, true, false, true, true, false, false] 3 (fun a__ w1__ => ∃ b56_ : Nat, ∃ b68_ : Nat, ∃ h : Env, a__ = mkA 41 (upd (upd (upd (upd (upd (upd h 0 (vI .i64 ord)) 6 (vB false)) 7 (vQ b56_)) 8 (vQ b68_)) 10 (vA #[(Value.string ((SN.plain s).in__Begin)), (Value.string ((SN.plain s).in__End)), (vB ((SN.plain s).in__Point)), (vI .i64 ((SN.plain s).from_)), (vI .i64 ((SN.plain s).till))])) 11 (vA #[(Value.string t.in__Begin), (Value.string t.in__End), (vB t.in__Point), (vI .i64 t.from_), (vI .i64 t.till)])) [] ∧ Holds w1__ (cl b68_ 44 [(Value.string ByteArray.empty), (Value.string ByteArray.empty), (vB false), (vI .i64 0), (vI .i64 0)] :: cl b56_ 44 [(Value.string ByteArray.empty), (Value.string ByteArray.empty), (vB false), (vI .i64 0), (vI .i64 0)] :: ro R :: cl b7_ 44 [(Value.string t.in__Begin), (Value.string t.in__End), (vB t.in__Point), (vI .i64 t.from_), (vI .i64 t.till)] :: cl b2_ 44 [(Value.string s.in__Begin), (Value.string s.in__End), (vB s.in__Point), (vI .i64 s.from_), (vI .i64 s.till)] :: F) ∧ Same w w1__) ?_ ?_
 ·rintro _ w199_ ⟨b56_, b68_, h, rfl, H200_, S201_⟩
  refine A_ready (i := 3) (rs := []) (by kernel_rfl) ?_
  refine AllR.cons ?_ AllR.nil
  have H203_ := ((Holds.bring H200_ 2 rfl) :)
  refine A_op (ls' := #[true, true, true, true, true, true, false, false]) rfl (by kernel_rfl) (T_call (al := [(vA #[(Value.string t.in__Begin), (Value.string t.in__End), (vB t.in__Point), (vI .i64 t.from_), (vI .i64 t.till)])]) (pre := []) rfl rfl cb76 (spPlain R t (by first | assumption | omega)) H203_ ?_)
  rintro v202_ p207_ w204_ ⟨rfl, rfl⟩ S206_ H205_
  have S208_ := Same.trans S201_ S206_
  refine ⟨⟨Holds.rd H205_ 3 rfl, Holds.rd H205_ 4 rfl, (Holds.ro_at H205_ 0 rfl)⟩, ?_⟩
  have H209_ := Holds.pkF H205_ [1, 1, 0, 0, 0] 0
  exact hJ142 _ _ ⟨b56_, b68_, _, congrArg (fun e => mkA 41 e []) (ch (ch (ch (ch (ch (ch rfl rfl) rfl) rfl) rfl) rfl) rfl), H209_, S208_⟩
 intro hJ146
 refine A_cut #[true, true, true, true, false, false, false, false] 4 (fun a__ w1__ => ∃ h : Env, a__ = mkA 41 (upd (upd (upd (upd h 0 (vI .i64 ord)) 6 (vB false)) 10 (vA #[(Value.string ((SN.plain s).in__Begin)), (Value.string ((SN.plain s).in__End)), (vB ((SN.plain s).in__Point)), (vI .i64 ((SN.plain s).from_)), (vI .i64 ((SN.plain s).till))])) 12 (vA #[(Value.string ((SN.plain t).in__Begin)), (Value.string ((SN.plain t).in__End)), (vB ((SN.plain t).in__Point)), (vI .i64 ((SN.plain t).from_)), (vI .i64 ((SN.plain t).till))])) [] ∧ Holds w1__ (ro R :: cl b7_ 44 [(Value.string t.in__Begin), (Value.string t.in__End), (vB t.in__Point), (vI .i64 t.from_), (vI .i64 t.till)] :: cl b2_ 44 [(Value.string s.in__Begin), (Value.string s.in__End), (vB s.in__Point), (vI .i64 s.from_), (vI .i64 s.till)] :: F) ∧ Same w w1__) ?_ ?_
 ·rintro _ w210_ ⟨h, rfl, H211_, S212_⟩
  refine A_ready (i := 4) (rs := [5]) (by kernel_rfl) ?_
  refine AllR.cons ?_ ?_
  ·skip
   refine A_op (ls' := #[true, true, true, true, true, false, false, false]) rfl (by kernel_rfl) (T_alloc z44 H211_ ?_)
   intro b213_ w214_ S216_ H215_
   have S217_ := Same.trans S212_ S216_
   refine ⟨⟨Holds.rd H215_ 2 rfl, Holds.rd H215_ 3 rfl, (Holds.ro_at H215_ 1 rfl)⟩, ?_⟩
   exact hJ141 _ _ ⟨b213_, _, congrArg (fun e => mkA 41 e []) (ch (ch (ch (ch (ch rfl rfl) rfl) rfl) rfl) rfl), H215_, S217_⟩
  refine AllR.cons ?_ AllR.nil
  refine A_op (ls' := #[true, true, true, true, false, true, false, false]) rfl (by kernel_rfl) (T_alloc z44 H211_ ?_)
  intro b218_ w219_ S221_ H220_
  have S222_ := Same.trans S212_ S221_
  refine ⟨⟨Holds.rd H220_ 2 rfl, Holds.rd H220_ 3 rfl, (Holds.ro_at H220_ 1 rfl)⟩, ?_⟩
  exact hJ144 _ _ ⟨b218_, _, congrArg (fun e => mkA 41 e []) (ch (ch (ch (ch (ch rfl rfl) rfl) rfl) rfl) rfl), H220_, S222_⟩
 intro hJ140
 refine A_cut #[true, true, true, false, true, false, false, false] 4 (fun a__ w1__ => ∃ b56_ : Nat, ∃ h : Env, a__ = mkA 41 (upd (upd (upd (upd (upd h 0 (vI .i64 ord)) 6 (vB false)) 7 (vQ b56_)) 10 (vA #[(Value.string ((SN.plain s).in__Begin)), (Value.string ((SN.plain s).in__End)), (vB ((SN.plain s).in__Point)), (vI .i64 ((SN.plain s).from_)), (vI .i64 ((SN.plain s).till))])) 11 (vA #[(Value.string t.in__Begin), (Value.string t.in__End), (vB t.in__Point), (vI .i64 t.from_), (vI .i64 t.till)])) [] ∧ Holds w1__ (cl b56_ 44 [(Value.string ByteArray.empty), (Value.string ByteArray.empty), (vB false), (vI .i64 0), (vI .i64 0)] :: ro R :: cl b7_ 44 [(Value.string t.in__Begin), (Value.string t.in__End), (vB t.in__Point), (vI .i64 t.from_), (vI .i64 t.till)] :: cl b2_ 44 [(Value.string s.in__Begin), (Value.string s.in__End), (vB s.in__Point), (vI .i64 s.from_), (vI .i64 s.till)] :: F) ∧ Same w w1__) ?_ ?_
 ·rintro _ w223_ ⟨b56_, h, rfl, H224_, S225_⟩
  refine A_ready (i := 3) (rs := [5]) (by kernel_rfl) ?_
  refine AllR.cons ?_ ?_
  ·skip
   have H227_ := ((Holds.bring H224_ 1 rfl) :)
   refine A_op (ls' := #[true, true, true, true, true, false, false, false]) rfl (by kernel_rfl) (T_call (al := [(vA #[(Value.string t.in__Begin), (Value.string t.in__End), (vB t.in__Point), (vI .i64 t.from_), (vI .i64 t.till)])]) (pre := []) rfl rfl cb76 (spPlain R t (by first | assumption | omega)) H227_ ?_)
   rintro v226_ p231_ w228_ ⟨rfl, rfl⟩ S230_ H229_
   have S232_ := Same.trans S225_ S230_
   refine ⟨⟨Holds.rd H229_ 2 rfl, Holds.rd H229_ 3 rfl, (Holds.ro_at H229_ 0 rfl)⟩, ?_⟩
   have H233_ := Holds.pkF H229_ [1, 0, 0, 0] 0
   exact hJ141 _ _ ⟨b56_, _, congrArg (fun e => mkA 41 e []) (ch (ch (ch (ch (ch rfl rfl) rfl) rfl) rfl) rfl), H233_, S232_⟩
  refine AllR.cons ?_ AllR.nil
  refine A_op (ls' := #[true, true, true, false, true, true, false, false]) rfl (by kernel_rfl) (T_alloc z44 H224_ ?_)
  intro b234_ w235_ S237_ H236_
  have S238_ := Same.trans S225_ S237_
  refine ⟨⟨Holds.rd H236_ 3 rfl, Holds.rd H236_ 4 rfl, (Holds.ro_at H236_ 2 rfl)⟩, ?_⟩
  exact hJ146 _ _ ⟨b56_, b234_, _, congrArg (fun e => mkA 41 e []) (ch (ch (ch (ch (ch (ch rfl rfl) rfl) rfl) rfl) rfl) rfl), H236_, S238_⟩
 intro hJ145
 refine A_cut #[true, true, true, false, false, true, false, false] 4 (fun a__ w1__ => ∃ b80_ : Nat, ∃ h : Env, a__ = mkA 41 (upd (upd (upd (upd (upd h 0 (vI .i64 ord)) 6 (vB false)) 8 (vQ b80_)) 10 (vA #[(Value.string ((SN.plain s).in__Begin)), (Value.string ((SN.plain s).in__End)), (vB ((SN.plain s).in__Point)), (vI .i64 ((SN.plain s).from_)), (vI .i64 ((SN.plain s).till))])) 11 (vA #[(Value.string t.in__Begin), (Value.string t.in__End), (vB t.in__Point), (vI .i64 t.from_), (vI .i64 t.till)])) [] ∧ Holds w1__ (cl b80_ 44 [(Value.string ByteArray.empty), (Value.string ByteArray.empty), (vB false), (vI .i64 0), (vI .i64 0)] :: ro R :: cl b7_ 44 [(Value.string t.in__Begin), (Value.string t.in__End), (vB t.in__Point), (vI .i64 t.from_), (vI .i64 t.till)] :: cl b2_ 44 [(Value.string s.in__Begin), (Value.string s.in__End), (vB s.in__Point), (vI .i64 s.from_), (vI .i64 s.till)] :: F) ∧ Same w w1__) ?_ ?_
 ·rintro _ w239_ ⟨b80_, h, rfl, H240_, S241_⟩
  refine A_ready (i := 3) (rs := [4]) (by kernel_rfl) ?_
  refine AllR.cons ?_ ?_
  ·skip
   have H243_ := ((Holds.bring H240_ 1 rfl) :)
   refine A_op (ls' := #[true, true, true, true, false, true, false, false]) rfl (by kernel_rfl) (T_call (al := [(vA #[(Value.string t.in__Begin), (Value.string t.in__End), (vB t.in__Point), (vI .i64 t.from_), (vI .i64 t.till)])]) (pre := []) rfl rfl cb76 (spPlain R t (by first | assumption | omega)) H243_ ?_)
   rintro v242_ p247_ w244_ ⟨rfl, rfl⟩ S246_ H245_
   have S248_ := Same.trans S241_ S246_
   refine ⟨⟨Holds.rd H245_ 2 rfl, Holds.rd H245_ 3 rfl, (Holds.ro_at H245_ 0 rfl)⟩, ?_⟩
   have H249_ := Holds.pkF H245_ [1, 0, 0, 0] 0
   exact hJ144 _ _ ⟨b80_, _, congrArg (fun e => mkA 41 e []) (ch (ch (ch (ch (ch rfl rfl) rfl) rfl) rfl) rfl), H249_, S248_⟩
  refine AllR.cons ?_ AllR.nil
  refine A_op (ls' := #[true, true, true, false, true, true, false, false]) rfl (by kernel_rfl) (T_alloc z44 H240_ ?_)
  intro b250_ w251_ S253_ H252_
  have S254_ := Same.trans S241_ S253_
  refine ⟨⟨Holds.rd H252_ 3 rfl, Holds.rd H252_ 4 rfl, (Holds.ro_at H252_ 2 rfl)⟩, ?_⟩
  have H255_ := Holds.pkF H252_ [1, 0, 0, 0, 0] 0
  exact hJ146 _ _ ⟨b250_, b80_, _, congrArg (fun e => mkA 41 e []) (ch (ch (ch (ch (ch (ch rfl rfl) rfl) rfl) rfl) rfl) rfl), H255_, S254_⟩
 intro hJ147
 refine A_cut #[true, false, true, false, true, true, false, false] 4 (fun a__ w1__ => ∃ b97_ : Nat, ∃ b109_ : Nat, ∃ h : Env, a__ = mkA 41 (upd (upd (upd (upd (upd (upd h 0 (vI .i64 ord)) 6 (vB false)) 7 (vQ b97_)) 8 (vQ b109_)) 9 (vA #[(Value.string s.in__Begin), (Value.string s.in__End), (vB s.in__Point), (vI .i64 s.from_), (vI .i64 s.till)])) 11 (vA #[(Value.string t.in__Begin), (Value.string t.in__End), (vB t.in__Point), (vI .i64 t.from_), (vI .i64 t.till)])) [] ∧ Holds w1__ (cl b109_ 44 [(Value.string ByteArray.empty), (Value.string ByteArray.empty), (vB false), (vI .i64 0), (vI .i64 0)] :: cl b97_ 44 [(Value.string ByteArray.empty), (Value.string ByteArray.empty), (vB false), (vI .i64 0), (vI .i64 0)] :: cl b7_ 44 [(Value.string t.in__Begin), (Value.string t.in__End), (vB t.in__Point), (vI .i64 t.from_), (vI .i64 t.till)] :: cl b2_ 44 [(Value.string s.in__Begin), (Value.string s.in__End), (vB s.in__Point), (vI .i64 s.from_), (vI .i64 s.till)] :: ro R :: F) ∧ Same w w1__) ?_ ?_
 ·rintro _ w256_ ⟨b97_, b109_, h, rfl, H257_, S258_⟩
  refine A_ready (i := 1) (rs := []) (by kernel_rfl) ?_
  refine AllR.cons ?_ AllR.nil
  have H260_ := ((Holds.bring H257_ 4 rfl) :)
  refine A_op (ls' := #[true, true, true, false, true, true, false, false]) rfl (by kernel_rfl) (T_call (al := [(vA #[(Value.string s.in__Begin), (Value.string s.in__End), (vB s.in__Point), (vI .i64 s.from_), (vI .i64 s.till)])]) (pre := []) rfl rfl cb76 (spPlain R s (by first | assumption | omega)) H260_ ?_)
  rintro v259_ p264_ w261_ ⟨rfl, rfl⟩ S263_ H262_
  have S265_ := Same.trans S258_ S263_
  refine ⟨⟨Holds.rd H262_ 3 rfl, Holds.rd H262_ 4 rfl, (Holds.ro_at H262_ 0 rfl)⟩, ?_⟩
  have H266_ := Holds.pkF H262_ [1, 1, 0, 0, 0] 0
  exact hJ146 _ _ ⟨b97_, b109_, _, congrArg (fun e => mkA 41 e []) (ch (ch (ch (ch (ch (ch rfl rfl) rfl) rfl) rfl) rfl) rfl), H266_, S265_⟩
 intro hJ149
 refine A_cut #[true, true, true, false, false, false, false, false] 5 (fun a__ w1__ => ∃ h : Env, a__ = mkA 41 (upd (upd (upd (upd h 0 (vI .i64 ord)) 6 (vB false)) 10 (vA #[(Value.string ((SN.plain s).in__Begin)), (Value.string ((SN.plain s).in__End)), (vB ((SN.plain s).in__Point)), (vI .i64 ((SN.plain s).from_)), (vI .i64 ((SN.plain s).till))])) 11 (vA #[(Value.string t.in__Begin), (Value.string t.in__End), (vB t.in__Point), (vI .i64 t.from_), (vI .i64 t.till)])) [] ∧ Holds w1__ (ro R :: cl b7_ 44 [(Value.string t.in__Begin), (Value.string t.in__End), (vB t.in__Point), (vI .i64 t.from_), (vI .i64 t.till)] :: cl b2_ 44 [(Value.string s.in__Begin), (Value.string s.in__End), (vB s.in__Point), (vI .i64 s.from_), (vI .i64 s.till)] :: F) ∧ Same w w1__) ?_ ?_
 ·rintro _ w267_ ⟨h, rfl, H268_, S269_⟩
  refine A_ready (i := 3) (rs := [4, 5]) (by kernel_rfl) ?_
  refine AllR.cons ?_ ?_
  ·skip
   refine A_op (ls' := #[true, true, true, true, false, false, false, false]) rfl (by kernel_rfl) (T_call (al := [(vA #[(Value.string t.in__Begin), (Value.string t.in__End), (vB t.in__Point), (vI .i64 t.from_), (vI .i64 t.till)])]) (pre := []) rfl rfl cb76 (spPlain R t (by first | assumption | omega)) H268_ ?_)
   rintro v270_ p274_ w271_ ⟨rfl, rfl⟩ S273_ H272_
   have S275_ := Same.trans S269_ S273_
   refine ⟨⟨Holds.rd H272_ 1 rfl, Holds.rd H272_ 2 rfl, (Holds.ro_at H272_ 0 rfl)⟩, ?_⟩
   exact hJ140 _ _ ⟨_, congrArg (fun e => mkA 41 e []) (ch (ch (ch (ch rfl rfl) rfl) rfl) rfl), H272_, S275_⟩
  refine AllR.cons ?_ ?_
  ·skip
   refine A_op (ls' := #[true, true, true, false, true, false, false, false]) rfl (by kernel_rfl) (T_alloc z44 H268_ ?_)
   intro b276_ w277_ S279_ H278_
   have S280_ := Same.trans S269_ S279_
   refine ⟨⟨Holds.rd H278_ 2 rfl, Holds.rd H278_ 3 rfl, (Holds.ro_at H278_ 1 rfl)⟩, ?_⟩
   exact hJ145 _ _ ⟨b276_, _, congrArg (fun e => mkA 41 e []) (ch (ch (ch (ch (ch rfl rfl) rfl) rfl) rfl) rfl), H278_, S280_⟩
  refine AllR.cons ?_ AllR.nil
  refine A_op (ls' := #[true, true, true, false, false, true, false, false]) rfl (by kernel_rfl) (T_alloc z44 H268_ ?_)
  intro b281_ w282_ S284_ H283_
  have S285_ := Same.trans S269_ S284_
  refine ⟨⟨Holds.rd H283_ 2 rfl, Holds.rd H283_ 3 rfl, (Holds.ro_at H283_ 1 rfl)⟩, ?_⟩
  exact hJ147 _ _ ⟨b281_, _, congrArg (fun e => mkA 41 e []) (ch (ch (ch (ch (ch rfl rfl) rfl) rfl) rfl) rfl), H283_, S285_⟩
 intro hJ139
 refine A_cut #[true, false, true, false, true, false, false, false] 5 (fun a__ w1__ => ∃ b97_ : Nat, ∃ h : Env, a__ = mkA 41 (upd (upd (upd (upd (upd h 0 (vI .i64 ord)) 6 (vB false)) 7 (vQ b97_)) 9 (vA #[(Value.string s.in__Begin), (Value.string s.in__End), (vB s.in__Point), (vI .i64 s.from_), (vI .i64 s.till)])) 11 (vA #[(Value.string t.in__Begin), (Value.string t.in__End), (vB t.in__Point), (vI .i64 t.from_), (vI .i64 t.till)])) [] ∧ Holds w1__ (cl b97_ 44 [(Value.string ByteArray.empty), (Value.string ByteArray.empty), (vB false), (vI .i64 0), (vI .i64 0)] :: cl b7_ 44 [(Value.string t.in__Begin), (Value.string t.in__End), (vB t.in__Point), (vI .i64 t.from_), (vI .i64 t.till)] :: cl b2_ 44 [(Value.string s.in__Begin), (Value.string s.in__End), (vB s.in__Point), (vI .i64 s.from_), (vI .i64 s.till)] :: ro R :: F) ∧ Same w w1__) ?_ ?_
 ·rintro _ w286_ ⟨b97_, h, rfl, H287_, S288_⟩
  refine A_ready (i := 1) (rs := [5]) (by kernel_rfl) ?_
  refine AllR.cons ?_ ?_
  ·skip
   have H290_ := ((Holds.bring H287_ 3 rfl) :)
   refine A_op (ls' := #[true, true, true, false, true, false, false, false]) rfl (by kernel_rfl) (T_call (al := [(vA #[(Value.string s.in__Begin), (Value.string s.in__End), (vB s.in__Point), (vI .i64 s.from_), (vI .i64 s.till)])]) (pre := []) rfl rfl cb76 (spPlain R s (by first | assumption | omega)) H290_ ?_)
   rintro v289_ p294_ w291_ ⟨rfl, rfl⟩ S293_ H292_
   have S295_ := Same.trans S288_ S293_
   refine ⟨⟨Holds.rd H292_ 2 rfl, Holds.rd H292_ 3 rfl, (Holds.ro_at H292_ 0 rfl)⟩, ?_⟩
   have H296_ := Holds.pkF H292_ [1, 0, 0, 0] 0
   exact hJ145 _ _ ⟨b97_, _, congrArg (fun e => mkA 41 e []) (ch (ch (ch (ch (ch rfl rfl) rfl) rfl) rfl) rfl), H296_, S295_⟩
  refine AllR.cons ?_ AllR.nil
  refine A_op (ls' := #[true, false, true, false, true, true, false, false]) rfl (by kernel_rfl) (T_alloc z44 H287_ ?_)
  intro b297_ w298_ S300_ H299_
  have S301_ := Same.trans S288_ S300_
  refine ⟨⟨Holds.rd H299_ 2 rfl, Holds.rd H299_ 3 rfl, (Holds.ro_at H299_ 4 rfl)⟩, ?_⟩
  exact hJ149 _ _ ⟨b97_, b297_, _, congrArg (fun e => mkA 41 e []) (ch (ch (ch (ch (ch (ch rfl rfl) rfl) rfl) rfl) rfl) rfl), H299_, S301_⟩
 intro hJ148
 refine A_cut #[true, false, true, false, false, true, false, false] 5 (fun a__ w1__ => ∃ b121_ : Nat, ∃ h : Env, a__ = mkA 41 (upd (upd (upd (upd (upd h 0 (vI .i64 ord)) 6 (vB false)) 8 (vQ b121_)) 9 (vA #[(Value.string s.in__Begin), (Value.string s.in__End), (vB s.in__Point), (vI .i64 s.from_), (vI .i64 s.till)])) 11 (vA #[(Value.string t.in__Begin), (Value.string t.in__End), (vB t.in__Point), (vI .i64 t.from_), (vI .i64 t.till)])) [] ∧ Holds w1__ (cl b121_ 44 [(Value.string ByteArray.empty), (Value.string ByteArray.empty), (vB false), (vI .i64 0), (vI .i64 0)] :: cl b7_ 44 [(Value.string t.in__Begin), (Value.string t.in__End), (vB t.in__Point), (vI .i64 t.from_), (vI .i64 t.till)] :: cl b2_ 44 [(Value.string s.in__Begin), (Value.string s.in__End), (vB s.in__Point), (vI .i64 s.from_), (vI .i64 s.till)] :: ro R :: F) ∧ Same w w1__) ?_ ?_
 ·rintro _ w302_ ⟨b121_, h, rfl, H303_, S304_⟩
  refine A_ready (i := 1) (rs := [4]) (by kernel_rfl) ?_
  refine AllR.cons ?_ ?_
  ·skip
   have H306_ := ((Holds.bring H303_ 3 rfl) :)
   refine A_op (ls' := #[true, true, true, false, false, true, false, false]) rfl (by kernel_rfl) (T_call (al := [(vA #[(Value.string s.in__Begin), (Value.string s.in__End), (vB s.in__Point), (vI .i64 s.from_), (vI .i64 s.till)])]) (pre := []) rfl rfl cb76 (spPlain R s (by first | assumption | omega)) H306_ ?_)
   rintro v305_ p310_ w307_ ⟨rfl, rfl⟩ S309_ H308_
   have S311_ := Same.trans S304_ S309_
   refine ⟨⟨Holds.rd H308_ 2 rfl, Holds.rd H308_ 3 rfl, (Holds.ro_at H308_ 0 rfl)⟩, ?_⟩
   have H312_ := Holds.pkF H308_ [1, 0, 0, 0] 0
   exact hJ147 _ _ ⟨b121_, _, congrArg (fun e => mkA 41 e []) (ch (ch (ch (ch (ch rfl rfl) rfl) rfl) rfl) rfl), H312_, S311_⟩
  refine AllR.cons ?_ AllR.nil
  refine A_op (ls' := #[true, false, true, false, true, true, false, false]) rfl (by kernel_rfl) (T_alloc z44 H303_ ?_)
  intro b313_ w314_ S316_ H315_
  have S317_ := Same.trans S304_ S316_
  refine ⟨⟨Holds.rd H315_ 2 rfl, Holds.rd H315_ 3 rfl, (Holds.ro_at H315_ 4 rfl)⟩, ?_⟩
  have H318_ := Holds.pkF H315_ [1, 0, 0, 0, 0] 0
  exact hJ149 _ _ ⟨b313_, b121_, _, congrArg (fun e => mkA 41 e []) (ch (ch (ch (ch (ch (ch rfl rfl) rfl) rfl) rfl) rfl) rfl), H318_, S317_⟩
 intro hJ150
 have hq319_ := And.intro (Holds.rd H13_ 0 rfl) (And.intro (Holds.rd H13_ 1 rfl) ((Holds.ro_at H13_ 2 rfl)))
 refine A_tk 0 (v := (vA #[(Value.string s.in__Begin), (Value.string s.in__End), (vB s.in__Point), (vI .i64 s.from_), (vI .i64 s.till)])) rfl (by kernel_rfl) (fun w hS => x_loadN (vs := [(Value.string s.in__Begin), (Value.string s.in__End), (vB s.in__Point), (vI .i64 s.from_), (vI .i64 s.till)]) rfl underlying44 rfl z44 rfl (Rd.cells hS.2.1 0 rfl)) hq319_ ?_
 refine A_tk 2 (v := (vA #[(Value.string t.in__Begin), (Value.string t.in__End), (vB t.in__Point), (vI .i64 t.from_), (vI .i64 t.till)])) rfl (by kernel_rfl) (fun w hS => x_loadN (vs := [(Value.string t.in__Begin), (Value.string t.in__End), (vB t.in__Point), (vI .i64 t.from_), (vI .i64 t.till)]) rfl underlying44 rfl z44 rfl (Rd.cells hS.1 0 rfl)) hq319_ ?_
 refine A_ready (i := 1) (rs := [4, 5]) (by kernel_rfl) ?_
 refine AllR.cons ?_ ?_
 ·skip
  have H321_ := ((Holds.bring H13_ 2 rfl) :)
  refine A_op (ls' := #[true, true, true, false, false, false, false, false]) rfl (by kernel_rfl) (T_call (al := [(vA #[(Value.string s.in__Begin), (Value.string s.in__End), (vB s.in__Point), (vI .i64 s.from_), (vI .i64 s.till)])]) (pre := []) rfl rfl cb76 (spPlain R s (by first | assumption | omega)) H321_ ?_)
  rintro v320_ p325_ w322_ ⟨rfl, rfl⟩ S324_ H323_
  have S326_ := Same.trans (Same.trans S11_ (Same.drew _)) S324_
  refine ⟨⟨Holds.rd H323_ 1 rfl, Holds.rd H323_ 2 rfl, (Holds.ro_at H323_ 0 rfl)⟩, ?_⟩
  exact hJ139 _ _ ⟨_, congrArg (fun e => mkA 41 e []) (ch (ch (ch (ch rfl rfl) rfl) rfl) rfl), H323_, S326_⟩
 refine AllR.cons ?_ ?_
 ·skip
  refine A_op (ls' := #[true, false, true, false, true, false, false, false]) rfl (by kernel_rfl) (T_alloc z44 H13_ ?_)
  intro b327_ w328_ S330_ H329_
  have S331_ := Same.trans (Same.trans S11_ (Same.drew _)) S330_
  refine ⟨⟨Holds.rd H329_ 1 rfl, Holds.rd H329_ 2 rfl, (Holds.ro_at H329_ 3 rfl)⟩, ?_⟩
  exact hJ148 _ _ ⟨b327_, _, congrArg (fun e => mkA 41 e []) (ch (ch (ch (ch (ch rfl rfl) rfl) rfl) rfl) rfl), H329_, S331_⟩
 refine AllR.cons ?_ AllR.nil
 refine A_op (ls' := #[true, false, true, false, false, true, false, false]) rfl (by kernel_rfl) (T_alloc z44 H13_ ?_)
 intro b332_ w333_ S335_ H334_
 have S336_ := Same.trans (Same.trans S11_ (Same.drew _)) S335_
 refine ⟨⟨Holds.rd H334_ 1 rfl, Holds.rd H334_ 2 rfl, (Holds.ro_at H334_ 3 rfl)⟩, ?_⟩
 exact hJ150 _ _ ⟨b332_, _, congrArg (fun e => mkA 41 e []) (ch (ch (ch (ch (ch rfl rfl) rfl) rfl) rfl) rfl), H334_, S336_⟩

set_option maxHeartbeats 1600000 in
theorem spSame (R : HP) (ord : Int) (s t : SN) (hs : s.in__Begin.size ≤ 2147483647) (ht : t.in__Begin.size ≤ 2147483647) :
    Tri Try.prog 20 #[(vI .i64 ord), (vA #[(Value.string s.in__Begin), (Value.string s.in__End), (vB s.in__Point), (vI .i64 s.from_), (vI .i64 s.till)]), (vA #[(Value.string t.in__Begin), (Value.string t.in__End), (vB t.in__Point), (vI .i64 t.from_), (vI .i64 t.till)])] R [] (fun v__ post__ => v__ = (vB (sSame ord s t)) ∧ post__ = []) := by
 refine Tri.into (n := 19) (al := [(vI .i64 ord), (vA #[(Value.string s.in__Begin), (Value.string s.in__End), (vB s.in__Point), (vI .i64 s.from_), (vI .i64 s.till)]), (vA #[(Value.string t.in__Begin), (Value.string t.in__End), (vB t.in__Point), (vI .i64 t.from_), (vI .i64 t.till)])]) func20 rfl ntmps20 rfl rfl fun w F H => ?_
 refine cr fun _ hK1_ => ?_
 refine S_list (T_box (v := (vA #[(Value.string s.in__Begin), (Value.string s.in__End), (vB s.in__Point), (vI .i64 s.from_), (vI .i64 s.till)])) rfl H ?_)
 intro b2_ w3_ S5_ H4_
 have S6_ := Same.trans (Same.refl w) S5_
 refine S_list (T_box (v := (vA #[(Value.string t.in__Begin), (Value.string t.in__End), (vB t.in__Point), (vI .i64 t.from_), (vI .i64 t.till)])) rfl H4_ ?_)
 intro b7_ w8_ S10_ H9_
 have S11_ := Same.trans S6_ S10_
 refine sv (v := (vB false)) (x_assign rfl) ?_
 refine wn (hK1_ _ _ ?_)
 refine cr fun _ hK12_ => ?_
 refine sm (vI .i64 ord) ?_
 refine sv (v := (vA #[(Value.string s.in__Begin), (Value.string s.in__End), (vB s.in__Point), (vI .i64 s.from_), (vI .i64 s.till)])) (x_loadN (vs := [(Value.string s.in__Begin), (Value.string s.in__End), (vB s.in__Point), (vI .i64 s.from_), (vI .i64 s.till)]) rfl underlying44 rfl z44 rfl (Rd.cells (Holds.rd H9_ 1 rfl) 0 rfl)) ?_
 refine sv (v := (vA #[(Value.string t.in__Begin), (Value.string t.in__End), (vB t.in__Point), (vI .i64 t.from_), (vI .i64 t.till)])) (x_loadN (vs := [(Value.string t.in__Begin), (Value.string t.in__End), (vB t.in__Point), (vI .i64 t.from_), (vI .i64 t.till)]) rfl underlying44 rfl z44 rfl (Rd.cells (Holds.rd H9_ 0 rfl) 0 rfl)) ?_
 have H14_ := ((Holds.bring H9_ 2 rfl) :)
 refine S_list (T_call (al := [(vI .i64 ord), (vA #[(Value.string s.in__Begin), (Value.string s.in__End), (vB s.in__Point), (vI .i64 s.from_), (vI .i64 s.till)]), (vA #[(Value.string t.in__Begin), (Value.string t.in__End), (vB t.in__Point), (vI .i64 t.from_), (vI .i64 t.till)])]) (pre := []) rfl rfl cb55 (spAhead R ord s t (by first | assumption | omega) (by first | assumption | omega)) H14_ ?_)
 rintro v13_ p18_ w15_ ⟨rfl, rfl⟩ S17_ H16_
 have S19_ := Same.trans S11_ S17_
 refine sv (v := (vB (!(sAhead ord s t)))) (x_not rfl) ?_
 refine sm (vB (!(sAhead ord s t))) ?_
 rcases Bool.eq_false_or_eq_true (!(sAhead ord s t)) with c20_t | c20_f
 ·skip
  refine S_yes (j := 5) (dj := 12) (b := true) rfl rfl (congrArg vB c20_t) (T_val (v := (vI .i64 ord)) (x_move rfl) ?_)
  refine S_yes (j := 5) (dj := 12) (b := true) rfl rfl (congrArg vB c20_t) (T_val (v := (vA #[(Value.string t.in__Begin), (Value.string t.in__End), (vB t.in__Point), (vI .i64 t.from_), (vI .i64 t.till)])) (x_loadN (vs := [(Value.string t.in__Begin), (Value.string t.in__End), (vB t.in__Point), (vI .i64 t.from_), (vI .i64 t.till)]) rfl underlying44 rfl z44 rfl (Rd.cells (Holds.rd H16_ 1 rfl) 0 rfl)) ?_)
  refine S_yes (j := 5) (dj := 12) (b := true) rfl rfl (congrArg vB c20_t) (T_val (v := (vA #[(Value.string s.in__Begin), (Value.string s.in__End), (vB s.in__Point), (vI .i64 s.from_), (vI .i64 s.till)])) (x_loadN (vs := [(Value.string s.in__Begin), (Value.string s.in__End), (vB s.in__Point), (vI .i64 s.from_), (vI .i64 s.till)]) rfl underlying44 rfl z44 rfl (Rd.cells (Holds.rd H16_ 2 rfl) 0 rfl)) ?_)
  refine S_yes (j := 5) (dj := 12) (b := true) rfl rfl (congrArg vB c20_t) (T_call (al := [(vI .i64 ord), (vA #[(Value.string t.in__Begin), (Value.string t.in__End), (vB t.in__Point), (vI .i64 t.from_), (vI .i64 t.till)]), (vA #[(Value.string s.in__Begin), (Value.string s.in__End), (vB s.in__Point), (vI .i64 s.from_), (vI .i64 s.till)])]) (pre := []) rfl rfl cb55 (spAhead R ord t s (by first | assumption | omega) (by first | assumption | omega)) H16_ ?_)
  rintro v21_ p25_ w22_ ⟨rfl, rfl⟩ S24_ H23_
  have S26_ := Same.trans S19_ S24_
  refine S_yes (j := 5) (dj := 12) (b := true) rfl rfl (congrArg vB c20_t) (T_val (v := (vB (!(sAhead ord t s)))) (x_not rfl) ?_)
  refine S_list (T_pickT (v := (vB (!(sAhead ord t s)))) (congrArg vB c20_t) rfl ?_)
  refine sv (v := (vB (!(sAhead ord t s)))) (x_assign rfl) ?_
  refine wn (hK12_ _ _ ?_)
  refine C_ret ?_
  refine R_any (v := (vB (!(sAhead ord t s)))) (run_results1 rfl rfl) ?_
  have H27_ := Holds.pkF H23_ [0] 2
  exact ⟨_, _, rfl, ⟨(congrArg vB ((by unfold sSame; simp [c20_t]) : (!(sAhead ord t s)) = (sSame ord s t))), rfl⟩, S26_, H27_⟩
 ·skip
  refine S_no (j := 5) (dj := 12) (b := false) rfl rfl (congrArg vB c20_f) (by decide) ?_
  refine S_no (j := 5) (dj := 12) (b := false) rfl rfl (congrArg vB c20_f) (by decide) ?_
  refine S_no (j := 5) (dj := 12) (b := false) rfl rfl (congrArg vB c20_f) (by decide) ?_
  refine S_no (j := 5) (dj := 12) (b := false) rfl rfl (congrArg vB c20_f) (by decide) ?_
  refine S_no (j := 5) (dj := 12) (b := false) rfl rfl (congrArg vB c20_f) (by decide) ?_
  refine S_list (T_pickF (v := (vB false)) (congrArg vB c20_f) rfl ?_)
  refine sv (v := (vB false)) (x_assign rfl) ?_
  refine wn (hK12_ _ _ ?_)
  refine C_ret ?_
  refine R_any (v := (vB false)) (run_results1 rfl rfl) ?_
  have H28_ := Holds.pkF H16_ [0] 2
  exact ⟨_, _, rfl, ⟨(congrArg vB ((by unfold sSame; simp [c20_f]) : false = (sSame ord s t))), rfl⟩, S19_, H28_⟩

set_option maxHeartbeats 1600000 in
theorem spProper (R : HP) (ord : Int) (s : SN) (hs : s.in__Begin.size ≤ 2147483647) :
    Tri Try.prog 84 #[(vI .i64 ord), (vA #[(Value.string s.in__Begin), (Value.string s.in__End), (vB s.in__Point), (vI .i64 s.from_), (vI .i64 s.till)])] R [] (fun v__ post__ => v__ = (vB (sProper ord s)) ∧ post__ = []) := by
 refine Tri.into (n := 21) (al := [(vI .i64 ord), (vA #[(Value.string s.in__Begin), (Value.string s.in__End), (vB s.in__Point), (vI .i64 s.from_), (vI .i64 s.till)])]) func84 rfl ntmps84 rfl rfl fun w F H => ?_
 refine cr fun _ hK1_ => ?_
 refine S_list (T_box (v := (vA #[(Value.string s.in__Begin), (Value.string s.in__End), (vB s.in__Point), (vI .i64 s.from_), (vI .i64 s.till)])) rfl H ?_)
 intro b2_ w3_ S5_ H4_
 have S6_ := Same.trans (Same.refl w) S5_
 refine sv (v := (vB false)) (x_assign rfl) ?_
 refine wn (hK1_ _ _ ?_)
 refine cr fun _ hK7_ => ?_
 refine sv (v := (vA #[(Value.string s.in__Begin), (Value.string s.in__End), (vB s.in__Point), (vI .i64 s.from_), (vI .i64 s.till)])) (x_loadN (vs := [(Value.string s.in__Begin), (Value.string s.in__End), (vB s.in__Point), (vI .i64 s.from_), (vI .i64 s.till)]) rfl underlying44 rfl z44 rfl (Rd.cells (Holds.rd H4_ 0 rfl) 0 rfl)) ?_
 have H9_ := ((Holds.bring H4_ 1 rfl) :)
 refine S_list (T_call (al := [(vA #[(Value.string s.in__Begin), (Value.string s.in__End), (vB s.in__Point), (vI .i64 s.from_), (vI .i64 s.till)])]) (pre := []) rfl rfl cb76 (spPlain R s (by first | assumption | omega)) H9_ ?_)
 rintro v8_ p13_ w10_ ⟨rfl, rfl⟩ S12_ H11_
 have S14_ := Same.trans S6_ S12_
 refine S_list (T_alloc z44 H11_ ?_)
 intro b15_ w16_ S18_ H17_
 have S19_ := Same.trans S14_ S18_
 refine S_list0 (T_storeN (vs := [(Value.string ((SN.plain s).in__Begin)), (Value.string ((SN.plain s).in__End)), (vB ((SN.plain s).in__Point)), (vI .i64 ((SN.plain s).from_)), (vI .i64 ((SN.plain s).till))]) rfl rfl z44 rfl (by simp [Value.oneCell']) H17_ 0 rfl (Nat.le_of_ble_eq_true (by rfl)) ?_)
 intro w20_ S22_ H21_
 have S23_ := Same.trans S19_ S22_
 refine wn (hK7_ _ _ ?_)
 refine cr fun _ hK24_ => ?_
 refine sm (vI .i64 ord) ?_
 refine sv (v := (vQ b15_)) (by kernel_rfl) ?_
 refine sv (v := (vQ b15_)) (by kernel_rfl) ?_
 refine sv (v := (Value.string ((SN.plain s).in__Begin))) (x_load1 rfl underlying9 rfl ((Holds.rd H21_ 0 rfl) 0 (Value.string ((SN.plain s).in__Begin)) rfl)) ?_
 refine sv (v := (vQ b15_)) (by kernel_rfl) ?_
 refine sv (v := (vP (some ⟨b15_, 1, none⟩))) (by kernel_rfl) ?_
 refine sv (v := (Value.string ((SN.plain s).in__End))) (x_load1 rfl underlying9 rfl ((Holds.rd H21_ 0 rfl) 1 (Value.string ((SN.plain s).in__End)) rfl)) ?_
 refine sv (v := (vP (some ⟨b15_, 3, none⟩))) (by kernel_rfl) ?_
 refine sv (v := (vI .i64 ((SN.plain s).from_))) (x_load1 rfl underlying2 rfl ((Holds.rd H21_ 0 rfl) 3 (vI .i64 ((SN.plain s).from_)) rfl)) ?_
 refine sv (v := (vP (some ⟨b15_, 4, none⟩))) (by kernel_rfl) ?_
 refine sv (v := (vI .i64 ((SN.plain s).till))) (x_load1 rfl underlying2 rfl ((Holds.rd H21_ 0 rfl) 4 (vI .i64 ((SN.plain s).till)) rfl)) ?_
 have H26_ := ((Holds.bring H21_ 1 rfl) :)
 refine S_list (T_call (al := [(vI .i64 ord), (Value.string ((SN.plain s).in__Begin)), (Value.string ((SN.plain s).in__End)), (vI .i64 ((SN.plain s).from_)), (vI .i64 ((SN.plain s).till))]) (pre := []) rfl rfl cb77 (spEnds R ord ((SN.plain s).in__Begin) ((SN.plain s).in__End) ((SN.plain s).from_) ((SN.plain s).till)) H26_ ?_)
 rintro v25_ p30_ w27_ ⟨rfl, rfl⟩ S29_ H28_
 have S31_ := Same.trans S23_ S29_
 refine sv (v := (vB (decide (ecm ord (ek ord ((SN.plain s).in__Begin) ((SN.plain s).from_)) (ek ord ((SN.plain s).in__End) ((SN.plain s).till)) < 0)))) (x_bin rfl rfl rfl) ?_
 refine sv (v := (vB (decide (ecm ord (ek ord ((SN.plain s).in__Begin) ((SN.plain s).from_)) (ek ord ((SN.plain s).in__End) ((SN.plain s).till)) < 0)))) (x_assign rfl) ?_
 refine wn (hK24_ _ _ ?_)
 refine C_ret ?_
 refine R_any (v := (vB (decide (ecm ord (ek ord ((SN.plain s).in__Begin) ((SN.plain s).from_)) (ek ord ((SN.plain s).in__End) ((SN.plain s).till)) < 0)))) (run_results1 rfl rfl) ?_
 have H32_ := Holds.pkF H28_ [0] 2
 exact ⟨_, _, rfl, ⟨(congrArg vB ((by unfold sProper SN.lo SN.hi; simp []) : (decide (ecm ord (ek ord ((SN.plain s).in__Begin) ((SN.plain s).from_)) (ek ord ((SN.plain s).in__End) ((SN.plain s).till)) < 0)) = (sProper ord s))), rfl⟩, S31_, H32_⟩
end Go.Proofs.Ytlnihndjepjagaa
set_option linter.unusedVariables false
set_option linter.unusedSimpArgs false
namespace Go.Proofs.Ytlnihndjepjagaa
open Go Go.RowKit Gw Try
open Go.Value renaming int → vI, bool → vB, slice → vS, pointer → vP, agg → vA, tuple → vT

set_option maxHeartbeats 1600000 in
theorem bPoint (R : HP) (x : Value) (A : List Int) (hx : RS R 1 x (List.length A) (bytesV A)) (hs : A.length ≤ 4000000000) :
    Tri Try.prog 102 #[x] R [] (fun v__ post__ => ∃ (b : Nat), v__ = (vA #[(Value.iface 168 x), (Value.iface 168 (vS (some ⟨b, 0, none⟩) (A.length + 1) (A.length + 1)))]) ∧ post__ = [cl b 5 (bytesV (A ++ [0]))]) := by
 have hrep_ : (List.replicate (A.length + 1) (vI IntKind.u8 0)).length = A.length + 1 := by simp
 refine Tri.into (n := 18) (al := [x]) func102 rfl ntmps102 rfl rfl fun w F H => ?_
 refine cr fun _ hK1_ => ?_
 refine S_list (T_alloc z111 H ?_)
 intro b2_ w3_ S5_ H4_
 have S6_ := Same.trans (Same.refl w) S5_
 refine wn (hK1_ _ _ ?_)
 refine cr fun _ hK7_ => ?_
 refine sv (v := x) (x_move rfl) ?_
 refine sv (v := (vI .i64 ((List.length A) : Int))) (x_lenRS rfl hx underlying122) ?_
 refine sv (v := (vI .i64 (((List.length A) : Int) + 1))) (x_bin rfl rfl (ib_add (IntWalk.i64_in _ (by omega)))) ?_
 refine S_list (T_makeSlice1 (len := (List.length A) + 1) (cap := (List.length A) + 1) rfl rfl underlying122 z5 rfl (by omega) (by omega) (by omega) (by omega) (by omega) H4_ ?_)
 intro b8_ w9_ S11_ H10_
 have S12_ := Same.trans S6_ S11_
 refine sv (v := (vS (some ⟨b8_, 0, none⟩) ((List.length A) + 1) ((List.length A) + 1))) (x_assign rfl) ?_
 refine wn (hK7_ _ _ ?_)
 refine cr fun _ hK13_ => ?_
 refine sm (vS (some ⟨b8_, 0, none⟩) ((List.length A) + 1) ((List.length A) + 1)) ?_
 refine sv (v := x) (x_move rfl) ?_
 refine S_list (T_copy rfl rfl underlying122 z5 H10_ 0 rfl hx (Holds.ro_at H10_ 2 rfl) (by omega) (by omega) (one_bytes _) ?_)
 intro w14_ S16_ H15_
 have S17_ := Same.trans S12_ S16_
 refine wn (hK13_ _ _ ?_)
 refine cr fun _ hK18_ => ?_
 refine sm (vS (some ⟨b8_, 0, none⟩) ((List.length A) + 1) ((List.length A) + 1)) ?_
 refine sv (v := x) (x_move rfl) ?_
 refine sv (v := (vI .i64 ((List.length A) : Int))) (x_lenRS rfl hx underlying122) ?_
 refine sv (v := (vP (some ⟨b8_, (List.length A), none⟩))) (x_indexAddr rfl rfl underlying122 z5 (by omega) (by omega) (by omega : _ = (List.length A)) (by first | rfl | simp | (congr 1; omega))) ?_
 refine S_list0 (T_store1 (v := (vI .u8 0)) rfl rfl z5 rfl H15_ 0 rfl (by simp [bytesV_len]) ?_)
 intro w19_ S21_ H20_
 have S22_ := Same.trans S17_ S21_
 have H23_ := Holds.recl H20_ 0 rfl (by simp [bytesV, List.set_append] : (List.take 0 (List.replicate ((List.length A) + 1) (vI .u8 0)) ++ (bytesV A) ++ List.drop (0 + List.length (bytesV A)) (List.replicate ((List.length A) + 1) (vI .u8 0))).set (List.length A) (vI .u8 0) = bytesV (A ++ [0]))
 refine wn (hK18_ _ _ ?_)
 refine cr fun _ hK24_ => ?_
 refine sv (v := x) (x_move rfl) ?_
 refine sm (vS (some ⟨b8_, 0, none⟩) ((List.length A) + 1) ((List.length A) + 1)) ?_
 refine S_list (T_callW (al := [x, (vS (some ⟨b8_, 0, none⟩) ((List.length A) + 1) ((List.length A) + 1))]) rfl rfl cb101 (Calls.into (n := 10) func101 rfl ntmps101 rfl rfl ?_))
 refine cr fun _ hK25_ => ?_
 refine S_list (T_alloc z111 H23_ ?_)
 intro b26_ w27_ S29_ H28_
 have S30_ := Same.trans S22_ S29_
 refine wn (hK25_ _ _ ?_)
 refine cr fun _ hK31_ => ?_
 refine sv (v := x) (x_move rfl) ?_
 refine sv (v := (Value.iface 168 x)) (by kernel_rfl) ?_
 refine sm (vS (some ⟨b8_, 0, none⟩) ((List.length A) + 1) ((List.length A) + 1)) ?_
 refine sv (v := (Value.iface 168 (vS (some ⟨b8_, 0, none⟩) ((List.length A) + 1) ((List.length A) + 1)))) (by kernel_rfl) ?_
 refine sv (v := (vA #[(Value.iface 168 x), (Value.iface 168 (vS (some ⟨b8_, 0, none⟩) ((List.length A) + 1) ((List.length A) + 1)))])) (by kernel_rfl) ?_
 refine S_list0 (T_storeN (vs := [(Value.iface 168 x), (Value.iface 168 (vS (some ⟨b8_, 0, none⟩) ((List.length A) + 1) ((List.length A) + 1)))]) rfl rfl z111 rfl (by simp [Value.oneCell']) H28_ 0 rfl (Nat.le_of_ble_eq_true (by rfl)) ?_)
 intro w32_ S34_ H33_
 have S35_ := Same.trans S30_ S34_
 refine wn (hK31_ _ _ ?_)
 refine C_ret ?_
 refine R_any (v := (vA #[(Value.iface 168 x), (Value.iface 168 (vS (some ⟨b8_, 0, none⟩) ((List.length A) + 1) ((List.length A) + 1)))])) (run_results1 rfl ⟨_, rfl, load_resN underlying111 rfl z111 rfl (vs := [(Value.iface 168 x), (Value.iface 168 (vS (some ⟨b8_, 0, none⟩) ((List.length A) + 1) ((List.length A) + 1)))]) (Holds.cl_cells H33_ 0 rfl 0 rfl)⟩) ⟨_, rfl, ?_⟩
 refine S_list0 (T_storeN (vs := [(Value.iface 168 x), (Value.iface 168 (vS (some ⟨b8_, 0, none⟩) ((List.length A) + 1) ((List.length A) + 1)))]) rfl rfl z111 rfl (by simp [Value.oneCell']) H33_ 2 rfl (Nat.le_of_ble_eq_true (by rfl)) ?_)
 intro w36_ S38_ H37_
 have S39_ := Same.trans S35_ S38_
 refine wn (hK24_ _ _ ?_)
 refine C_ret ?_
 refine R_any (v := (vA #[(Value.iface 168 x), (Value.iface 168 (vS (some ⟨b8_, 0, none⟩) ((List.length A) + 1) ((List.length A) + 1)))])) (run_results1 rfl ⟨_, rfl, load_resN underlying111 rfl z111 rfl (vs := [(Value.iface 168 x), (Value.iface 168 (vS (some ⟨b8_, 0, none⟩) ((List.length A) + 1) ((List.length A) + 1)))]) (Holds.cl_cells H37_ 2 rfl 0 rfl)⟩) ?_
 have H40_ := Holds.pkF H37_ [3, 1] 2
 exact ⟨_, _, rfl, ⟨b8_, (congrArg (fun l => vA (List.toArray l)) (lcons rfl (lcons ((by first | rfl | omega | (simp; done) | (simp; omega)) : (Value.iface 168 (vS (some ⟨b8_, 0, none⟩) ((List.length A) + 1) ((List.length A) + 1))) = (Value.iface 168 (vS (some ⟨b8_, 0, none⟩) (A.length + 1) (A.length + 1)))) rfl))), rfl⟩, S39_, H40_⟩
end Go.Proofs.Ytlnihndjepjagaa
set_option linter.unusedVariables false
set_option linter.unusedSimpArgs false
namespace Go.Proofs.Ytlnihndjepjagaa
open Go Go.RowKit Gw Try
open Go.Value renaming int → vI, bool → vB, slice → vS, pointer → vP, agg → vA, tuple → vT

set_option maxHeartbeats 1600000 in
theorem spIn (R : HP) (ord : Int) (s : SN) (hok : SnOk ord s) :
    TriG Try.prog 85 #[(vI .i64 ord), (vA #[(Value.string s.in__Begin), (Value.string s.in__End), (vB s.in__Point), (vI .i64 s.from_), (vI .i64 s.till)])] R [] (fun R' v__ post__ => ∃ (t1 t2 : TypeId) (x1 x2 : Value), v__ = (vA #[((Value.iface t1 x1)), ((Value.iface t2 x2))]) ∧ post__ = [] ∧ (EVal ord R' (Value.iface t1 x1) (s.lo ord)) ∧ (EVal ord R' (Value.iface t2 x2) (s.hi ord))) := by
 have hb_ := hok.b
 have he_ := hok.e
 have ho1_ := hok.o
 have hlb_ := ints_length s.in__Begin
 refine TriG.into (n := 68) (al := [(vI .i64 ord), (vA #[(Value.string s.in__Begin), (Value.string s.in__End), (vB s.in__Point), (vI .i64 s.from_), (vI .i64 s.till)])]) func85 rfl ntmps85 rfl rfl fun w F H => ?_
 refine cr fun _ hK1_ => ?_
 refine S_list (T_box (v := (vA #[(Value.string s.in__Begin), (Value.string s.in__End), (vB s.in__Point), (vI .i64 s.from_), (vI .i64 s.till)])) rfl H ?_)
 intro b2_ w3_ S5_ H4_
 have S6_ := Same.trans (Same.refl w) S5_
 refine S_list (T_alloc z111 H4_ ?_)
 intro b7_ w8_ S10_ H9_
 have S11_ := Same.trans S6_ S10_
 refine wn (hK1_ _ _ ?_)
 refine C_seq (fun _ hK12_ => ?_)
 refine cr fun _ hK13_ => ?_
 refine sm (vI .i64 ord) ?_
 refine wn (hK13_ _ _ ?_)
 refine C_block ?_
 refine cr fun _ hK14_ => ?_
 refine sv (v := (vB (decide (ord = 1)))) (x_bin rfl rfl rfl) ?_
 refine sv (v := (vB (decide (ord = 1)))) (x_assign rfl) ?_
 refine wn (hK14_ _ _ ?_)
 refine C_cond (b := decide (ord = 1)) rfl (fun c15_t => ?_) (fun c15_f => ?_)
 ·have c15_tp : ord = 1 := of_decide_eq_true c15_t
  refine C_seq (fun _ hK16_ => ?_)
  refine cr fun _ hK17_ => ?_
  refine sv (v := (vQ b2_)) (by kernel_rfl) ?_
  refine sv (v := (vP (some ⟨b2_, 2, none⟩))) (by kernel_rfl) ?_
  refine sv (v := (vB s.in__Point)) (x_load1 rfl underlying4 rfl ((Holds.rd H9_ 1 rfl) 2 (vB s.in__Point) rfl)) ?_
  refine wn (hK17_ _ _ ?_)
  refine C_cond (b := s.in__Point) rfl (fun c18_t => ?_) (fun c18_f => ?_)
  ·skip
   refine cr fun _ hK19_ => ?_
   refine sv (v := (vQ b2_)) (by kernel_rfl) ?_
   refine sv (v := (vQ b2_)) (by kernel_rfl) ?_
   refine sv (v := (Value.string s.in__Begin)) (x_load1 rfl underlying9 rfl ((Holds.rd H9_ 1 rfl) 0 (Value.string s.in__Begin) rfl)) ?_
   refine S_list (T_callW (al := [(Value.string s.in__Begin)]) rfl rfl cb89 (Calls.into (n := 7) func89 rfl ntmps89 rfl rfl ?_))
   refine cr fun _ hK20_ => ?_
   refine S_list (T_alloc z111 H9_ ?_)
   intro b21_ w22_ S24_ H23_
   have S25_ := Same.trans S11_ S24_
   refine wn (hK20_ _ _ ?_)
   refine cr fun _ hK26_ => ?_
   refine sm (Value.string s.in__Begin) ?_
   refine sm (Value.string s.in__Begin) ?_
   refine sv (v := (Value.string (s.in__Begin ++ (ByteArray.mk #[0])))) (x_str rfl rfl (so_add (by have h1__ : (ByteArray.mk #[0]).size = 1 := rfl; omega)) (by decide)) ?_
   refine S_list (T_callW (al := [(Value.string s.in__Begin), (Value.string (s.in__Begin ++ (ByteArray.mk #[0])))]) rfl rfl cb52 (Calls.into (n := 10) func52 rfl ntmps52 rfl rfl ?_))
   refine cr fun _ hK27_ => ?_
   refine S_list (T_alloc z111 H23_ ?_)
   intro b28_ w29_ S31_ H30_
   have S32_ := Same.trans S25_ S31_
   refine wn (hK27_ _ _ ?_)
   refine cr fun _ hK33_ => ?_
   refine sm (Value.string s.in__Begin) ?_
   refine sv (v := (Value.iface 166 (Value.string s.in__Begin))) (by kernel_rfl) ?_
   refine sm (Value.string (s.in__Begin ++ (ByteArray.mk #[0]))) ?_
   refine sv (v := (Value.iface 166 (Value.string (s.in__Begin ++ (ByteArray.mk #[0]))))) (by kernel_rfl) ?_
   refine sv (v := (vA #[(Value.iface 166 (Value.string s.in__Begin)), (Value.iface 166 (Value.string (s.in__Begin ++ (ByteArray.mk #[0]))))])) (by kernel_rfl) ?_
   refine S_list0 (T_storeN (vs := [(Value.iface 166 (Value.string s.in__Begin)), (Value.iface 166 (Value.string (s.in__Begin ++ (ByteArray.mk #[0]))))]) rfl rfl z111 rfl (by simp [Value.oneCell']) H30_ 0 rfl (Nat.le_of_ble_eq_true (by rfl)) ?_)
   intro w34_ S36_ H35_
   have S37_ := Same.trans S32_ S36_
   refine wn (hK33_ _ _ ?_)
   refine C_ret ?_
   refine R_any (v := (vA #[(Value.iface 166 (Value.string s.in__Begin)), (Value.iface 166 (Value.string (s.in__Begin ++ (ByteArray.mk #[0]))))])) (run_results1 rfl ⟨_, rfl, load_resN underlying111 rfl z111 rfl (vs := [(Value.iface 166 (Value.string s.in__Begin)), (Value.iface 166 (Value.string (s.in__Begin ++ (ByteArray.mk #[0]))))]) (Holds.cl_cells H35_ 0 rfl 0 rfl)⟩) ⟨_, rfl, ?_⟩
   refine S_list0 (T_storeN (vs := [(Value.iface 166 (Value.string s.in__Begin)), (Value.iface 166 (Value.string (s.in__Begin ++ (ByteArray.mk #[0]))))]) rfl rfl z111 rfl (by simp [Value.oneCell']) H35_ 1 rfl (Nat.le_of_ble_eq_true (by rfl)) ?_)
   intro w38_ S40_ H39_
   have S41_ := Same.trans S37_ S40_
   refine wn (hK26_ _ _ ?_)
   refine C_ret ?_
   refine R_any (v := (vA #[(Value.iface 166 (Value.string s.in__Begin)), (Value.iface 166 (Value.string (s.in__Begin ++ (ByteArray.mk #[0]))))])) (run_results1 rfl ⟨_, rfl, load_resN underlying111 rfl z111 rfl (vs := [(Value.iface 166 (Value.string s.in__Begin)), (Value.iface 166 (Value.string (s.in__Begin ++ (ByteArray.mk #[0]))))]) (Holds.cl_cells H39_ 1 rfl 0 rfl)⟩) ⟨_, rfl, ?_⟩
   refine S_list0 (T_storeN (vs := [(Value.iface 166 (Value.string s.in__Begin)), (Value.iface 166 (Value.string (s.in__Begin ++ (ByteArray.mk #[0]))))]) rfl rfl z111 rfl (by simp [Value.oneCell']) H39_ 2 rfl (Nat.le_of_ble_eq_true (by rfl)) ?_)
   intro w42_ S44_ H43_
   have S45_ := Same.trans S41_ S44_
   refine wn (hK19_ _ _ ?_)
   refine C_ret (X_thenR (X_blkR (X_thenR ?_)))
   refine R_any (v := (vA #[(Value.iface 166 (Value.string s.in__Begin)), (Value.iface 166 (Value.string (s.in__Begin ++ (ByteArray.mk #[0]))))])) (run_results1 rfl ⟨_, rfl, load_resN underlying111 rfl z111 rfl (vs := [(Value.iface 166 (Value.string s.in__Begin)), (Value.iface 166 (Value.string (s.in__Begin ++ (ByteArray.mk #[0]))))]) (Holds.cl_cells H43_ 2 rfl 0 rfl)⟩) ?_
   have ho_ : ord = 1 := by omega
   have H46_ := Holds.pkF H43_ [4] 4
   exact ⟨R, _, _, rfl, (Sub.rfl' _), ⟨166, 166, (Value.string s.in__Begin), (Value.string (s.in__Begin ++ (ByteArray.mk #[0]))), (congrArg (fun l => vA (List.toArray l)) (lcons (rfl : (Value.iface 166 (Value.string s.in__Begin)) = ((Value.iface 166 (Value.string s.in__Begin)))) (lcons (rfl : (Value.iface 166 (Value.string (s.in__Begin ++ (ByteArray.mk #[0])))) = ((Value.iface 166 (Value.string (s.in__Begin ++ (ByteArray.mk #[0])))))) rfl))), rfl, (.inr (.inl ⟨ho_, _, rfl, lo_text (by rw [ho_]; decide)⟩)), (.inr (.inl ⟨ho_, _, rfl, hi_point (by rw [ho_]; decide) c18_t⟩))⟩, S45_, H46_⟩
  ·skip
   refine C_skip (X_then (hK16_ _ _ ?_))
   refine cr fun _ hK47_ => ?_
   refine sv (v := (vQ b2_)) (by kernel_rfl) ?_
   refine sv (v := (vQ b2_)) (by kernel_rfl) ?_
   refine sv (v := (Value.string s.in__Begin)) (x_load1 rfl underlying9 rfl ((Holds.rd H9_ 1 rfl) 0 (Value.string s.in__Begin) rfl)) ?_
   refine sv (v := (vQ b2_)) (by kernel_rfl) ?_
   refine sv (v := (vP (some ⟨b2_, 1, none⟩))) (by kernel_rfl) ?_
   refine sv (v := (Value.string s.in__End)) (x_load1 rfl underlying9 rfl ((Holds.rd H9_ 1 rfl) 1 (Value.string s.in__End) rfl)) ?_
   refine S_list (T_callW (al := [(Value.string s.in__Begin), (Value.string s.in__End)]) rfl rfl cb52 (Calls.into (n := 10) func52 rfl ntmps52 rfl rfl ?_))
   refine cr fun _ hK48_ => ?_
   refine S_list (T_alloc z111 H9_ ?_)
   intro b49_ w50_ S52_ H51_
   have S53_ := Same.trans S11_ S52_
   refine wn (hK48_ _ _ ?_)
   refine cr fun _ hK54_ => ?_
   refine sm (Value.string s.in__Begin) ?_
   refine sv (v := (Value.iface 166 (Value.string s.in__Begin))) (by kernel_rfl) ?_
   refine sm (Value.string s.in__End) ?_
   refine sv (v := (Value.iface 166 (Value.string s.in__End))) (by kernel_rfl) ?_
   refine sv (v := (vA #[(Value.iface 166 (Value.string s.in__Begin)), (Value.iface 166 (Value.string s.in__End))])) (by kernel_rfl) ?_
   refine S_list0 (T_storeN (vs := [(Value.iface 166 (Value.string s.in__Begin)), (Value.iface 166 (Value.string s.in__End))]) rfl rfl z111 rfl (by simp [Value.oneCell']) H51_ 0 rfl (Nat.le_of_ble_eq_true (by rfl)) ?_)
   intro w55_ S57_ H56_
   have S58_ := Same.trans S53_ S57_
   refine wn (hK54_ _ _ ?_)
   refine C_ret ?_
   refine R_any (v := (vA #[(Value.iface 166 (Value.string s.in__Begin)), (Value.iface 166 (Value.string s.in__End))])) (run_results1 rfl ⟨_, rfl, load_resN underlying111 rfl z111 rfl (vs := [(Value.iface 166 (Value.string s.in__Begin)), (Value.iface 166 (Value.string s.in__End))]) (Holds.cl_cells H56_ 0 rfl 0 rfl)⟩) ⟨_, rfl, ?_⟩
   refine S_list0 (T_storeN (vs := [(Value.iface 166 (Value.string s.in__Begin)), (Value.iface 166 (Value.string s.in__End))]) rfl rfl z111 rfl (by simp [Value.oneCell']) H56_ 1 rfl (Nat.le_of_ble_eq_true (by rfl)) ?_)
   intro w59_ S61_ H60_
   have S62_ := Same.trans S58_ S61_
   refine wn (hK47_ _ _ ?_)
   refine C_ret (X_blkR (X_thenR ?_))
   refine R_any (v := (vA #[(Value.iface 166 (Value.string s.in__Begin)), (Value.iface 166 (Value.string s.in__End))])) (run_results1 rfl ⟨_, rfl, load_resN underlying111 rfl z111 rfl (vs := [(Value.iface 166 (Value.string s.in__Begin)), (Value.iface 166 (Value.string s.in__End))]) (Holds.cl_cells H60_ 1 rfl 0 rfl)⟩) ?_
   have ho_ : ord = 1 := by omega
   have H63_ := Holds.pkF H60_ [3] 3
   exact ⟨R, _, _, rfl, (Sub.rfl' _), ⟨166, 166, (Value.string s.in__Begin), (Value.string s.in__End), (congrArg (fun l => vA (List.toArray l)) (lcons (rfl : (Value.iface 166 (Value.string s.in__Begin)) = ((Value.iface 166 (Value.string s.in__Begin)))) (lcons (rfl : (Value.iface 166 (Value.string s.in__End)) = ((Value.iface 166 (Value.string s.in__End)))) rfl))), rfl, (.inr (.inl ⟨ho_, _, rfl, lo_text (by rw [ho_]; decide)⟩)), (.inr (.inl ⟨ho_, _, rfl, hi_text (by rw [ho_]; decide) c18_f⟩))⟩, S62_, H63_⟩
 ·have c15_fp : ¬ (ord = 1) := of_decide_eq_false c15_f
  refine cr fun _ hK64_ => ?_
  refine sv (v := (vB (decide (ord = 2)))) (x_bin rfl rfl rfl) ?_
  refine sv (v := (vB (decide (ord = 2)))) (x_assign rfl) ?_
  refine wn (hK64_ _ _ ?_)
  refine C_cond (b := decide (ord = 2)) rfl (fun c65_t => ?_) (fun c65_f => ?_)
  ·have c65_tp : ord = 2 := of_decide_eq_true c65_t
   refine C_seq (fun _ hK66_ => ?_)
   refine cr fun _ hK67_ => ?_
   refine sv (v := (vQ b2_)) (by kernel_rfl) ?_
   refine sv (v := (vP (some ⟨b2_, 2, none⟩))) (by kernel_rfl) ?_
   refine sv (v := (vB s.in__Point)) (x_load1 rfl underlying4 rfl ((Holds.rd H9_ 1 rfl) 2 (vB s.in__Point) rfl)) ?_
   refine wn (hK67_ _ _ ?_)
   refine C_cond (b := s.in__Point) rfl (fun c68_t => ?_) (fun c68_f => ?_)
   ·skip
    refine cr fun _ hK69_ => ?_
    refine sv (v := (vQ b2_)) (by kernel_rfl) ?_
    refine sv (v := (vQ b2_)) (by kernel_rfl) ?_
    refine sv (v := (Value.string s.in__Begin)) (x_load1 rfl underlying9 rfl ((Holds.rd H9_ 1 rfl) 0 (Value.string s.in__Begin) rfl)) ?_
    refine S_list (T_s2b rfl underlying9 underlying122 underlying5 H9_ ?_)
    intro b70_ cp71_ w72_ S74_ hc75_ H73_
    have S76_ := Same.trans S11_ S74_
    have H77_ := Holds.resl H73_ 0 rfl (byteCells_bytesV _ : byteCells s.in__Begin = bytesV (ints s.in__Begin)) rfl
    have H78_ := Holds.resl H77_ 0 rfl (rfl : bytesV (ints s.in__Begin) = bytesV (ints s.in__Begin)) ((ints_length _).symm : s.in__Begin.size = (List.length (ints s.in__Begin)))
    have H79_ := ((Holds.bring H78_ 3 rfl) :)
    obtain ⟨R80_, hs81_, ⟨R82_, ha83_, hs84_⟩, H85_⟩ := Holds.gift H79_
    have hr86_ : RS R80_ 1 (vS (some ⟨b70_, 0, none⟩) s.in__Begin.size cp71_) (List.length (ints s.in__Begin)) (bytesV (ints s.in__Begin)) := (sl_RS ha83_ (Sub.rfl' _)).mono hs84_
    refine S_list (T_call (al := [((vS (some ⟨b70_, 0, none⟩) s.in__Begin.size cp71_))]) (pre := []) rfl (lcons (rfl : (vS (some ⟨b70_, 0, none⟩) s.in__Begin.size cp71_) = ((vS (some ⟨b70_, 0, none⟩) s.in__Begin.size cp71_))) rfl) cb102 (bPoint R80_ (vS (some ⟨b70_, 0, none⟩) s.in__Begin.size cp71_) (ints s.in__Begin) hr86_ (by first | assumption | omega)) H85_ ?_)
    rintro v87_ p92_ w89_ ⟨b88_, rfl, rfl⟩ S91_ H90_
    have S93_ := Same.trans S76_ S91_
    refine S_list0 (T_storeN (vs := [(Value.iface 168 ((vS (some ⟨b70_, 0, none⟩) s.in__Begin.size cp71_))), (Value.iface 168 (vS (some ⟨b88_, 0, none⟩) ((ints s.in__Begin).length + 1) ((ints s.in__Begin).length + 1)))]) rfl rfl z111 rfl (by simp [Value.oneCell']) H90_ 2 rfl (Nat.le_of_ble_eq_true (by rfl)) ?_)
    intro w94_ S96_ H95_
    have S97_ := Same.trans S93_ S96_
    refine wn (hK69_ _ _ ?_)
    refine C_ret (X_thenR (X_blkR (X_thenR ?_)))
    refine R_any (v := (vA #[(Value.iface 168 ((vS (some ⟨b70_, 0, none⟩) s.in__Begin.size cp71_))), (Value.iface 168 (vS (some ⟨b88_, 0, none⟩) ((ints s.in__Begin).length + 1) ((ints s.in__Begin).length + 1)))])) (run_results1 rfl ⟨_, rfl, load_resN underlying111 rfl z111 rfl (vs := [(Value.iface 168 ((vS (some ⟨b70_, 0, none⟩) s.in__Begin.size cp71_))), (Value.iface 168 (vS (some ⟨b88_, 0, none⟩) ((ints s.in__Begin).length + 1) ((ints s.in__Begin).length + 1)))]) (Holds.cl_cells H95_ 2 rfl 0 rfl)⟩) ?_
    have ho_ : ord = 2 := by omega
    obtain ⟨R98_, hs99_, ⟨R100_, ha101_, hs102_⟩, H103_⟩ := Holds.gift H95_
    have hz_R_R98_ := Sub.trans' hs81_ hs99_
    have hr104_ : RS R98_ 1 (vS (some ⟨b88_, 0, none⟩) ((ints s.in__Begin).length + 1) ((ints s.in__Begin).length + 1)) (List.length (ints s.in__Begin ++ [0])) (bytesV (ints s.in__Begin ++ [0])) := (RS.set_ (cl_RSn (sz := 1) (k := (List.length (ints s.in__Begin) + 1)) ha101_ (Sub.rfl' _) (by simp [bytesV_len]) (by omega)) rfl (by simp)).mono hs102_
    have H105_ := Holds.pkF H103_ [0] 2
    exact ⟨R98_, _, _, rfl, hz_R_R98_, ⟨168, 168, ((vS (some ⟨b70_, 0, none⟩) s.in__Begin.size cp71_)), (vS (some ⟨b88_, 0, none⟩) ((ints s.in__Begin).length + 1) ((ints s.in__Begin).length + 1)), (congrArg (fun l => vA (List.toArray l)) (lcons (rfl : (Value.iface 168 ((vS (some ⟨b70_, 0, none⟩) s.in__Begin.size cp71_))) = ((Value.iface 168 ((vS (some ⟨b70_, 0, none⟩) s.in__Begin.size cp71_))))) (lcons (rfl : (Value.iface 168 (vS (some ⟨b88_, 0, none⟩) ((ints s.in__Begin).length + 1) ((ints s.in__Begin).length + 1))) = ((Value.iface 168 (vS (some ⟨b88_, 0, none⟩) ((ints s.in__Begin).length + 1) ((ints s.in__Begin).length + 1))))) rfl))), rfl, (.inr (.inr (.inl ⟨ho_, _, ints s.in__Begin, rfl, (RS.mono hr86_ hs99_), (lo_text (by rw [ho_]; decide)).trans (congrArg EK.t (u8s_ints _).symm)⟩))), (.inr (.inr (.inl ⟨ho_, _, ints s.in__Begin ++ [0], rfl, hr104_, (hi_point (by rw [ho_]; decide) c68_t).trans (congrArg EK.t (ints_app0 _).symm)⟩)))⟩, S97_, H105_⟩
   ·skip
    refine C_skip (X_then (hK66_ _ _ ?_))
    refine cr fun _ hK106_ => ?_
    refine sv (v := (vQ b2_)) (by kernel_rfl) ?_
    refine sv (v := (vQ b2_)) (by kernel_rfl) ?_
    refine sv (v := (Value.string s.in__Begin)) (x_load1 rfl underlying9 rfl ((Holds.rd H9_ 1 rfl) 0 (Value.string s.in__Begin) rfl)) ?_
    refine S_list (T_s2b rfl underlying9 underlying122 underlying5 H9_ ?_)
    intro b107_ cp108_ w109_ S111_ hc112_ H110_
    have S113_ := Same.trans S11_ S111_
    have H114_ := Holds.resl H110_ 0 rfl (byteCells_bytesV _ : byteCells s.in__Begin = bytesV (ints s.in__Begin)) rfl
    have H115_ := Holds.resl H114_ 0 rfl (rfl : bytesV (ints s.in__Begin) = bytesV (ints s.in__Begin)) ((ints_length _).symm : s.in__Begin.size = (List.length (ints s.in__Begin)))
    refine sv (v := (vQ b2_)) (by kernel_rfl) ?_
    refine sv (v := (vP (some ⟨b2_, 1, none⟩))) (by kernel_rfl) ?_
    refine sv (v := (Value.string s.in__End)) (x_load1 rfl underlying9 rfl ((Holds.rd H115_ 2 rfl) 1 (Value.string s.in__End) rfl)) ?_
    refine S_list (T_s2b rfl underlying9 underlying122 underlying5 H115_ ?_)
    intro b116_ cp117_ w118_ S120_ hc121_ H119_
    have S122_ := Same.trans S113_ S120_
    have H123_ := Holds.resl H119_ 0 rfl (byteCells_bytesV _ : byteCells s.in__End = bytesV (ints s.in__End)) rfl
    have H124_ := Holds.resl H123_ 0 rfl (rfl : bytesV (ints s.in__End) = bytesV (ints s.in__End)) ((ints_length _).symm : s.in__End.size = (List.length (ints s.in__End)))
    refine S_list (T_callW (al := [(vS (some ⟨b107_, 0, none⟩) s.in__Begin.size cp108_), (vS (some ⟨b116_, 0, none⟩) s.in__End.size cp117_)]) rfl rfl cb101 (Calls.into (n := 10) func101 rfl ntmps101 rfl rfl ?_))
    refine cr fun _ hK125_ => ?_
    refine S_list (T_alloc z111 H124_ ?_)
    intro b126_ w127_ S129_ H128_
    have S130_ := Same.trans S122_ S129_
    refine wn (hK125_ _ _ ?_)
    refine cr fun _ hK131_ => ?_
    refine sm (vS (some ⟨b107_, 0, none⟩) s.in__Begin.size cp108_) ?_
    refine sv (v := (Value.iface 168 (vS (some ⟨b107_, 0, none⟩) s.in__Begin.size cp108_))) (by kernel_rfl) ?_
    refine sm (vS (some ⟨b116_, 0, none⟩) s.in__End.size cp117_) ?_
    refine sv (v := (Value.iface 168 (vS (some ⟨b116_, 0, none⟩) s.in__End.size cp117_))) (by kernel_rfl) ?_
    refine sv (v := (vA #[(Value.iface 168 (vS (some ⟨b107_, 0, none⟩) s.in__Begin.size cp108_)), (Value.iface 168 (vS (some ⟨b116_, 0, none⟩) s.in__End.size cp117_))])) (by kernel_rfl) ?_
    refine S_list0 (T_storeN (vs := [(Value.iface 168 (vS (some ⟨b107_, 0, none⟩) s.in__Begin.size cp108_)), (Value.iface 168 (vS (some ⟨b116_, 0, none⟩) s.in__End.size cp117_))]) rfl rfl z111 rfl (by simp [Value.oneCell']) H128_ 0 rfl (Nat.le_of_ble_eq_true (by rfl)) ?_)
    intro w132_ S134_ H133_
    have S135_ := Same.trans S130_ S134_
    refine wn (hK131_ _ _ ?_)
    refine C_ret ?_
    refine R_any (v := (vA #[(Value.iface 168 (vS (some ⟨b107_, 0, none⟩) s.in__Begin.size cp108_)), (Value.iface 168 (vS (some ⟨b116_, 0, none⟩) s.in__End.size cp117_))])) (run_results1 rfl ⟨_, rfl, load_resN underlying111 rfl z111 rfl (vs := [(Value.iface 168 (vS (some ⟨b107_, 0, none⟩) s.in__Begin.size cp108_)), (Value.iface 168 (vS (some ⟨b116_, 0, none⟩) s.in__End.size cp117_))]) (Holds.cl_cells H133_ 0 rfl 0 rfl)⟩) ⟨_, rfl, ?_⟩
    refine S_list0 (T_storeN (vs := [(Value.iface 168 (vS (some ⟨b107_, 0, none⟩) s.in__Begin.size cp108_)), (Value.iface 168 (vS (some ⟨b116_, 0, none⟩) s.in__End.size cp117_))]) rfl rfl z111 rfl (by simp [Value.oneCell']) H133_ 3 rfl (Nat.le_of_ble_eq_true (by rfl)) ?_)
    intro w136_ S138_ H137_
    have S139_ := Same.trans S135_ S138_
    refine wn (hK106_ _ _ ?_)
    refine C_ret (X_blkR (X_thenR ?_))
    refine R_any (v := (vA #[(Value.iface 168 (vS (some ⟨b107_, 0, none⟩) s.in__Begin.size cp108_)), (Value.iface 168 (vS (some ⟨b116_, 0, none⟩) s.in__End.size cp117_))])) (run_results1 rfl ⟨_, rfl, load_resN underlying111 rfl z111 rfl (vs := [(Value.iface 168 (vS (some ⟨b107_, 0, none⟩) s.in__Begin.size cp108_)), (Value.iface 168 (vS (some ⟨b116_, 0, none⟩) s.in__End.size cp117_))]) (Holds.cl_cells H137_ 3 rfl 0 rfl)⟩) ?_
    have ho_ : ord = 2 := by omega
    have H140_ := ((Holds.bring (Holds.bring H137_ 2 rfl) 5 rfl) :)
    obtain ⟨R141_, hs142_, ⟨R143_, ha144_, hs145_⟩, H146_⟩ := Holds.gift H140_
    have hr147_ : RS R141_ 1 (vS (some ⟨b107_, 0, none⟩) s.in__Begin.size cp108_) (List.length (ints s.in__Begin)) (bytesV (ints s.in__Begin)) := (sl_RS ha144_ (Sub.rfl' _)).mono hs145_
    have H148_ := ((Holds.bring (Holds.bring H146_ 2 rfl) 1 rfl) :)
    obtain ⟨R149_, hs150_, ⟨R151_, ha152_, hs153_⟩, H154_⟩ := Holds.gift H148_
    have hz_R_R149_ := Sub.trans' hs142_ hs150_
    have hr155_ : RS R149_ 1 (vS (some ⟨b116_, 0, none⟩) s.in__End.size cp117_) (List.length (ints s.in__End)) (bytesV (ints s.in__End)) := (sl_RS ha152_ (Sub.rfl' _)).mono hs153_
    have H156_ := Holds.pkF H154_ [0] 3
    exact ⟨R149_, _, _, rfl, hz_R_R149_, ⟨168, 168, (vS (some ⟨b107_, 0, none⟩) s.in__Begin.size cp108_), (vS (some ⟨b116_, 0, none⟩) s.in__End.size cp117_), (congrArg (fun l => vA (List.toArray l)) (lcons (rfl : (Value.iface 168 (vS (some ⟨b107_, 0, none⟩) s.in__Begin.size cp108_)) = ((Value.iface 168 (vS (some ⟨b107_, 0, none⟩) s.in__Begin.size cp108_)))) (lcons (rfl : (Value.iface 168 (vS (some ⟨b116_, 0, none⟩) s.in__End.size cp117_)) = ((Value.iface 168 (vS (some ⟨b116_, 0, none⟩) s.in__End.size cp117_)))) rfl))), rfl, (.inr (.inr (.inl ⟨ho_, _, ints s.in__Begin, rfl, (RS.mono hr147_ hs150_), (lo_text (by rw [ho_]; decide)).trans (congrArg EK.t (u8s_ints _).symm)⟩))), (.inr (.inr (.inl ⟨ho_, _, ints s.in__End, rfl, hr155_, (hi_text (by rw [ho_]; decide) c68_f).trans (congrArg EK.t (u8s_ints _).symm)⟩)))⟩, S139_, H156_⟩
  ·have c65_fp : ¬ (ord = 2) := of_decide_eq_false c65_f
   refine cr fun _ hK157_ => ?_
   refine sv (v := (vB (decide (ord = 3)))) (x_bin rfl rfl rfl) ?_
   refine sv (v := (vB (decide (ord = 3)))) (x_assign rfl) ?_
   refine wn (hK157_ _ _ ?_)
   refine C_cond (b := decide (ord = 3)) rfl (fun c158_t => ?_) (fun c158_f => ?_)
   ·have c158_tp : ord = 3 := of_decide_eq_true c158_t
    refine C_seq (fun _ hK159_ => ?_)
    refine cr fun _ hK160_ => ?_
    refine sv (v := (vQ b2_)) (by kernel_rfl) ?_
    refine sv (v := (vP (some ⟨b2_, 2, none⟩))) (by kernel_rfl) ?_
    refine sv (v := (vB s.in__Point)) (x_load1 rfl underlying4 rfl ((Holds.rd H9_ 1 rfl) 2 (vB s.in__Point) rfl)) ?_
    refine wn (hK160_ _ _ ?_)
    refine C_cond (b := s.in__Point) rfl (fun c161_t => ?_) (fun c161_f => ?_)
    ·skip
     exact absurd (hok.n (by omega)).1 (by rw [c161_t]; decide)
    ·skip
     refine C_skip (X_then (hK159_ _ _ ?_))
     refine cr fun _ hK162_ => ?_
     refine sv (v := (vP (some ⟨b2_, 3, none⟩))) (by kernel_rfl) ?_
     refine sv (v := (vI .i64 s.from_)) (x_load1 rfl underlying2 rfl ((Holds.rd H9_ 1 rfl) 3 (vI .i64 s.from_) rfl)) ?_
     refine sv (v := (vP (some ⟨b2_, 4, none⟩))) (by kernel_rfl) ?_
     refine sv (v := (vI .i64 s.till)) (x_load1 rfl underlying2 rfl ((Holds.rd H9_ 1 rfl) 4 (vI .i64 s.till) rfl)) ?_
     refine S_list (T_callW (al := [(vI .i64 s.from_), (vI .i64 s.till)]) rfl rfl cb106 (Calls.into (n := 10) func106 rfl ntmps106 rfl rfl ?_))
     refine cr fun _ hK163_ => ?_
     refine S_list (T_alloc z111 H9_ ?_)
     intro b164_ w165_ S167_ H166_
     have S168_ := Same.trans S11_ S167_
     refine wn (hK163_ _ _ ?_)
     refine cr fun _ hK169_ => ?_
     refine sm (vI .i64 s.from_) ?_
     refine sv (v := (Value.iface 169 (vI .i64 s.from_))) (by kernel_rfl) ?_
     refine sm (vI .i64 s.till) ?_
     refine sv (v := (Value.iface 169 (vI .i64 s.till))) (by kernel_rfl) ?_
     refine sv (v := (vA #[(Value.iface 169 (vI .i64 s.from_)), (Value.iface 169 (vI .i64 s.till))])) (by kernel_rfl) ?_
     refine S_list0 (T_storeN (vs := [(Value.iface 169 (vI .i64 s.from_)), (Value.iface 169 (vI .i64 s.till))]) rfl rfl z111 rfl (by simp [Value.oneCell']) H166_ 0 rfl (Nat.le_of_ble_eq_true (by rfl)) ?_)
     intro w170_ S172_ H171_
     have S173_ := Same.trans S168_ S172_
     refine wn (hK169_ _ _ ?_)
     refine C_ret ?_
     refine R_any (v := (vA #[(Value.iface 169 (vI .i64 s.from_)), (Value.iface 169 (vI .i64 s.till))])) (run_results1 rfl ⟨_, rfl, load_resN underlying111 rfl z111 rfl (vs := [(Value.iface 169 (vI .i64 s.from_)), (Value.iface 169 (vI .i64 s.till))]) (Holds.cl_cells H171_ 0 rfl 0 rfl)⟩) ⟨_, rfl, ?_⟩
     refine S_list0 (T_storeN (vs := [(Value.iface 169 (vI .i64 s.from_)), (Value.iface 169 (vI .i64 s.till))]) rfl rfl z111 rfl (by simp [Value.oneCell']) H171_ 1 rfl (Nat.le_of_ble_eq_true (by rfl)) ?_)
     intro w174_ S176_ H175_
     have S177_ := Same.trans S173_ S176_
     refine wn (hK162_ _ _ ?_)
     refine C_ret (X_blkR (X_thenR ?_))
     refine R_any (v := (vA #[(Value.iface 169 (vI .i64 s.from_)), (Value.iface 169 (vI .i64 s.till))])) (run_results1 rfl ⟨_, rfl, load_resN underlying111 rfl z111 rfl (vs := [(Value.iface 169 (vI .i64 s.from_)), (Value.iface 169 (vI .i64 s.till))]) (Holds.cl_cells H175_ 1 rfl 0 rfl)⟩) ?_
     have ho_ : ord = 3 := by omega
     have H178_ := Holds.pkF H175_ [3] 3
     exact ⟨R, _, _, rfl, (Sub.rfl' _), ⟨169, 169, (vI .i64 s.from_), (vI .i64 s.till), (congrArg (fun l => vA (List.toArray l)) (lcons (rfl : (Value.iface 169 (vI .i64 s.from_)) = ((Value.iface 169 (vI .i64 s.from_)))) (lcons (rfl : (Value.iface 169 (vI .i64 s.till)) = ((Value.iface 169 (vI .i64 s.till)))) rfl))), rfl, (.inr (.inr (.inr ⟨ho_, _, rfl, by have := hok.n ho_; omega, by rw [ho_]; exact lo_num⟩))), (.inr (.inr (.inr ⟨ho_, _, rfl, by have := hok.n ho_; omega, by rw [ho_]; exact hi_num⟩)))⟩, S177_, H178_⟩
   ·have c158_fp : ¬ (ord = 3) := of_decide_eq_false c158_f
    refine C_skip (X_blkN (X_then (hK12_ _ _ ?_)))
    refine C_seq (fun _ hK179_ => ?_)
    refine cr fun _ hK180_ => ?_
    refine sv (v := (vQ b2_)) (by kernel_rfl) ?_
    refine sv (v := (vP (some ⟨b2_, 2, none⟩))) (by kernel_rfl) ?_
    refine sv (v := (vB s.in__Point)) (x_load1 rfl underlying4 rfl ((Holds.rd H9_ 1 rfl) 2 (vB s.in__Point) rfl)) ?_
    refine wn (hK180_ _ _ ?_)
    refine C_cond (b := s.in__Point) rfl (fun c181_t => ?_) (fun c181_f => ?_)
    ·skip
     refine cr fun _ hK182_ => ?_
     refine sv (v := (vQ b2_)) (by kernel_rfl) ?_
     refine sv (v := (vQ b2_)) (by kernel_rfl) ?_
     refine sv (v := (Value.string s.in__Begin)) (x_load1 rfl underlying9 rfl ((Holds.rd H9_ 1 rfl) 0 (Value.string s.in__Begin) rfl)) ?_
     refine S_list (T_callW (al := [(Value.string s.in__Begin)]) rfl rfl cb107 (Calls.into (n := 9) func107 rfl ntmps107 rfl rfl ?_))
     refine cr fun _ hK183_ => ?_
     refine S_list (T_alloc z111 H9_ ?_)
     intro b184_ w185_ S187_ H186_
     have S188_ := Same.trans S11_ S187_
     refine wn (hK183_ _ _ ?_)
     refine cr fun _ hK189_ => ?_
     refine sm (Value.string s.in__Begin) ?_
     refine sv (v := (Value.iface 167 (Value.string s.in__Begin))) (by kernel_rfl) ?_
     refine sm (Value.string s.in__Begin) ?_
     refine sv (v := (Value.string (s.in__Begin ++ (ByteArray.mk #[0])))) (x_str rfl rfl (so_add (by have h1__ : (ByteArray.mk #[0]).size = 1 := rfl; omega)) (by decide)) ?_
     refine sv (v := (Value.iface 167 (Value.string (s.in__Begin ++ (ByteArray.mk #[0]))))) (by kernel_rfl) ?_
     refine sv (v := (vA #[(Value.iface 167 (Value.string s.in__Begin)), (Value.iface 167 (Value.string (s.in__Begin ++ (ByteArray.mk #[0]))))])) (by kernel_rfl) ?_
     refine S_list0 (T_storeN (vs := [(Value.iface 167 (Value.string s.in__Begin)), (Value.iface 167 (Value.string (s.in__Begin ++ (ByteArray.mk #[0]))))]) rfl rfl z111 rfl (by simp [Value.oneCell']) H186_ 0 rfl (Nat.le_of_ble_eq_true (by rfl)) ?_)
     intro w190_ S192_ H191_
     have S193_ := Same.trans S188_ S192_
     refine wn (hK189_ _ _ ?_)
     refine C_ret ?_
     refine R_any (v := (vA #[(Value.iface 167 (Value.string s.in__Begin)), (Value.iface 167 (Value.string (s.in__Begin ++ (ByteArray.mk #[0]))))])) (run_results1 rfl ⟨_, rfl, load_resN underlying111 rfl z111 rfl (vs := [(Value.iface 167 (Value.string s.in__Begin)), (Value.iface 167 (Value.string (s.in__Begin ++ (ByteArray.mk #[0]))))]) (Holds.cl_cells H191_ 0 rfl 0 rfl)⟩) ⟨_, rfl, ?_⟩
     refine S_list0 (T_storeN (vs := [(Value.iface 167 (Value.string s.in__Begin)), (Value.iface 167 (Value.string (s.in__Begin ++ (ByteArray.mk #[0]))))]) rfl rfl z111 rfl (by simp [Value.oneCell']) H191_ 1 rfl (Nat.le_of_ble_eq_true (by rfl)) ?_)
     intro w194_ S196_ H195_
     have S197_ := Same.trans S193_ S196_
     refine wn (hK182_ _ _ ?_)
     refine C_ret (X_thenR ?_)
     refine R_any (v := (vA #[(Value.iface 167 (Value.string s.in__Begin)), (Value.iface 167 (Value.string (s.in__Begin ++ (ByteArray.mk #[0]))))])) (run_results1 rfl ⟨_, rfl, load_resN underlying111 rfl z111 rfl (vs := [(Value.iface 167 (Value.string s.in__Begin)), (Value.iface 167 (Value.string (s.in__Begin ++ (ByteArray.mk #[0]))))]) (Holds.cl_cells H195_ 1 rfl 0 rfl)⟩) ?_
     have ho_ : ord = 0 := by omega
     have H198_ := Holds.pkF H195_ [3] 3
     exact ⟨R, _, _, rfl, (Sub.rfl' _), ⟨167, 167, (Value.string s.in__Begin), (Value.string (s.in__Begin ++ (ByteArray.mk #[0]))), (congrArg (fun l => vA (List.toArray l)) (lcons (rfl : (Value.iface 167 (Value.string s.in__Begin)) = ((Value.iface 167 (Value.string s.in__Begin)))) (lcons (rfl : (Value.iface 167 (Value.string (s.in__Begin ++ (ByteArray.mk #[0])))) = ((Value.iface 167 (Value.string (s.in__Begin ++ (ByteArray.mk #[0])))))) rfl))), rfl, (.inl ⟨ho_, _, rfl, lo_text (by rw [ho_]; decide)⟩), (.inl ⟨ho_, _, rfl, hi_point (by rw [ho_]; decide) c181_t⟩)⟩, S197_, H198_⟩
    ·skip
     refine C_skip (X_then (hK179_ _ _ ?_))
     refine cr fun _ hK199_ => ?_
     refine sv (v := (vQ b2_)) (by kernel_rfl) ?_
     refine sv (v := (vQ b2_)) (by kernel_rfl) ?_
     refine sv (v := (Value.string s.in__Begin)) (x_load1 rfl underlying9 rfl ((Holds.rd H9_ 1 rfl) 0 (Value.string s.in__Begin) rfl)) ?_
     refine sv (v := (vQ b2_)) (by kernel_rfl) ?_
     refine sv (v := (vP (some ⟨b2_, 1, none⟩))) (by kernel_rfl) ?_
     refine sv (v := (Value.string s.in__End)) (x_load1 rfl underlying9 rfl ((Holds.rd H9_ 1 rfl) 1 (Value.string s.in__End) rfl)) ?_
     refine S_list (T_callW (al := [(Value.string s.in__Begin), (Value.string s.in__End)]) rfl rfl cb108 (Calls.into (n := 10) func108 rfl ntmps108 rfl rfl ?_))
     refine cr fun _ hK200_ => ?_
     refine S_list (T_alloc z111 H9_ ?_)
     intro b201_ w202_ S204_ H203_
     have S205_ := Same.trans S11_ S204_
     refine wn (hK200_ _ _ ?_)
     refine cr fun _ hK206_ => ?_
     refine sm (Value.string s.in__Begin) ?_
     refine sv (v := (Value.iface 167 (Value.string s.in__Begin))) (by kernel_rfl) ?_
     refine sm (Value.string s.in__End) ?_
     refine sv (v := (Value.iface 167 (Value.string s.in__End))) (by kernel_rfl) ?_
     refine sv (v := (vA #[(Value.iface 167 (Value.string s.in__Begin)), (Value.iface 167 (Value.string s.in__End))])) (by kernel_rfl) ?_
     refine S_list0 (T_storeN (vs := [(Value.iface 167 (Value.string s.in__Begin)), (Value.iface 167 (Value.string s.in__End))]) rfl rfl z111 rfl (by simp [Value.oneCell']) H203_ 0 rfl (Nat.le_of_ble_eq_true (by rfl)) ?_)
     intro w207_ S209_ H208_
     have S210_ := Same.trans S205_ S209_
     refine wn (hK206_ _ _ ?_)
     refine C_ret ?_
     refine R_any (v := (vA #[(Value.iface 167 (Value.string s.in__Begin)), (Value.iface 167 (Value.string s.in__End))])) (run_results1 rfl ⟨_, rfl, load_resN underlying111 rfl z111 rfl (vs := [(Value.iface 167 (Value.string s.in__Begin)), (Value.iface 167 (Value.string s.in__End))]) (Holds.cl_cells H208_ 0 rfl 0 rfl)⟩) ⟨_, rfl, ?_⟩
     refine S_list0 (T_storeN (vs := [(Value.iface 167 (Value.string s.in__Begin)), (Value.iface 167 (Value.string s.in__End))]) rfl rfl z111 rfl (by simp [Value.oneCell']) H208_ 1 rfl (Nat.le_of_ble_eq_true (by rfl)) ?_)
     intro w211_ S213_ H212_
     have S214_ := Same.trans S210_ S213_
     refine wn (hK199_ _ _ ?_)
     refine C_ret ?_
     refine R_any (v := (vA #[(Value.iface 167 (Value.string s.in__Begin)), (Value.iface 167 (Value.string s.in__End))])) (run_results1 rfl ⟨_, rfl, load_resN underlying111 rfl z111 rfl (vs := [(Value.iface 167 (Value.string s.in__Begin)), (Value.iface 167 (Value.string s.in__End))]) (Holds.cl_cells H212_ 1 rfl 0 rfl)⟩) ?_
     have ho_ : ord = 0 := by omega
     have H215_ := Holds.pkF H212_ [3] 3
     exact ⟨R, _, _, rfl, (Sub.rfl' _), ⟨167, 167, (Value.string s.in__Begin), (Value.string s.in__End), (congrArg (fun l => vA (List.toArray l)) (lcons (rfl : (Value.iface 167 (Value.string s.in__Begin)) = ((Value.iface 167 (Value.string s.in__Begin)))) (lcons (rfl : (Value.iface 167 (Value.string s.in__End)) = ((Value.iface 167 (Value.string s.in__End)))) rfl))), rfl, (.inl ⟨ho_, _, rfl, lo_text (by rw [ho_]; decide)⟩), (.inl ⟨ho_, _, rfl, hi_text (by rw [ho_]; decide) c181_f⟩)⟩, S214_, H215_⟩

set_option maxHeartbeats 1600000 in
theorem spOut0 (R : HP) (a b : ByteArray) :
    Tri Try.prog 54 #[(vA #[(Value.iface 167 (Value.string a)), (Value.iface 167 (Value.string b))])] R [] (fun v__ post__ => v__ = (vA #[(Value.string a), (Value.string b), (vB false), (vI .i64 0), (vI .i64 0)]) ∧ post__ = []) := by
 refine Tri.into (n := 66) (al := [(vA #[(Value.iface 167 (Value.string a)), (Value.iface 167 (Value.string b))])]) func54 rfl ntmps54 rfl rfl fun w F H => ?_
 refine cr fun _ hK1_ => ?_
 refine S_list (T_box (v := (vA #[(Value.iface 167 (Value.string a)), (Value.iface 167 (Value.string b))])) rfl H ?_)
 intro b2_ w3_ S5_ H4_
 have S6_ := Same.trans (Same.refl w) S5_
 refine S_list (T_alloc z44 H4_ ?_)
 intro b7_ w8_ S10_ H9_
 have S11_ := Same.trans S6_ S10_
 refine wn (hK1_ _ _ ?_)
 refine cr fun _ hK12_ => ?_
 refine sv (v := (vA #[(Value.string ByteArray.empty), (Value.string ByteArray.empty), (vB false), (vI .i64 0), (vI .i64 0)])) (by kernel_rfl) ?_
 refine S_list (T_alloc z44 H9_ ?_)
 intro b13_ w14_ S16_ H15_
 have S17_ := Same.trans S11_ S16_
 refine S_list0 (T_storeN (vs := [(Value.string ByteArray.empty), (Value.string ByteArray.empty), (vB false), (vI .i64 0), (vI .i64 0)]) rfl rfl z44 rfl (by simp [Value.oneCell']) H15_ 0 rfl (Nat.le_of_ble_eq_true (by rfl)) ?_)
 intro w18_ S20_ H19_
 have S21_ := Same.trans S17_ S20_
 refine wn (hK12_ _ _ ?_)
 refine C_seq (fun _ hK22_ => ?_)
 refine cr fun _ hK23_ => ?_
 refine sv (v := (vQ b2_)) (by kernel_rfl) ?_
 refine sv (v := (Value.iface 167 (Value.string a))) (x_load1 rfl underlying109 rfl ((Holds.rd H19_ 2 rfl) 0 (Value.iface 167 (Value.string a)) rfl)) ?_
 refine wn (hK23_ _ _ ?_)
 refine C_block ?_
 refine cr fun _ hK24_ => ?_
 refine sv (v := (vT #[(Value.string a), (vB true)])) (by kernel_rfl) ?_
 refine sv (v := (vB true)) (by kernel_rfl) ?_
 refine sv (v := (Value.string a)) (by kernel_rfl) ?_
 refine wn (hK24_ _ _ ?_)
 refine C_condT rfl ?_
 refine cr fun _ hK25_ => ?_
 refine sv (v := (Value.string a)) (x_assign rfl) ?_
 refine wn (hK25_ _ _ ?_)
 refine C_reg ?_
 refine sm (Value.string a) ?_
 refine sv (v := (vQ b13_)) (by kernel_rfl) ?_
 refine sv (v := (vQ b13_)) (by kernel_rfl) ?_
 refine S_list0 (T_store1 (v := (Value.string a)) rfl rfl z9 rfl H19_ 0 rfl (Nat.le_of_ble_eq_true (by rfl)) ?_)
 intro w26_ S28_ H27_
 have S29_ := Same.trans S21_ S28_
 refine wpList_nil (X_blkN (X_then (hK22_ _ _ ?_)))
 refine C_seq (fun _ hK30_ => ?_)
 refine cr fun _ hK31_ => ?_
 refine sv (v := (vP (some ⟨b2_, 1, none⟩))) (by kernel_rfl) ?_
 refine sv (v := (Value.iface 167 (Value.string b))) (x_load1 rfl underlying109 rfl ((Holds.rd H27_ 2 rfl) 1 (Value.iface 167 (Value.string b)) rfl)) ?_
 refine wn (hK31_ _ _ ?_)
 refine C_block ?_
 refine cr fun _ hK32_ => ?_
 refine sv (v := (vT #[(Value.string b), (vB true)])) (by kernel_rfl) ?_
 refine sv (v := (vB true)) (by kernel_rfl) ?_
 refine sv (v := (Value.string b)) (by kernel_rfl) ?_
 refine wn (hK32_ _ _ ?_)
 refine C_condT rfl ?_
 refine cr fun _ hK33_ => ?_
 refine sv (v := (Value.string b)) (x_assign rfl) ?_
 refine wn (hK33_ _ _ ?_)
 refine C_reg ?_
 refine sm (Value.string b) ?_
 refine sv (v := (vQ b13_)) (by kernel_rfl) ?_
 refine sv (v := (vP (some ⟨b13_, 1, none⟩))) (by kernel_rfl) ?_
 refine S_list0 (T_store1 (v := (Value.string b)) rfl rfl z9 rfl H27_ 0 rfl (Nat.le_of_ble_eq_true (by rfl)) ?_)
 intro w34_ S36_ H35_
 have S37_ := Same.trans S29_ S36_
 refine wpList_nil (X_blkN (X_then (hK30_ _ _ ?_)))
 refine cr fun _ hK38_ => ?_
 refine sv (v := (vA #[(Value.string a), (Value.string b), (vB false), (vI .i64 0), (vI .i64 0)])) (x_loadN (vs := [(Value.string a), (Value.string b), (vB false), (vI .i64 0), (vI .i64 0)]) rfl underlying44 rfl z44 rfl (Rd.cells (Holds.rd H35_ 0 rfl) 0 rfl)) ?_
 refine S_list0 (T_storeN (vs := [(Value.string a), (Value.string b), (vB false), (vI .i64 0), (vI .i64 0)]) rfl rfl z44 rfl (by simp [Value.oneCell']) H35_ 1 rfl (Nat.le_of_ble_eq_true (by rfl)) ?_)
 intro w39_ S41_ H40_
 have S42_ := Same.trans S37_ S41_
 refine wn (hK38_ _ _ ?_)
 refine C_ret ?_
 refine R_any (v := (vA #[(Value.string a), (Value.string b), (vB false), (vI .i64 0), (vI .i64 0)])) (run_results1 rfl ⟨_, rfl, load_resN underlying44 rfl z44 rfl (vs := [(Value.string a), (Value.string b), (vB false), (vI .i64 0), (vI .i64 0)]) (Holds.cl_cells H40_ 1 rfl 0 rfl)⟩) ?_
 have H43_ := Holds.pkF H40_ [3] 3
 exact ⟨_, _, rfl, ⟨rfl, rfl⟩, S42_, H43_⟩

set_option maxHeartbeats 1600000 in
theorem spOut1 (R : HP) (a b : ByteArray) :
    Tri Try.prog 54 #[(vA #[(Value.iface 166 (Value.string a)), (Value.iface 166 (Value.string b))])] R [] (fun v__ post__ => v__ = (vA #[(Value.string a), (Value.string b), (vB false), (vI .i64 0), (vI .i64 0)]) ∧ post__ = []) := by
 refine Tri.into (n := 66) (al := [(vA #[(Value.iface 166 (Value.string a)), (Value.iface 166 (Value.string b))])]) func54 rfl ntmps54 rfl rfl fun w F H => ?_
 refine cr fun _ hK1_ => ?_
 refine S_list (T_box (v := (vA #[(Value.iface 166 (Value.string a)), (Value.iface 166 (Value.string b))])) rfl H ?_)
 intro b2_ w3_ S5_ H4_
 have S6_ := Same.trans (Same.refl w) S5_
 refine S_list (T_alloc z44 H4_ ?_)
 intro b7_ w8_ S10_ H9_
 have S11_ := Same.trans S6_ S10_
 refine wn (hK1_ _ _ ?_)
 refine cr fun _ hK12_ => ?_
 refine sv (v := (vA #[(Value.string ByteArray.empty), (Value.string ByteArray.empty), (vB false), (vI .i64 0), (vI .i64 0)])) (by kernel_rfl) ?_
 refine S_list (T_alloc z44 H9_ ?_)
 intro b13_ w14_ S16_ H15_
 have S17_ := Same.trans S11_ S16_
 refine S_list0 (T_storeN (vs := [(Value.string ByteArray.empty), (Value.string ByteArray.empty), (vB false), (vI .i64 0), (vI .i64 0)]) rfl rfl z44 rfl (by simp [Value.oneCell']) H15_ 0 rfl (Nat.le_of_ble_eq_true (by rfl)) ?_)
 intro w18_ S20_ H19_
 have S21_ := Same.trans S17_ S20_
 refine wn (hK12_ _ _ ?_)
 refine C_seq (fun _ hK22_ => ?_)
 refine cr fun _ hK23_ => ?_
 refine sv (v := (vQ b2_)) (by kernel_rfl) ?_
 refine sv (v := (Value.iface 166 (Value.string a))) (x_load1 rfl underlying109 rfl ((Holds.rd H19_ 2 rfl) 0 (Value.iface 166 (Value.string a)) rfl)) ?_
 refine wn (hK23_ _ _ ?_)
 refine C_block ?_
 refine cr fun _ hK24_ => ?_
 refine sv (v := (vT #[(Value.string ByteArray.empty), (vB false)])) (by kernel_rfl) ?_
 refine sv (v := (vB false)) (by kernel_rfl) ?_
 refine sv (v := (Value.string ByteArray.empty)) (by kernel_rfl) ?_
 refine wn (hK24_ _ _ ?_)
 refine C_condF rfl ?_
 refine cr fun _ hK25_ => ?_
 refine sv (v := (vT #[(Value.string a), (vB true)])) (by kernel_rfl) ?_
 refine sv (v := (vB true)) (by kernel_rfl) ?_
 refine sv (v := (Value.string a)) (by kernel_rfl) ?_
 refine wn (hK25_ _ _ ?_)
 refine C_condT rfl ?_
 refine cr fun _ hK26_ => ?_
 refine sv (v := (Value.string a)) (x_assign rfl) ?_
 refine wn (hK26_ _ _ ?_)
 refine C_reg ?_
 refine sm (Value.string a) ?_
 refine sv (v := (vQ b13_)) (by kernel_rfl) ?_
 refine sv (v := (vQ b13_)) (by kernel_rfl) ?_
 refine S_list0 (T_store1 (v := (Value.string a)) rfl rfl z9 rfl H19_ 0 rfl (Nat.le_of_ble_eq_true (by rfl)) ?_)
 intro w27_ S29_ H28_
 have S30_ := Same.trans S21_ S29_
 refine wpList_nil (X_blkN (X_then (hK22_ _ _ ?_)))
 refine C_seq (fun _ hK31_ => ?_)
 refine cr fun _ hK32_ => ?_
 refine sv (v := (vP (some ⟨b2_, 1, none⟩))) (by kernel_rfl) ?_
 refine sv (v := (Value.iface 166 (Value.string b))) (x_load1 rfl underlying109 rfl ((Holds.rd H28_ 2 rfl) 1 (Value.iface 166 (Value.string b)) rfl)) ?_
 refine wn (hK32_ _ _ ?_)
 refine C_block ?_
 refine cr fun _ hK33_ => ?_
 refine sv (v := (vT #[(Value.string ByteArray.empty), (vB false)])) (by kernel_rfl) ?_
 refine sv (v := (vB false)) (by kernel_rfl) ?_
 refine sv (v := (Value.string ByteArray.empty)) (by kernel_rfl) ?_
 refine wn (hK33_ _ _ ?_)
 refine C_condF rfl ?_
 refine cr fun _ hK34_ => ?_
 refine sv (v := (vT #[(Value.string b), (vB true)])) (by kernel_rfl) ?_
 refine sv (v := (vB true)) (by kernel_rfl) ?_
 refine sv (v := (Value.string b)) (by kernel_rfl) ?_
 refine wn (hK34_ _ _ ?_)
 refine C_condT rfl ?_
 refine cr fun _ hK35_ => ?_
 refine sv (v := (Value.string b)) (x_assign rfl) ?_
 refine wn (hK35_ _ _ ?_)
 refine C_reg ?_
 refine sm (Value.string b) ?_
 refine sv (v := (vQ b13_)) (by kernel_rfl) ?_
 refine sv (v := (vP (some ⟨b13_, 1, none⟩))) (by kernel_rfl) ?_
 refine S_list0 (T_store1 (v := (Value.string b)) rfl rfl z9 rfl H28_ 0 rfl (Nat.le_of_ble_eq_true (by rfl)) ?_)
 intro w36_ S38_ H37_
 have S39_ := Same.trans S30_ S38_
 refine wpList_nil (X_blkN (X_then (hK31_ _ _ ?_)))
 refine cr fun _ hK40_ => ?_
 refine sv (v := (vA #[(Value.string a), (Value.string b), (vB false), (vI .i64 0), (vI .i64 0)])) (x_loadN (vs := [(Value.string a), (Value.string b), (vB false), (vI .i64 0), (vI .i64 0)]) rfl underlying44 rfl z44 rfl (Rd.cells (Holds.rd H37_ 0 rfl) 0 rfl)) ?_
 refine S_list0 (T_storeN (vs := [(Value.string a), (Value.string b), (vB false), (vI .i64 0), (vI .i64 0)]) rfl rfl z44 rfl (by simp [Value.oneCell']) H37_ 1 rfl (Nat.le_of_ble_eq_true (by rfl)) ?_)
 intro w41_ S43_ H42_
 have S44_ := Same.trans S39_ S43_
 refine wn (hK40_ _ _ ?_)
 refine C_ret ?_
 refine R_any (v := (vA #[(Value.string a), (Value.string b), (vB false), (vI .i64 0), (vI .i64 0)])) (run_results1 rfl ⟨_, rfl, load_resN underlying44 rfl z44 rfl (vs := [(Value.string a), (Value.string b), (vB false), (vI .i64 0), (vI .i64 0)]) (Holds.cl_cells H42_ 1 rfl 0 rfl)⟩) ?_
 have H45_ := Holds.pkF H42_ [3] 3
 exact ⟨_, _, rfl, ⟨rfl, rfl⟩, S44_, H45_⟩

set_option maxHeartbeats 1600000 in
theorem spOut3 (R : HP) (a b : Int) :
    Tri Try.prog 54 #[(vA #[(Value.iface 169 (vI .i64 a)), (Value.iface 169 (vI .i64 b))])] R [] (fun v__ post__ => v__ = (vA #[(Value.string (ByteArray.mk #[])), (Value.string (ByteArray.mk #[])), (vB false), (vI .i64 a), (vI .i64 b)]) ∧ post__ = []) := by
 refine Tri.into (n := 66) (al := [(vA #[(Value.iface 169 (vI .i64 a)), (Value.iface 169 (vI .i64 b))])]) func54 rfl ntmps54 rfl rfl fun w F H => ?_
 refine cr fun _ hK1_ => ?_
 refine S_list (T_box (v := (vA #[(Value.iface 169 (vI .i64 a)), (Value.iface 169 (vI .i64 b))])) rfl H ?_)
 intro b2_ w3_ S5_ H4_
 have S6_ := Same.trans (Same.refl w) S5_
 refine S_list (T_alloc z44 H4_ ?_)
 intro b7_ w8_ S10_ H9_
 have S11_ := Same.trans S6_ S10_
 refine wn (hK1_ _ _ ?_)
 refine cr fun _ hK12_ => ?_
 refine sv (v := (vA #[(Value.string ByteArray.empty), (Value.string ByteArray.empty), (vB false), (vI .i64 0), (vI .i64 0)])) (by kernel_rfl) ?_
 refine S_list (T_alloc z44 H9_ ?_)
 intro b13_ w14_ S16_ H15_
 have S17_ := Same.trans S11_ S16_
 refine S_list0 (T_storeN (vs := [(Value.string ByteArray.empty), (Value.string ByteArray.empty), (vB false), (vI .i64 0), (vI .i64 0)]) rfl rfl z44 rfl (by simp [Value.oneCell']) H15_ 0 rfl (Nat.le_of_ble_eq_true (by rfl)) ?_)
 intro w18_ S20_ H19_
 have S21_ := Same.trans S17_ S20_
 refine wn (hK12_ _ _ ?_)
 refine C_seq (fun _ hK22_ => ?_)
 refine cr fun _ hK23_ => ?_
 refine sv (v := (vQ b2_)) (by kernel_rfl) ?_
 refine sv (v := (Value.iface 169 (vI .i64 a))) (x_load1 rfl underlying109 rfl ((Holds.rd H19_ 2 rfl) 0 (Value.iface 169 (vI .i64 a)) rfl)) ?_
 refine wn (hK23_ _ _ ?_)
 refine C_block ?_
 refine cr fun _ hK24_ => ?_
 refine sv (v := (vT #[(Value.string ByteArray.empty), (vB false)])) (by kernel_rfl) ?_
 refine sv (v := (vB false)) (by kernel_rfl) ?_
 refine sv (v := (Value.string ByteArray.empty)) (by kernel_rfl) ?_
 refine wn (hK24_ _ _ ?_)
 refine C_condF rfl ?_
 refine cr fun _ hK25_ => ?_
 refine sv (v := (vT #[(Value.string ByteArray.empty), (vB false)])) (by kernel_rfl) ?_
 refine sv (v := (vB false)) (by kernel_rfl) ?_
 refine sv (v := (Value.string ByteArray.empty)) (by kernel_rfl) ?_
 refine wn (hK25_ _ _ ?_)
 refine C_condF rfl ?_
 refine cr fun _ hK26_ => ?_
 refine sv (v := (vT #[(vS none 0 0), (vB false)])) (by kernel_rfl) ?_
 refine sv (v := (vB false)) (by kernel_rfl) ?_
 refine sv (v := (vS none 0 0)) (by kernel_rfl) ?_
 refine wn (hK26_ _ _ ?_)
 refine C_condF rfl ?_
 refine cr fun _ hK27_ => ?_
 refine sv (v := (vT #[(vI .i64 a), (vB true)])) (by kernel_rfl) ?_
 refine sv (v := (vB true)) (by kernel_rfl) ?_
 refine sv (v := (vI .i64 a)) (by kernel_rfl) ?_
 refine wn (hK27_ _ _ ?_)
 refine C_condT rfl ?_
 refine cr fun _ hK28_ => ?_
 refine sv (v := (vI .i64 a)) (x_assign rfl) ?_
 refine wn (hK28_ _ _ ?_)
 refine C_reg ?_
 refine sm (vI .i64 a) ?_
 refine sv (v := (vP (some ⟨b13_, 3, none⟩))) (by kernel_rfl) ?_
 refine S_list0 (T_store1 (v := (vI .i64 a)) rfl rfl z2 rfl H19_ 0 rfl (Nat.le_of_ble_eq_true (by rfl)) ?_)
 intro w29_ S31_ H30_
 have S32_ := Same.trans S21_ S31_
 refine wpList_nil (X_blkN (X_then (hK22_ _ _ ?_)))
 refine C_seq (fun _ hK33_ => ?_)
 refine cr fun _ hK34_ => ?_
 refine sv (v := (vP (some ⟨b2_, 1, none⟩))) (by kernel_rfl) ?_
 refine sv (v := (Value.iface 169 (vI .i64 b))) (x_load1 rfl underlying109 rfl ((Holds.rd H30_ 2 rfl) 1 (Value.iface 169 (vI .i64 b)) rfl)) ?_
 refine wn (hK34_ _ _ ?_)
 refine C_block ?_
 refine cr fun _ hK35_ => ?_
 refine sv (v := (vT #[(Value.string ByteArray.empty), (vB false)])) (by kernel_rfl) ?_
 refine sv (v := (vB false)) (by kernel_rfl) ?_
 refine sv (v := (Value.string ByteArray.empty)) (by kernel_rfl) ?_
 refine wn (hK35_ _ _ ?_)
 refine C_condF rfl ?_
 refine cr fun _ hK36_ => ?_
 refine sv (v := (vT #[(Value.string ByteArray.empty), (vB false)])) (by kernel_rfl) ?_
 refine sv (v := (vB false)) (by kernel_rfl) ?_
 refine sv (v := (Value.string ByteArray.empty)) (by kernel_rfl) ?_
 refine wn (hK36_ _ _ ?_)
 refine C_condF rfl ?_
 refine cr fun _ hK37_ => ?_
 refine sv (v := (vT #[(vS none 0 0), (vB false)])) (by kernel_rfl) ?_
 refine sv (v := (vB false)) (by kernel_rfl) ?_
 refine sv (v := (vS none 0 0)) (by kernel_rfl) ?_
 refine wn (hK37_ _ _ ?_)
 refine C_condF rfl ?_
 refine cr fun _ hK38_ => ?_
 refine sv (v := (vT #[(vI .i64 b), (vB true)])) (by kernel_rfl) ?_
 refine sv (v := (vB true)) (by kernel_rfl) ?_
 refine sv (v := (vI .i64 b)) (by kernel_rfl) ?_
 refine wn (hK38_ _ _ ?_)
 refine C_condT rfl ?_
 refine cr fun _ hK39_ => ?_
 refine sv (v := (vI .i64 b)) (x_assign rfl) ?_
 refine wn (hK39_ _ _ ?_)
 refine C_reg ?_
 refine sm (vI .i64 b) ?_
 refine sv (v := (vP (some ⟨b13_, 4, none⟩))) (by kernel_rfl) ?_
 refine S_list0 (T_store1 (v := (vI .i64 b)) rfl rfl z2 rfl H30_ 0 rfl (Nat.le_of_ble_eq_true (by rfl)) ?_)
 intro w40_ S42_ H41_
 have S43_ := Same.trans S32_ S42_
 refine wpList_nil (X_blkN (X_then (hK33_ _ _ ?_)))
 refine cr fun _ hK44_ => ?_
 refine sv (v := (vA #[(Value.string ByteArray.empty), (Value.string ByteArray.empty), (vB false), (vI .i64 a), (vI .i64 b)])) (x_loadN (vs := [(Value.string ByteArray.empty), (Value.string ByteArray.empty), (vB false), (vI .i64 a), (vI .i64 b)]) rfl underlying44 rfl z44 rfl (Rd.cells (Holds.rd H41_ 0 rfl) 0 rfl)) ?_
 refine S_list0 (T_storeN (vs := [(Value.string ByteArray.empty), (Value.string ByteArray.empty), (vB false), (vI .i64 a), (vI .i64 b)]) rfl rfl z44 rfl (by simp [Value.oneCell']) H41_ 1 rfl (Nat.le_of_ble_eq_true (by rfl)) ?_)
 intro w45_ S47_ H46_
 have S48_ := Same.trans S43_ S47_
 refine wn (hK44_ _ _ ?_)
 refine C_ret ?_
 refine R_any (v := (vA #[(Value.string ByteArray.empty), (Value.string ByteArray.empty), (vB false), (vI .i64 a), (vI .i64 b)])) (run_results1 rfl ⟨_, rfl, load_resN underlying44 rfl z44 rfl (vs := [(Value.string ByteArray.empty), (Value.string ByteArray.empty), (vB false), (vI .i64 a), (vI .i64 b)]) (Holds.cl_cells H46_ 1 rfl 0 rfl)⟩) ?_
 have H49_ := Holds.pkF H46_ [3] 3
 exact ⟨_, _, rfl, ⟨(congrArg (fun l => vA (List.toArray l)) (lcons (congrArg Value.string ((by first | rfl | omega | (simp; done) | (simp; omega)) : ByteArray.empty = (ByteArray.mk #[]))) (lcons (congrArg Value.string ((by first | rfl | omega | (simp; done) | (simp; omega)) : ByteArray.empty = (ByteArray.mk #[]))) rfl))), rfl⟩, S48_, H49_⟩

set_option maxHeartbeats 1600000 in
theorem spOut2 (R : HP) (x y : Value) (A C : List Int) (hx : RS R 1 x (List.length A) (bytesV A)) (hy : RS R 1 y (List.length C) (bytesV C)) :
    Tri Try.prog 54 #[(vA #[(Value.iface 168 x), (Value.iface 168 y)])] R [] (fun v__ post__ => v__ = (vA #[(Value.string (strN A)), (Value.string (strN C)), (vB false), (vI .i64 0), (vI .i64 0)]) ∧ post__ = []) := by
 refine Tri.into (n := 66) (al := [(vA #[(Value.iface 168 x), (Value.iface 168 y)])]) func54 rfl ntmps54 rfl rfl fun w F H => ?_
 refine cr fun _ hK1_ => ?_
 refine S_list (T_box (v := (vA #[(Value.iface 168 x), (Value.iface 168 y)])) rfl H ?_)
 intro b2_ w3_ S5_ H4_
 have S6_ := Same.trans (Same.refl w) S5_
 refine S_list (T_alloc z44 H4_ ?_)
 intro b7_ w8_ S10_ H9_
 have S11_ := Same.trans S6_ S10_
 refine wn (hK1_ _ _ ?_)
 refine cr fun _ hK12_ => ?_
 refine sv (v := (vA #[(Value.string ByteArray.empty), (Value.string ByteArray.empty), (vB false), (vI .i64 0), (vI .i64 0)])) (by kernel_rfl) ?_
 refine S_list (T_alloc z44 H9_ ?_)
 intro b13_ w14_ S16_ H15_
 have S17_ := Same.trans S11_ S16_
 refine S_list0 (T_storeN (vs := [(Value.string ByteArray.empty), (Value.string ByteArray.empty), (vB false), (vI .i64 0), (vI .i64 0)]) rfl rfl z44 rfl (by simp [Value.oneCell']) H15_ 0 rfl (Nat.le_of_ble_eq_true (by rfl)) ?_)
 intro w18_ S20_ H19_
 have S21_ := Same.trans S17_ S20_
 refine wn (hK12_ _ _ ?_)
 refine C_seq (fun _ hK22_ => ?_)
 refine cr fun _ hK23_ => ?_
 refine sv (v := (vQ b2_)) (by kernel_rfl) ?_
 refine sv (v := (Value.iface 168 x)) (x_load1 rfl underlying109 rfl ((Holds.rd H19_ 2 rfl) 0 (Value.iface 168 x) rfl)) ?_
 refine wn (hK23_ _ _ ?_)
 refine C_block ?_
 refine cr fun _ hK24_ => ?_
 refine sv (v := (vT #[(Value.string ByteArray.empty), (vB false)])) (by kernel_rfl) ?_
 refine sv (v := (vB false)) (by kernel_rfl) ?_
 refine sv (v := (Value.string ByteArray.empty)) (by kernel_rfl) ?_
 refine wn (hK24_ _ _ ?_)
 refine C_condF rfl ?_
 refine cr fun _ hK25_ => ?_
 refine sv (v := (vT #[(Value.string ByteArray.empty), (vB false)])) (by kernel_rfl) ?_
 refine sv (v := (vB false)) (by kernel_rfl) ?_
 refine sv (v := (Value.string ByteArray.empty)) (by kernel_rfl) ?_
 refine wn (hK25_ _ _ ?_)
 refine C_condF rfl ?_
 refine cr fun _ hK26_ => ?_
 refine sv (v := (vT #[x, (vB true)])) (by kernel_rfl) ?_
 refine sv (v := (vB true)) (by kernel_rfl) ?_
 refine sv (v := x) (by kernel_rfl) ?_
 refine wn (hK26_ _ _ ?_)
 refine C_condT rfl ?_
 refine cr fun _ hK27_ => ?_
 refine sv (v := x) (x_assign rfl) ?_
 refine wn (hK27_ _ _ ?_)
 refine C_reg ?_
 refine sv (v := x) (x_move rfl) ?_
 refine sv (v := (Value.string (strN A))) (x_b2sRS rfl hx (Holds.ro_at H19_ 3 rfl) underlying168 underlying5 underlying9) ?_
 refine sv (v := (vQ b13_)) (by kernel_rfl) ?_
 refine sv (v := (vQ b13_)) (by kernel_rfl) ?_
 refine S_list0 (T_store1 (v := (Value.string (strN A))) rfl rfl z9 rfl H19_ 0 rfl (Nat.le_of_ble_eq_true (by rfl)) ?_)
 intro w28_ S30_ H29_
 have S31_ := Same.trans S21_ S30_
 refine wpList_nil (X_blkN (X_then (hK22_ _ _ ?_)))
 refine C_seq (fun _ hK32_ => ?_)
 refine cr fun _ hK33_ => ?_
 refine sv (v := (vP (some ⟨b2_, 1, none⟩))) (by kernel_rfl) ?_
 refine sv (v := (Value.iface 168 y)) (x_load1 rfl underlying109 rfl ((Holds.rd H29_ 2 rfl) 1 (Value.iface 168 y) rfl)) ?_
 refine wn (hK33_ _ _ ?_)
 refine C_block ?_
 refine cr fun _ hK34_ => ?_
 refine sv (v := (vT #[(Value.string ByteArray.empty), (vB false)])) (by kernel_rfl) ?_
 refine sv (v := (vB false)) (by kernel_rfl) ?_
 refine sv (v := (Value.string ByteArray.empty)) (by kernel_rfl) ?_
 refine wn (hK34_ _ _ ?_)
 refine C_condF rfl ?_
 refine cr fun _ hK35_ => ?_
 refine sv (v := (vT #[(Value.string ByteArray.empty), (vB false)])) (by kernel_rfl) ?_
 refine sv (v := (vB false)) (by kernel_rfl) ?_
 refine sv (v := (Value.string ByteArray.empty)) (by kernel_rfl) ?_
 refine wn (hK35_ _ _ ?_)
 refine C_condF rfl ?_
 refine cr fun _ hK36_ => ?_
 refine sv (v := (vT #[y, (vB true)])) (by kernel_rfl) ?_
 refine sv (v := (vB true)) (by kernel_rfl) ?_
 refine sv (v := y) (by kernel_rfl) ?_
 refine wn (hK36_ _ _ ?_)
 refine C_condT rfl ?_
 refine cr fun _ hK37_ => ?_
 refine sv (v := y) (x_assign rfl) ?_
 refine wn (hK37_ _ _ ?_)
 refine C_reg ?_
 refine sv (v := y) (x_move rfl) ?_
 refine sv (v := (Value.string (strN C))) (x_b2sRS rfl hy (Holds.ro_at H29_ 3 rfl) underlying168 underlying5 underlying9) ?_
 refine sv (v := (vQ b13_)) (by kernel_rfl) ?_
 refine sv (v := (vP (some ⟨b13_, 1, none⟩))) (by kernel_rfl) ?_
 refine S_list0 (T_store1 (v := (Value.string (strN C))) rfl rfl z9 rfl H29_ 0 rfl (Nat.le_of_ble_eq_true (by rfl)) ?_)
 intro w38_ S40_ H39_
 have S41_ := Same.trans S31_ S40_
 refine wpList_nil (X_blkN (X_then (hK32_ _ _ ?_)))
 refine cr fun _ hK42_ => ?_
 refine sv (v := (vA #[(Value.string (strN A)), (Value.string (strN C)), (vB false), (vI .i64 0), (vI .i64 0)])) (x_loadN (vs := [(Value.string (strN A)), (Value.string (strN C)), (vB false), (vI .i64 0), (vI .i64 0)]) rfl underlying44 rfl z44 rfl (Rd.cells (Holds.rd H39_ 0 rfl) 0 rfl)) ?_
 refine S_list0 (T_storeN (vs := [(Value.string (strN A)), (Value.string (strN C)), (vB false), (vI .i64 0), (vI .i64 0)]) rfl rfl z44 rfl (by simp [Value.oneCell']) H39_ 1 rfl (Nat.le_of_ble_eq_true (by rfl)) ?_)
 intro w43_ S45_ H44_
 have S46_ := Same.trans S41_ S45_
 refine wn (hK42_ _ _ ?_)
 refine C_ret ?_
 refine R_any (v := (vA #[(Value.string (strN A)), (Value.string (strN C)), (vB false), (vI .i64 0), (vI .i64 0)])) (run_results1 rfl ⟨_, rfl, load_resN underlying44 rfl z44 rfl (vs := [(Value.string (strN A)), (Value.string (strN C)), (vB false), (vI .i64 0), (vI .i64 0)]) (Holds.cl_cells H44_ 1 rfl 0 rfl)⟩) ?_
 have H47_ := Holds.pkF H44_ [3] 3
 exact ⟨_, _, rfl, ⟨rfl, rfl⟩, S46_, H47_⟩

theorem spOut (R : HP) (ord : Int) (vb ve : Value) (kb ke : EK) (hb : EVal ord R vb kb) (he : EVal ord R ve ke) :
    Tri Try.prog 54 #[(vA #[vb, ve])] R [] (fun v__ post__ => v__ = (vA #[(Value.string ((ekSpan kb ke).in__Begin)), (Value.string ((ekSpan kb ke).in__End)), (vB ((ekSpan kb ke).in__Point)), (vI .i64 ((ekSpan kb ke).from_)), (vI .i64 ((ekSpan kb ke).till))]) ∧ post__ = []) := by
  rcases hb with ⟨o1, s, rfl, rfl⟩ | ⟨o1, s, rfl, rfl⟩ | ⟨o1, x, A, rfl, r1, rfl⟩ | ⟨o1, i, rfl, _, rfl⟩ <;> rcases he with ⟨o2, t, rfl, rfl⟩ | ⟨o2, t, rfl, rfl⟩ | ⟨o2, y, C, rfl, r2, rfl⟩ | ⟨o2, j, rfl, _, rfl⟩ <;> first | (exfalso; omega) | skip
  · refine (spOut0 R s t).mono fun v l h => ?_
    simpa only [ekSpan, text_t, num_t] using h
  · refine (spOut1 R s t).mono fun v l h => ?_
    simpa only [ekSpan, text_t, num_t] using h
  · refine (spOut2 R x y A C r1 r2).mono fun v l h => ?_
    simpa only [ekSpan, text_strN, num_t] using h
  · exact (spOut3 R i j).mono fun v l h => h
end Go.Proofs.Ytlnihndjepjagaa
set_option linter.unusedVariables false
set_option linter.unusedSimpArgs false
namespace Go.Proofs.Ytlnihndjepjagaa
open Go Go.RowKit Gw Try
open Go.Value renaming int → vI, bool → vB, slice → vS, pointer → vP, agg → vA, tuple → vT

section
variable {K : Type} {O : KO K}
def nk (kb ke : K) (n : ND K) : Prop := ¬ (n.kb = kb ∧ n.ke = ke)
theorem nk_left {kb ke : K} {C : List (Fr K)} {n : ND K} {a b : Tr K} (hs : srt O (inl C ++ ino (.nd n a b) ++ inr C)) (hb : bef O kb ke n) (h : ∀ x ∈ inl C ++ inr C, nk kb ke x) : ∀ x ∈ inl ((⟨true, n, b⟩ : Fr K) :: C) ++ inr ((⟨true, n, b⟩ : Fr K) :: C), nk kb ke x := by
  intro x hx
  have hx' : x ∈ inl C ∨ x = n.er ∨ x ∈ ino b ∨ x ∈ inr C := by simpa [inl, inr] using hx
  have hn : ¬ bef O kb ke ({ n with kb := kb, ke := ke } : ND K) := by
    rintro (h1 | ⟨_, h1⟩)
    · have h2 : O.cm kb kb < 0 := h1; rw [O.refl] at h2; omega
    · have h2 : O.cm ke ke < 0 := h1; rw [O.refl] at h2; omega
  have self : ∀ y : ND K, bef O kb ke y → nk kb ke y := by
    rintro y hy ⟨e1, e2⟩
    subst e1; subst e2
    rcases hy with h1 | ⟨_, h1⟩
    · rw [O.refl] at h1; omega
    · rw [O.refl] at h1; omega
  rcases hx' with hx | rfl | hx | hx
  · exact h x (List.mem_append.2 (.inl hx))
  · exact self n.er hb
  · refine self x (bef_mono (x := n.er) hb ?_)
    unfold srt at hs
    rw [List.pairwise_append, List.pairwise_append] at hs
    have := hs.1.2.1
    rw [ino, List.pairwise_append, List.pairwise_cons] at this
    exact this.2.1.1 x hx
  · exact h x (List.mem_append.2 (.inr hx))
theorem nk_right {kb ke : K} {C : List (Fr K)} {n : ND K} {a b : Tr K} (hs : srt O (inl C ++ ino (.nd n a b) ++ inr C)) (hb : ¬ bef O kb ke n) (hne : nk kb ke n) (h : ∀ x ∈ inl C ++ inr C, nk kb ke x) : ∀ x ∈ inl ((⟨false, n, a⟩ : Fr K) :: C) ++ inr ((⟨false, n, a⟩ : Fr K) :: C), nk kb ke x := by
  intro x hx
  have hx' : x ∈ inl C ∨ x ∈ ino a ∨ x = n.er ∨ x ∈ inr C := by simpa [inl, inr] using hx
  rcases hx' with hx | hx | rfl | hx
  · exact h x (List.mem_append.2 (.inl hx))
  · rintro ⟨e1, e2⟩
    subst e1; subst e2
    unfold srt at hs
    rw [List.pairwise_append, List.pairwise_append] at hs
    have := hs.1.2.1
    rw [ino, List.pairwise_append] at this
    have h2 : ¬ bef O n.kb n.ke x := this.2.2 x hx n.er (by simp)
    have f1 := @O.flip n.kb x.kb
    have f2 := @O.flip n.ke x.ke
    have f3 := @O.flip x.kb n.kb
    have f4 := @O.flip x.ke n.ke
    unfold bef at hb h2
    have e1 : O.cm n.kb x.kb = 0 := by omega
    have e3 : O.cm x.kb n.kb = 0 := by rw [O.anti e1]; exact O.refl _
    have e2 : O.cm n.ke x.ke = 0 := by omega
    exact hne ⟨O.anti e1, O.anti e2⟩
  · exact hne
  · exact h x (List.mem_append.2 (.inr hx))
theorem nk_end {kb ke : K} {C : List (Fr K)} (h : ∀ x ∈ inl C ++ inr C, nk kb ke x) : ∀ x ∈ ino (plug C (.lf : Tr K)), nk kb ke x := by
  rw [ino_plug]
  intro x hx
  exact h x (by simpa [ino] using hx)
theorem nk_of {kb ke : K} {n : ND K} (h : ¬ (O.cm kb n.kb = 0 ∧ O.cm ke n.ke = 0)) : nk kb ke n := by
  rintro ⟨e1, e2⟩
  subst e1; subst e2
  exact h ⟨O.refl _, O.refl _⟩
end

set_option maxHeartbeats 16000000 in
theorem itFind0 (R : HP) (K : Type) (O : KO K) (tb sb : Nat) (cnt : Int) (sc : List Value) (W : Tr K) (it jt : TypeId) (ix jx : Value) (kb ke : K) (hW : TOk O R W) (hs : srt O (ino W)) (hb : O.Val R (Value.iface it ix) kb) (he : O.Val R (Value.iface jt jx) ke) :
    Tri Try.prog 156 #[(vQ tb), (vA #[((Value.iface it ix)), ((Value.iface jt jx))])] R [cl tb 188 [(vQ (rt sb W)), (vI .i64 cnt), (vQ sb)], tr sb sb W, clf sb 185 sc] (fun v__ post__ => (v__ = (vQ sb) ∧ post__ = [cl tb 188 [(vQ (rt sb W)), (vI .i64 cnt), (vQ sb)], tr sb sb W, clf sb 185 sc] ∧ (∀ x ∈ ino W, nk kb ke x)) ∨ (∃ (C : List (Fr K)) (n : ND K) (a b : Tr K), v__ = (vQ n.a) ∧ post__ = [cl tb 188 [(vQ (rt sb W)), (vI .i64 cnt), (vQ sb)], clf n.a 185 [n.b, n.e, n.v, n.mx, (vQ (rt sb a)), (vQ (rt sb b)), (vQ (pa sb C)), (vI .i64 n.c)], tr sb n.a a, tr sb n.a b, cx sb n.a C, clf sb 185 sc] ∧ (plug C (.nd n a b) = W) ∧ (n.kb = kb ∧ n.ke = ke))) := by
 refine Tri.into (n := 70) (al := [(vQ tb), (vA #[((Value.iface it ix)), ((Value.iface jt jx))])]) func156 rfl ntmps156 rfl rfl fun w F H => ?_
 refine cr fun _ hK1_ => ?_
 refine S_list (T_box (v := (vA #[((Value.iface it ix)), ((Value.iface jt jx))])) rfl H ?_)
 intro b2_ w3_ S5_ H4_
 have S6_ := Same.trans (Same.refl w) S5_
 refine sv (v := (vP none)) (x_assign rfl) ?_
 refine wn (hK1_ _ _ ?_)
 refine cr fun _ hK7_ => ?_
 refine sm (vQ tb) ?_
 refine sv (v := (vQ tb)) (by kernel_rfl) ?_
 refine sv (v := (vQ tb)) (by kernel_rfl) ?_
 refine sv (v := (vQ (rt sb W))) (x_load1 rfl underlying182 rfl ((Holds.rd H4_ 2 rfl) 0 (vQ (rt sb W)) rfl)) ?_
 refine sv (v := (vQ (rt sb W))) (x_assign rfl) ?_
 refine wn (hK7_ _ _ ?_)
 refine C_seq (fun _ hK8_ => ?_)
 refine C_block ?_
 have H9_ : Holds w3_ (cx sb (rt sb W) ([] : List (Fr K)) :: cl b2_ 111 [((Value.iface it ix)), ((Value.iface jt jx))] :: ro R :: cl tb 188 [(vQ (rt sb W)), (vI .i64 cnt), (vQ sb)] :: tr sb sb W :: clf sb 185 sc :: F) := Holds.cx_nil H4_
 have eH10_ : tr sb sb W = tr sb (pa sb ([] : List (Fr K))) W := by first | rfl | (congr 1 <;> first | rfl | omega | (simp; done) | (simp; omega))
 have H10_ : Holds w3_ (cx sb (rt sb W) ([] : List (Fr K)) :: cl b2_ 111 [((Value.iface it ix)), ((Value.iface jt jx))] :: ro R :: cl tb 188 [(vQ (rt sb W)), (vI .i64 cnt), (vQ sb)] :: tr sb (pa sb ([] : List (Fr K))) W :: clf sb 185 sc :: F) := cast1 (P := fun c__ => Holds w3_ (cx sb (rt sb W) ([] : List (Fr K)) :: cl b2_ 111 [((Value.iface it ix)), ((Value.iface jt jx))] :: ro R :: cl tb 188 [(vQ (rt sb W)), (vI .i64 cnt), (vQ sb)] :: c__ :: clf sb 185 sc :: F)) eH10_ H9_
 refine C_loop (γ := (List (Fr K)) × (Tr K) × Value) (fun x__ a__ w1__ => match x__ with | ⟨C1, T, t4_v⟩ => ∃ h : Env, a__ = mkA 70 (upd (upd (upd (upd h 0 (vQ tb)) 3 (vQ b2_)) 4 t4_v) 5 (vQ (rt sb T))) [] ∧ Holds w1__ (cx sb (rt sb T) C1 :: cl b2_ 111 [((Value.iface it ix)), ((Value.iface jt jx))] :: ro R :: cl tb 188 [(vQ (rt sb W)), (vI .i64 cnt), (vQ sb)] :: tr sb (pa sb C1) T :: clf sb 185 sc :: F) ∧ Same w w1__ ∧ (plug C1 T = W) ∧ (TOk O R T) ∧ (∀ x ∈ inl C1 ++ inr C1, nk kb ke x)) (fun x__ => match x__ with | ⟨C1, T, t4_v⟩ => (ino T).length) (⟨([] : List (Fr K)), W, (vP none)⟩) ⟨_, congrArg (fun e => mkA 70 e []) (ch (ch (ch (ch rfl rfl) rfl) (rfl : (vP none) = ((vP none)))) rfl), H10_, S6_, (rfl), (hW), (fun x hx => by simp [inl, inr] at hx)⟩ ?_
 rintro ⟨C1, T, t4_v⟩ _ w11_ ⟨h, rfl, H12_, S13_, hpl, hTk, hnk⟩
 refine C_seq (fun _ hK14_ => ?_)
 refine cr fun _ hK15_ => ?_
 rcases T with _ | ⟨f16_n, f16_a, f16_b⟩
 ·skip
  have H17_ := H12_
  refine sm (vQ sb) ?_
  refine sm (vQ tb) ?_
  refine sv (v := (vQ tb)) (by kernel_rfl) ?_
  refine sv (v := (vP (some ⟨tb, 2, none⟩))) (by kernel_rfl) ?_
  refine sv (v := (vQ sb)) (x_load1 rfl underlying182 rfl ((Holds.rd H17_ 3 rfl) 2 (vQ sb) rfl)) ?_
  refine sv (v := (vB false)) (x_neP rfl rfl underlying182 z185) ?_
  refine wn (hK15_ _ _ ?_)
  refine C_condF rfl ?_
  refine C_exit (X_thenX (X_thenX (X_blkHit ?_)))
  refine (X_then (hK8_ _ _ ?_))
  refine cr fun _ hK18_ => ?_
  refine sm (vQ sb) ?_
  refine sv (v := (vQ sb)) (x_assign rfl) ?_
  refine wn (hK18_ _ _ ?_)
  refine C_ret ?_
  refine R_any (v := (vQ sb)) (run_results1 rfl rfl) ?_
  have H19_ := H17_
  have H20_ := ((Holds.bring H19_ 4 rfl) :)
  have H21_ := Holds.plug_in (C := C1) (t := (Tr.lf : Tr K)) H20_
  have H22_ := H21_; rw [hpl] at H22_
  have H23_ := Holds.pkF H22_ [2, 2, 0, 1] 1
  exact ⟨_, _, rfl, (.inl ⟨rfl, rfl, (by rw [← hpl]; exact nk_end hnk)⟩), S13_, H23_⟩
 ·skip
  have H24_ := H12_
  have H25_ := ((Holds.bring H24_ 4 rfl) :)
  have H26_ := Holds.tr_nd H25_
  refine sm (vQ f16_n.a) ?_
  refine sm (vQ tb) ?_
  refine sv (v := (vQ tb)) (by kernel_rfl) ?_
  refine sv (v := (vP (some ⟨tb, 2, none⟩))) (by kernel_rfl) ?_
  refine sv (v := (vQ sb)) (x_load1 rfl underlying182 rfl ((Holds.rd H26_ 6 rfl) 2 (vQ sb) rfl)) ?_
  have hpc27_ : f16_n.a ≠ sb := Holds.ne_f H26_ 0 rfl 7 rfl (by decide)
  refine sv (v := (vB true)) (x_cast (x_nePN rfl rfl underlying182 z185 (by decide) (Holds.blk H26_ 0 rfl) (Holds.blk H26_ 7 rfl)) (congrArg vB (decide_eq_true hpc27_))) ?_
  refine wn (hK15_ _ _ ?_)
  refine C_condT rfl ?_
  refine C_skip (X_then (hK14_ _ _ ?_))
  refine C_block ?_
  refine C_seq (fun _ hK28_ => ?_)
  refine A_start (S := fun w => (Rd f16_n.a [f16_n.b, f16_n.e, f16_n.v, f16_n.mx, (vQ (rt sb f16_a)), (vQ (rt sb f16_b)), (vQ (pa sb C1)), (vI .i64 f16_n.c)] w ∧ Blk w f16_n.a) ∧ RtRd w (rt sb f16_a) (rmx f16_a) ∧ RtRd w (rt sb f16_b) (rmx f16_b) ∧ Rd b2_ [((Value.iface it ix)), ((Value.iface jt jx))] w ∧ Sub R (hp w)) (N := 12) foll rfl rfl ?_
  have H29_ := Holds.drew_ H26_
  have hq30_ := And.intro ((And.intro (Holds.rdf H29_ 0 rfl) (Holds.blk H29_ 0 rfl))) (And.intro (Holds.tr_rd H29_ 1 rfl 7 rfl) (And.intro (Holds.tr_rd H29_ 2 rfl 7 rfl) (And.intro (Holds.rd H29_ 4 rfl) ((Holds.ro_at H29_ 5 rfl)))))
  refine A_tk 0 (v := (vQ b2_)) rfl (by kernel_rfl) (fun w hS => by kernel_rfl) hq30_ ?_
  refine A_tk 1 (v := ((Value.iface it ix))) rfl (by kernel_rfl) (fun w hS => x_load1 rfl underlying109 rfl (hS.2.2.2.1 0 ((Value.iface it ix)) rfl)) hq30_ ?_
  refine A_tk 2 (v := (vQ f16_n.a)) rfl (by kernel_rfl) (fun w hS => x_move rfl) hq30_ ?_
  refine A_tk 3 (v := (vQ f16_n.a)) rfl (by kernel_rfl) (fun w hS => by kernel_rfl) hq30_ ?_
  refine A_tk 4 (v := (vQ f16_n.a)) rfl (by kernel_rfl) (fun w hS => by kernel_rfl) hq30_ ?_
  refine A_tk 5 (v := (vQ f16_n.a)) rfl (by kernel_rfl) (fun w hS => by kernel_rfl) hq30_ ?_
  refine A_tk 6 (v := (vQ f16_n.a)) rfl (by kernel_rfl) (fun w hS => by kernel_rfl) hq30_ ?_
  refine A_tk 7 (v := f16_n.b) rfl (by kernel_rfl) (fun w hS => x_load1 rfl underlying109 rfl (hS.1.1 0 f16_n.b rfl)) hq30_ ?_
  refine A_tk 8 (v := ((Value.iface it ix))) rfl (by kernel_rfl) (fun w hS => by kernel_rfl) hq30_ ?_
  refine A_tk 9 (v := ((Value.iface it ix))) rfl (by kernel_rfl) (fun w hS => x_move rfl) hq30_ ?_
  refine A_ready (i := 10) (rs := []) (by kernel_rfl) ?_
  refine AllR.cons ?_ AllR.nil
  refine A_op (ls' := #[true, true, true, true, true, true, true, true, true, true, true, false]) rfl (by kernel_rfl) (T_cmp rfl rfl (O.cmp hb (hTk.1.b)) H29_ 5 rfl ?_)
  intro w31_ S33_ H32_
  have S34_ := Same.trans (Same.trans S13_ (Same.drew _)) S33_
  refine ⟨⟨(And.intro (Holds.rdf H32_ 0 rfl) (Holds.blk H32_ 0 rfl)), Holds.tr_rd H32_ 1 rfl 7 rfl, Holds.tr_rd H32_ 2 rfl 7 rfl, Holds.rd H32_ 4 rfl, (Holds.ro_at H32_ 5 rfl)⟩, ?_⟩
  have hq35_ := And.intro ((And.intro (Holds.rdf H32_ 0 rfl) (Holds.blk H32_ 0 rfl))) (And.intro (Holds.tr_rd H32_ 1 rfl 7 rfl) (And.intro (Holds.tr_rd H32_ 2 rfl 7 rfl) (And.intro (Holds.rd H32_ 4 rfl) ((Holds.ro_at H32_ 5 rfl)))))
  refine A_tk 11 (v := (vI .i64 (O.cm kb f16_n.kb))) rfl (by kernel_rfl) (fun w hS => x_assign rfl) hq35_ ?_
  refine A_done (by kernel_rfl) ?_
  refine (X_then (hK28_ _ _ ?_))
  refine C_seq (fun _ hK36_ => ?_)
  refine A_start (S := fun w => (Rd f16_n.a [f16_n.b, f16_n.e, f16_n.v, f16_n.mx, (vQ (rt sb f16_a)), (vQ (rt sb f16_b)), (vQ (pa sb C1)), (vI .i64 f16_n.c)] w ∧ Blk w f16_n.a) ∧ RtRd w (rt sb f16_a) (rmx f16_a) ∧ RtRd w (rt sb f16_b) (rmx f16_b) ∧ Rd b2_ [((Value.iface it ix)), ((Value.iface jt jx))] w ∧ Sub R (hp w)) (N := 12) foll rfl rfl ?_
  have H37_ := Holds.drew_ H32_
  have hq38_ := And.intro ((And.intro (Holds.rdf H37_ 0 rfl) (Holds.blk H37_ 0 rfl))) (And.intro (Holds.tr_rd H37_ 1 rfl 7 rfl) (And.intro (Holds.tr_rd H37_ 2 rfl 7 rfl) (And.intro (Holds.rd H37_ 4 rfl) ((Holds.ro_at H37_ 5 rfl)))))
  refine A_tk 0 (v := (vP (some ⟨b2_, 1, none⟩))) rfl (by kernel_rfl) (fun w hS => by kernel_rfl) hq38_ ?_
  refine A_tk 1 (v := ((Value.iface jt jx))) rfl (by kernel_rfl) (fun w hS => x_load1 rfl underlying109 rfl (hS.2.2.2.1 1 ((Value.iface jt jx)) rfl)) hq38_ ?_
  refine A_tk 2 (v := (vQ f16_n.a)) rfl (by kernel_rfl) (fun w hS => x_move rfl) hq38_ ?_
  refine A_tk 3 (v := (vQ f16_n.a)) rfl (by kernel_rfl) (fun w hS => by kernel_rfl) hq38_ ?_
  refine A_tk 4 (v := (vQ f16_n.a)) rfl (by kernel_rfl) (fun w hS => by kernel_rfl) hq38_ ?_
  refine A_tk 5 (v := (vQ f16_n.a)) rfl (by kernel_rfl) (fun w hS => by kernel_rfl) hq38_ ?_
  refine A_tk 6 (v := (vP (some ⟨f16_n.a, 1, none⟩))) rfl (by kernel_rfl) (fun w hS => by kernel_rfl) hq38_ ?_
  refine A_tk 7 (v := f16_n.e) rfl (by kernel_rfl) (fun w hS => x_load1 rfl underlying109 rfl (hS.1.1 1 f16_n.e rfl)) hq38_ ?_
  refine A_tk 8 (v := ((Value.iface jt jx))) rfl (by kernel_rfl) (fun w hS => by kernel_rfl) hq38_ ?_
  refine A_tk 9 (v := ((Value.iface jt jx))) rfl (by kernel_rfl) (fun w hS => x_move rfl) hq38_ ?_
  refine A_ready (i := 10) (rs := []) (by kernel_rfl) ?_
  refine AllR.cons ?_ AllR.nil
  refine A_op (ls' := #[true, true, true, true, true, true, true, true, true, true, true, false]) rfl (by kernel_rfl) (T_cmp rfl rfl (O.cmp he (hTk.1.e)) H37_ 5 rfl ?_)
  intro w39_ S41_ H40_
  have S42_ := Same.trans (Same.trans S34_ (Same.drew _)) S41_
  refine ⟨⟨(And.intro (Holds.rdf H40_ 0 rfl) (Holds.blk H40_ 0 rfl)), Holds.tr_rd H40_ 1 rfl 7 rfl, Holds.tr_rd H40_ 2 rfl 7 rfl, Holds.rd H40_ 4 rfl, (Holds.ro_at H40_ 5 rfl)⟩, ?_⟩
  have hq43_ := And.intro ((And.intro (Holds.rdf H40_ 0 rfl) (Holds.blk H40_ 0 rfl))) (And.intro (Holds.tr_rd H40_ 1 rfl 7 rfl) (And.intro (Holds.tr_rd H40_ 2 rfl 7 rfl) (And.intro (Holds.rd H40_ 4 rfl) ((Holds.ro_at H40_ 5 rfl)))))
  refine A_tk 11 (v := (vI .i64 (O.cm ke f16_n.ke))) rfl (by kernel_rfl) (fun w hS => x_assign rfl) hq43_ ?_
  refine A_done (by kernel_rfl) ?_
  refine (X_then (hK36_ _ _ ?_))
  refine C_seq (fun _ hK44_ => ?_)
  refine cr fun _ hK45_ => ?_
  refine sm (vI .i64 (O.cm kb f16_n.kb)) ?_
  refine sv (v := (vB (decide (O.cm kb f16_n.kb = 0)))) (x_bin rfl rfl rfl) ?_
  refine sm (vB (decide (O.cm kb f16_n.kb = 0))) ?_
  rcases Bool.eq_false_or_eq_true (decide (O.cm kb f16_n.kb = 0)) with c46_t | c46_f
  ·have c46_tp : O.cm kb f16_n.kb = 0 := of_decide_eq_true c46_t
   refine S_yes (j := 2) (dj := 42) (b := true) rfl rfl (congrArg vB c46_t) (T_val (v := (vI .i64 (O.cm ke f16_n.ke))) (x_move rfl) ?_)
   refine S_yes (j := 2) (dj := 42) (b := true) rfl rfl (congrArg vB c46_t) (T_val (v := (vB (decide (O.cm ke f16_n.ke = 0)))) (x_bin rfl rfl rfl) ?_)
   refine S_list (T_pickT (v := (vB (decide (O.cm ke f16_n.ke = 0)))) (congrArg vB c46_t) rfl ?_)
   refine wn (hK45_ _ _ ?_)
   refine C_cond (b := decide (O.cm ke f16_n.ke = 0)) rfl (fun c47_t => ?_) (fun c47_f => ?_)
   ·have c47_tp : O.cm ke f16_n.ke = 0 := of_decide_eq_true c47_t
    refine cr fun _ hK48_ => ?_
    refine sm (vQ f16_n.a) ?_
    refine sv (v := (vQ f16_n.a)) (x_assign rfl) ?_
    refine wn (hK48_ _ _ ?_)
    refine C_ret (X_thenR (X_blkR (X_thenR (X_blkR (X_thenR ?_)))))
    refine R_any (v := (vQ f16_n.a)) (run_results1 rfl rfl) ?_
    have H49_ := Holds.pkF H40_ [5, 5, 0, 0, 0, 0, 1] 1
    exact ⟨_, _, rfl, (.inr ⟨C1, f16_n, f16_a, f16_b, rfl, rfl, (hpl), (⟨(O.anti (by omega)).symm, (O.anti (by omega)).symm⟩)⟩), S42_, H49_⟩
   ·have c47_fp : ¬ (O.cm ke f16_n.ke = 0) := of_decide_eq_false c47_f
    refine C_skip (X_then (hK44_ _ _ ?_))
    refine cr fun _ hK50_ => ?_
    refine sm (vI .i64 (O.cm kb f16_n.kb)) ?_
    refine sv (v := (vB (decide (O.cm kb f16_n.kb < 0)))) (x_bin rfl rfl rfl) ?_
    refine wn (hK50_ _ _ ?_)
    refine C_cond (b := decide (O.cm kb f16_n.kb < 0)) rfl (fun c51_t => ?_) (fun c51_f => ?_)
    ·have c51_tp : O.cm kb f16_n.kb < 0 := of_decide_eq_true c51_t
     refine C_reg ?_
     refine sm (vQ f16_n.a) ?_
     refine sv (v := (vQ f16_n.a)) (by kernel_rfl) ?_
     refine sv (v := (vP (some ⟨f16_n.a, 4, none⟩))) (by kernel_rfl) ?_
     refine sv (v := (vQ (rt sb f16_a))) (x_load1 rfl underlying182 rfl ((Holds.rdf H40_ 0 rfl) 4 (vQ (rt sb f16_a)) rfl)) ?_
     refine sv (v := (vQ (rt sb f16_a))) (x_assign rfl) ?_
     refine wpList_nil (X_blkN (X_then ?_))
     have H52_ := ((Holds.bring (Holds.bring (Holds.bring H40_ 3 rfl) 3 rfl) 2 rfl) :)
     have H53_ := Holds.cons_cx (sb := sb) (f := (⟨true, f16_n, f16_b⟩ : Fr K)) (C := C1) (x := (rt sb f16_a)) H52_
     have H54_ := H53_
     have H55_ := Holds.pkF H54_ [0, 1, 1, 1, 0, 0] 0
     exact ⟨⟨((⟨true, f16_n, f16_b⟩ : Fr K) :: C1), f16_a, t4_v⟩, ⟨_, congrArg (fun e => mkA 70 e []) (ch (ch (ch (ch rfl rfl) rfl) rfl) rfl), H55_, S42_, (hpl), (hTk.2.1), (nk_left (O := O) (a := f16_a) (by have := hs; rw [← hpl, ino_plug] at this; exact this) (by unfold bef; omega) hnk)⟩, (by first | (simp [ino]; done) | (simp [ino]; omega))⟩
    ·have c51_fp : ¬ (O.cm kb f16_n.kb < 0) := of_decide_eq_false c51_f
     refine cr fun _ hK56_ => ?_
     refine sm (vI .i64 (O.cm kb f16_n.kb)) ?_
     refine sv (v := (vB (decide (O.cm kb f16_n.kb = 0)))) (x_bin rfl rfl rfl) ?_
     refine wn (hK56_ _ _ ?_)
     refine C_condT (congrArg vB c46_t) ?_
     refine cr fun _ hK57_ => ?_
     refine sm (vI .i64 (O.cm ke f16_n.ke)) ?_
     refine sv (v := (vB (decide (O.cm ke f16_n.ke < 0)))) (x_bin rfl rfl rfl) ?_
     refine wn (hK57_ _ _ ?_)
     refine C_cond (b := decide (O.cm ke f16_n.ke < 0)) rfl (fun c58_t => ?_) (fun c58_f => ?_)
     ·have c58_tp : O.cm ke f16_n.ke < 0 := of_decide_eq_true c58_t
      refine C_reg ?_
      refine sm (vQ f16_n.a) ?_
      refine sv (v := (vQ f16_n.a)) (by kernel_rfl) ?_
      refine sv (v := (vP (some ⟨f16_n.a, 4, none⟩))) (by kernel_rfl) ?_
      refine sv (v := (vQ (rt sb f16_a))) (x_load1 rfl underlying182 rfl ((Holds.rdf H40_ 0 rfl) 4 (vQ (rt sb f16_a)) rfl)) ?_
      refine sv (v := (vQ (rt sb f16_a))) (x_assign rfl) ?_
      refine wpList_nil (X_blkN (X_then ?_))
      have H59_ := ((Holds.bring (Holds.bring (Holds.bring H40_ 3 rfl) 3 rfl) 2 rfl) :)
      have H60_ := Holds.cons_cx (sb := sb) (f := (⟨true, f16_n, f16_b⟩ : Fr K)) (C := C1) (x := (rt sb f16_a)) H59_
      have H61_ := H60_
      have H62_ := Holds.pkF H61_ [0, 1, 1, 1, 0, 0] 0
      exact ⟨⟨((⟨true, f16_n, f16_b⟩ : Fr K) :: C1), f16_a, t4_v⟩, ⟨_, congrArg (fun e => mkA 70 e []) (ch (ch (ch (ch rfl rfl) rfl) rfl) rfl), H62_, S42_, (hpl), (hTk.2.1), (nk_left (O := O) (a := f16_a) (by have := hs; rw [← hpl, ino_plug] at this; exact this) (by unfold bef; omega) hnk)⟩, (by first | (simp [ino]; done) | (simp [ino]; omega))⟩
     ·have c58_fp : ¬ (O.cm ke f16_n.ke < 0) := of_decide_eq_false c58_f
      refine C_reg ?_
      refine sm (vQ f16_n.a) ?_
      refine sv (v := (vQ f16_n.a)) (by kernel_rfl) ?_
      refine sv (v := (vP (some ⟨f16_n.a, 5, none⟩))) (by kernel_rfl) ?_
      refine sv (v := (vQ (rt sb f16_b))) (x_load1 rfl underlying182 rfl ((Holds.rdf H40_ 0 rfl) 5 (vQ (rt sb f16_b)) rfl)) ?_
      refine sv (v := (vQ (rt sb f16_b))) (x_assign rfl) ?_
      refine wpList_nil (X_blkN (X_then ?_))
      have H63_ := ((Holds.bring (Holds.bring (Holds.bring H40_ 3 rfl) 2 rfl) 2 rfl) :)
      have H64_ := Holds.cons_cx (sb := sb) (f := (⟨false, f16_n, f16_a⟩ : Fr K)) (C := C1) (x := (rt sb f16_b)) H63_
      have H65_ := H64_
      have H66_ := Holds.pkF H65_ [0, 1, 1, 1, 0, 0] 0
      exact ⟨⟨((⟨false, f16_n, f16_a⟩ : Fr K) :: C1), f16_b, t4_v⟩, ⟨_, congrArg (fun e => mkA 70 e []) (ch (ch (ch (ch rfl rfl) rfl) rfl) rfl), H66_, S42_, (hpl), (hTk.2.2), (nk_right (O := O) (b := f16_b) (by have := hs; rw [← hpl, ino_plug] at this; exact this) (by unfold bef; omega) (nk_of (O := O) (by omega)) hnk)⟩, (by first | (simp [ino]; done) | (simp [ino]; omega))⟩
  ·have c46_fp : ¬ (O.cm kb f16_n.kb = 0) := of_decide_eq_false c46_f
   refine S_no (j := 2) (dj := 42) (b := false) rfl rfl (congrArg vB c46_f) (by decide) ?_
   refine S_no (j := 2) (dj := 42) (b := false) rfl rfl (congrArg vB c46_f) (by decide) ?_
   refine S_list (T_pickF (v := (vB false)) (congrArg vB c46_f) rfl ?_)
   refine wn (hK45_ _ _ ?_)
   refine C_condF rfl ?_
   refine C_skip (X_then (hK44_ _ _ ?_))
   refine cr fun _ hK67_ => ?_
   refine sm (vI .i64 (O.cm kb f16_n.kb)) ?_
   refine sv (v := (vB (decide (O.cm kb f16_n.kb < 0)))) (x_bin rfl rfl rfl) ?_
   refine wn (hK67_ _ _ ?_)
   refine C_cond (b := decide (O.cm kb f16_n.kb < 0)) rfl (fun c68_t => ?_) (fun c68_f => ?_)
   ·have c68_tp : O.cm kb f16_n.kb < 0 := of_decide_eq_true c68_t
    refine C_reg ?_
    refine sm (vQ f16_n.a) ?_
    refine sv (v := (vQ f16_n.a)) (by kernel_rfl) ?_
    refine sv (v := (vP (some ⟨f16_n.a, 4, none⟩))) (by kernel_rfl) ?_
    refine sv (v := (vQ (rt sb f16_a))) (x_load1 rfl underlying182 rfl ((Holds.rdf H40_ 0 rfl) 4 (vQ (rt sb f16_a)) rfl)) ?_
    refine sv (v := (vQ (rt sb f16_a))) (x_assign rfl) ?_
    refine wpList_nil (X_blkN (X_then ?_))
    have H69_ := ((Holds.bring (Holds.bring (Holds.bring H40_ 3 rfl) 3 rfl) 2 rfl) :)
    have H70_ := Holds.cons_cx (sb := sb) (f := (⟨true, f16_n, f16_b⟩ : Fr K)) (C := C1) (x := (rt sb f16_a)) H69_
    have H71_ := H70_
    have H72_ := Holds.pkF H71_ [0, 1, 1, 1, 0, 0] 0
    exact ⟨⟨((⟨true, f16_n, f16_b⟩ : Fr K) :: C1), f16_a, t4_v⟩, ⟨_, congrArg (fun e => mkA 70 e []) (ch (ch (ch (ch rfl rfl) rfl) rfl) rfl), H72_, S42_, (hpl), (hTk.2.1), (nk_left (O := O) (a := f16_a) (by have := hs; rw [← hpl, ino_plug] at this; exact this) (by unfold bef; omega) hnk)⟩, (by first | (simp [ino]; done) | (simp [ino]; omega))⟩
   ·have c68_fp : ¬ (O.cm kb f16_n.kb < 0) := of_decide_eq_false c68_f
    refine cr fun _ hK73_ => ?_
    refine sm (vI .i64 (O.cm kb f16_n.kb)) ?_
    refine sv (v := (vB (decide (O.cm kb f16_n.kb = 0)))) (x_bin rfl rfl rfl) ?_
    refine wn (hK73_ _ _ ?_)
    refine C_condF (congrArg vB c46_f) ?_
    refine C_reg ?_
    refine sm (vQ f16_n.a) ?_
    refine sv (v := (vQ f16_n.a)) (by kernel_rfl) ?_
    refine sv (v := (vP (some ⟨f16_n.a, 5, none⟩))) (by kernel_rfl) ?_
    refine sv (v := (vQ (rt sb f16_b))) (x_load1 rfl underlying182 rfl ((Holds.rdf H40_ 0 rfl) 5 (vQ (rt sb f16_b)) rfl)) ?_
    refine sv (v := (vQ (rt sb f16_b))) (x_assign rfl) ?_
    refine wpList_nil (X_blkN (X_then ?_))
    have H74_ := ((Holds.bring (Holds.bring (Holds.bring H40_ 3 rfl) 2 rfl) 2 rfl) :)
    have H75_ := Holds.cons_cx (sb := sb) (f := (⟨false, f16_n, f16_a⟩ : Fr K)) (C := C1) (x := (rt sb f16_b)) H74_
    have H76_ := H75_
    have H77_ := Holds.pkF H76_ [0, 1, 1, 1, 0, 0] 0
    exact ⟨⟨((⟨false, f16_n, f16_a⟩ : Fr K) :: C1), f16_b, t4_v⟩, ⟨_, congrArg (fun e => mkA 70 e []) (ch (ch (ch (ch rfl rfl) rfl) rfl) rfl), H77_, S42_, (hpl), (hTk.2.2), (nk_right (O := O) (b := f16_b) (by have := hs; rw [← hpl, ino_plug] at this; exact this) (by unfold bef; omega) (nk_of (O := O) (by omega)) hnk)⟩, (by first | (simp [ino]; done) | (simp [ino]; omega))⟩

set_option maxHeartbeats 8000000 in
theorem itFind (R : HP) (K : Type) (O : KO K) (tb sb : Nat) (cnt : Int) (sc : List Value) (W : Tr K) (it jt : TypeId) (ix jx : Value) (kb ke : K) (hW : TOk O R W) (hs : srt O (ino W)) (hb : O.Val R (Value.iface it ix) kb) (he : O.Val R (Value.iface jt jx) ke) :
    Tri Try.prog 145 #[(vQ tb), (vA #[((Value.iface it ix)), ((Value.iface jt jx))])] R [cl tb 188 [(vQ (rt sb W)), (vI .i64 cnt), (vQ sb)], tr sb sb W, clf sb 185 sc] (fun v__ post__ => (v__ = (vP none) ∧ post__ = [cl tb 188 [(vQ (rt sb W)), (vI .i64 cnt), (vQ sb)], tr sb sb W, clf sb 185 sc] ∧ (∀ x ∈ ino W, nk kb ke x)) ∨ (∃ (C : List (Fr K)) (n : ND K) (a b : Tr K), v__ = (vQ n.a) ∧ post__ = [cl tb 188 [(vQ (rt sb W)), (vI .i64 cnt), (vQ sb)], clf n.a 185 [n.b, n.e, n.v, n.mx, (vQ (rt sb a)), (vQ (rt sb b)), (vQ (pa sb C)), (vI .i64 n.c)], tr sb n.a a, tr sb n.a b, cx sb n.a C, clf sb 185 sc] ∧ (plug C (.nd n a b) = W) ∧ (n.kb = kb ∧ n.ke = ke))) := by
 refine Tri.into (n := 18) (al := [(vQ tb), (vA #[((Value.iface it ix)), ((Value.iface jt jx))])]) func145 rfl ntmps145 rfl rfl fun w F H => ?_
 refine cr fun _ hK1_ => ?_
 refine S_list (T_box (v := (vA #[((Value.iface it ix)), ((Value.iface jt jx))])) rfl H ?_)
 intro b2_ w3_ S5_ H4_
 have S6_ := Same.trans (Same.refl w) S5_
 refine sv (v := (vP none)) (x_assign rfl) ?_
 refine wn (hK1_ _ _ ?_)
 refine cr fun _ hK7_ => ?_
 refine sm (vQ tb) ?_
 refine sv (v := (vA #[((Value.iface it ix)), ((Value.iface jt jx))])) (x_loadN (vs := [((Value.iface it ix)), ((Value.iface jt jx))]) rfl underlying111 rfl z111 rfl (Rd.cells (Holds.rd H4_ 0 rfl) 0 rfl)) ?_
 have H16_ := ((Holds.bring (Holds.bring (Holds.bring (Holds.bring H4_ 4 rfl) 4 rfl) 4 rfl) 4 rfl) :)
 refine S_list (T_call (al := [(vQ tb), (vA #[((Value.iface it ix)), ((Value.iface jt jx))])]) (pre := [cl tb 188 [(vQ (rt sb W)), (vI .i64 cnt), (vQ sb)], tr sb sb W, clf sb 185 sc]) rfl rfl cb156 (itFind0 R K O tb sb cnt sc W it jt ix jx kb ke (hW) (hs) (hb) (he)) H16_ ?_)
 rintro v8_ p20_ w17_ hq21_ S19_ H18_
 rcases hq21_ with ⟨rfl, rfl, he9_⟩ | ⟨C10_, n11_, a12_, b13_, rfl, rfl, he14_, he15_⟩
 ·skip
  have S22_ := Same.trans S6_ S19_
  refine sv (v := (vQ sb)) (x_assign rfl) ?_
  refine wn (hK7_ _ _ ?_)
  refine C_seq (fun _ hK24_ => ?_)
  refine cr fun _ hK25_ => ?_
  refine sm (vQ sb) ?_
  refine sm (vQ tb) ?_
  refine sv (v := (vQ tb)) (by kernel_rfl) ?_
  refine sv (v := (vP (some ⟨tb, 2, none⟩))) (by kernel_rfl) ?_
  refine sv (v := (vQ sb)) (x_load1 rfl underlying182 rfl ((Holds.rd H18_ 1 rfl) 2 (vQ sb) rfl)) ?_
  refine sv (v := (vB true)) (x_eqP rfl rfl underlying182 z185) ?_
  refine wn (hK25_ _ _ ?_)
  refine C_condT rfl ?_
  refine cr fun _ hK26_ => ?_
  refine sv (v := (vP none)) (x_assign rfl) ?_
  refine wn (hK26_ _ _ ?_)
  refine C_ret (X_thenR ?_)
  refine R_any (v := (vP none)) (run_results1 rfl rfl) ?_
  have H27_ := Holds.pkF H18_ [0, 0, 0, 0] 1
  exact ⟨_, _, rfl, (.inl ⟨rfl, rfl, (by first | assumption | omega | exact rfl)⟩), S22_, H27_⟩
 ·skip
  have S23_ := Same.trans S6_ S19_
  refine sv (v := (vQ n11_.a)) (x_assign rfl) ?_
  refine wn (hK7_ _ _ ?_)
  refine C_seq (fun _ hK28_ => ?_)
  refine cr fun _ hK29_ => ?_
  refine sm (vQ n11_.a) ?_
  refine sm (vQ tb) ?_
  refine sv (v := (vQ tb)) (by kernel_rfl) ?_
  refine sv (v := (vP (some ⟨tb, 2, none⟩))) (by kernel_rfl) ?_
  refine sv (v := (vQ sb)) (x_load1 rfl underlying182 rfl ((Holds.rd H18_ 1 rfl) 2 (vQ sb) rfl)) ?_
  have hpc30_ : n11_.a ≠ sb := Holds.ne_f H18_ 2 rfl 6 rfl (by decide)
  refine sv (v := (vB false)) (x_cast (x_eqPN rfl rfl underlying182 z185 (by decide) (Holds.blk H18_ 2 rfl) (Holds.blk H18_ 6 rfl)) (congrArg vB (decide_eq_false hpc30_))) ?_
  refine wn (hK29_ _ _ ?_)
  refine C_condF rfl ?_
  refine C_skip (X_then (hK28_ _ _ ?_))
  refine cr fun _ hK31_ => ?_
  refine sm (vQ n11_.a) ?_
  refine sv (v := (vQ n11_.a)) (by kernel_rfl) ?_
  refine sv (v := (vQ n11_.a)) (by kernel_rfl) ?_
  refine sv (v := (vQ n11_.a)) (x_assign rfl) ?_
  refine wn (hK31_ _ _ ?_)
  refine C_ret ?_
  refine R_any (v := (vQ n11_.a)) (run_results1 rfl rfl) ?_
  have H32_ := Holds.pkF H18_ [0, 0, 0, 0, 0, 0, 0] 1
  exact ⟨_, _, rfl, (.inr ⟨C10_, n11_, a12_, b13_, rfl, rfl, (by first | assumption | omega | exact rfl), (by first | assumption | omega | exact rfl)⟩), S23_, H32_⟩
end Go.Proofs.Ytlnihndjepjagaa
set_option linter.unusedVariables false
set_option linter.unusedSimpArgs false
namespace Go.Proofs.Ytlnihndjepjagaa
open Go Go.RowKit Gw Try
open Go.Value renaming int → vI, bool → vB, slice → vS, pointer → vP, agg → vA, tuple → vT

/-! ### A tree of intervals of an order, as a list -/
structure IE where
  lo : EK
  hi : EK
  val : Int
def ahK (ord : Int) (z x : IE) : Bool := decide (ecm ord z.lo x.lo < 0) || (decide (ecm ord z.lo x.lo = 0) && decide (ecm ord z.hi x.hi < 0))
def insK (ord : Int) (z : IE) : List IE → List IE
  | [] => [z]
  | x :: M => if ahK ord z x = true then z :: x :: M else x :: insK ord z M
theorem insK_split {ord : Int} {z : IE} : ∀ {M1 M2 : List IE}, (∀ x ∈ M1, ahK ord z x = false) → (∀ y ∈ M2, ahK ord z y = true) → insK ord z (M1 ++ M2) = M1 ++ z :: M2
  | [], [], _, _ => rfl
  | [], y :: M2, _, h => by
    rw [List.nil_append, insK, if_pos (h y (by simp))]; rfl
  | x :: M1, M2, h1, h2 => by
    rw [List.cons_append, insK, if_neg (by rw [h1 x (by simp)]; decide), insK_split (fun y hy => h1 y (by simp [hy])) h2]; rfl
def nk3 (n : ND EK) : EK × EK × Value := (n.kb, n.ke, n.v)
def iek (e : IE) : EK × EK × Value := (e.lo, e.hi, .iface 3 (.int .i64 e.val))
structure TS (ord : Int) (R : HP) (W : Tr EK) (M : List IE) : Prop where
  ok : TOk (EO ord) R W ∧ LocT (EO ord) W ∧ blackT W
  s : srt (EO ord) (ino W)
  m : (ino W).map nk3 = M.map iek
theorem TS.mono {ord : Int} {R R' : HP} (s : Sub R R') {W : Tr EK} {M : List IE} (h : TS ord R W M) : TS ord R' W M := ⟨⟨h.ok.1.mono s, h.ok.2⟩, h.s, h.m⟩
theorem TS.nil {ord : Int} {R : HP} : TS ord R (Tr.lf : Tr EK) [] := ⟨⟨trivial, trivial, trivial⟩, List.Pairwise.nil, rfl⟩
theorem bef_ahK {ord : Int} {kb ke : EK} {v : Int} {x : ND EK} {e : IE} (h : nk3 x = iek e) : bef (EO ord) kb ke x ↔ ahK ord ⟨kb, ke, v⟩ e = true := by
  have h1 : x.kb = e.lo := congrArg Prod.fst h
  have h2 : x.ke = e.hi := congrArg (fun p => p.2.1) h
  unfold bef ahK
  rw [h1, h2, Bool.or_eq_true, Bool.and_eq_true, decide_eq_true_eq, decide_eq_true_eq, decide_eq_true_eq]
  exact Iff.rfl
theorem map_mem {α β γ : Type} {f : α → γ} {g : β → γ} : ∀ {L : List α} {M : List β}, L.map f = M.map g → ∀ y ∈ M, ∃ x ∈ L, f x = g y
  | L, M, h, y, hy => by
    have : g y ∈ L.map f := by rw [h]; exact List.mem_map.2 ⟨y, hy, rfl⟩
    obtain ⟨x, hx, e⟩ := List.mem_map.1 this
    exact ⟨x, hx, e⟩
theorem TS.ins {ord : Int} {R : HP} {W W' : Tr EK} {M : List IE} {L1 L2 : List (ND EK)} {z : ND EK} {b e : Value} {kb ke : EK} {v : Int} (h : TS ord R W M) (h1 : TOk (EO ord) R W' ∧ LocT (EO ord) W' ∧ blackT W') (h2 : ino W' = L1 ++ z.er :: L2) (h3 : ino W = L1 ++ L2)
    (h4 : z.b = b ∧ z.e = e ∧ z.v = .iface 3 (.int .i64 v) ∧ z.kb = kb ∧ z.ke = ke) (h5 : srt (EO ord) (ino W')) (h6 : ∀ x ∈ L1, ¬ bef (EO ord) kb ke x) (h7 : ∀ y ∈ L2, bef (EO ord) kb ke y) : TS ord R W' (insK ord ⟨kb, ke, v⟩ M) := by
  refine ⟨h1, h5, ?_⟩
  have hm := h.m
  rw [h3, List.map_append] at hm
  obtain ⟨M1, M2, rfl, e1, e2⟩ := List.map_eq_append_iff.1 hm.symm
  rw [insK_split (z := ⟨kb, ke, v⟩) (fun x hx => ?_) (fun y hy => ?_), h2, List.map_append, List.map_cons, List.map_append, List.map_cons, e1, e2]
  · obtain ⟨-, -, h4, rfl, rfl⟩ := h4
    have : nk3 z.er = iek ⟨z.kb, z.ke, v⟩ := by
      show (z.kb, z.ke, z.v) = _
      rw [h4]; rfl
    rw [this]
  · obtain ⟨n, hn, he⟩ := map_mem e1.symm x hx
    have := h6 n hn
    rw [bef_ahK (v := v) he] at this
    simpa using this
  · obtain ⟨n, hn, he⟩ := map_mem e2.symm y hy
    exact (bef_ahK he).1 (h7 n hn)
theorem TS.len {ord : Int} {R : HP} {W : Tr EK} {M : List IE} (h : TS ord R W M) : (ino W).length = M.length := by
  have := congrArg List.length h.m
  simpa using this
theorem TS.miss {ord : Int} {R : HP} {W : Tr EK} {M : List IE} {kb ke : EK} (h : TS ord R W M) (hn : ∀ x ∈ ino W, nk kb ke x) : ∀ e ∈ M, ¬ (e.lo = kb ∧ e.hi = ke) := by
  intro e he hk
  obtain ⟨n, hn1, h1⟩ := map_mem h.m e he
  exact hn n hn1 ⟨(congrArg Prod.fst h1).trans hk.1, (congrArg (fun p => p.2.1) h1).trans hk.2⟩
theorem TS.hit {ord : Int} {R : HP} {C : List (Fr EK)} {n : ND EK} {a b : Tr EK} {M : List IE} (h : TS ord R (plug C (.nd n a b)) M) : ∃ e ∈ M, e.lo = n.kb ∧ e.hi = n.ke ∧ n.v = .iface 3 (.int .i64 e.val) := by
  have hm : n.er ∈ ino (plug C (.nd n a b)) := by rw [ino_plug]; simp [ino]
  have : nk3 n.er ∈ M.map iek := by rw [← h.m]; exact List.mem_map.2 ⟨_, hm, rfl⟩
  obtain ⟨e, he, h1⟩ := List.mem_map.1 this
  exact ⟨e, he, congrArg Prod.fst h1, congrArg (fun p => p.2.1) h1, (congrArg (fun p => p.2.2) h1).symm⟩
def VInt (n : ND EK) : Prop := ∃ v : Int, n.v = .iface 3 (.int .i64 v)
theorem TS.vint {ord : Int} {R : HP} {W : Tr EK} {M : List IE} (h : TS ord R W M) : TAll VInt W := TAll.of (fun _ h => h) fun n hn => by
  have : nk3 n ∈ M.map iek := by rw [← h.m]; exact List.mem_map.2 ⟨_, hn, rfl⟩
  obtain ⟨e, _, h1⟩ := List.mem_map.1 this
  exact ⟨e.val, (congrArg (fun p => p.2.2) h1).symm⟩
def vOf (n : ND EK) : Int := match n.v with | .iface _ (.int _ v) => v | _ => 0
def eOf (n : ND EK) : IE := ⟨n.kb, n.ke, vOf n⟩
theorem eOf_of {n : ND EK} {e : IE} (h : nk3 n = iek e) : eOf n = e := by
  have h1 : n.kb = e.lo := congrArg Prod.fst h
  have h2 : n.ke = e.hi := congrArg (fun p => p.2.1) h
  have h3 : n.v = .iface 3 (.int .i64 e.val) := congrArg (fun p => p.2.2) h
  unfold eOf vOf
  rw [h1, h2, h3]
def meetK (ord : Int) (b e : EK) (x : IE) : Bool := decide (ecm ord x.lo e < 0) && decide (ecm ord b x.hi < 0)
theorem meets_filter {ord : Int} {b e : EK} : ∀ {L : List (ND EK)} {M : List IE}, L.map nk3 = M.map iek → (L.filter (meets (EO ord) b e)).map eOf = M.filter (meetK ord b e)
  | [], [], _ => rfl
  | [], _ :: _, h => by cases h
  | _ :: _, [], h => by cases h
  | n :: L, x :: M, h => by
    rw [List.map_cons, List.map_cons] at h
    have h1 := (List.cons.inj h).1
    have ih := meets_filter (ord := ord) (b := b) (e := e) (List.cons.inj h).2
    have k1 : n.kb = x.lo := congrArg Prod.fst h1
    have k2 : n.ke = x.hi := congrArg (fun p => p.2.1) h1
    have hm : meets (EO ord) b e n = meetK ord b e x := by
      unfold meets meetK
      rw [k1, k2]
      show decide (ecm ord x.lo e < 0 ∧ ecm ord b x.hi < 0) = _
      rw [Bool.decide_and]
    rw [List.filter_cons, List.filter_cons, hm]
    split
    · rw [List.map_cons, eOf_of h1, ih]
    · exact ih
def PrpK (ord : Int) (M : List IE) : Prop := ∀ e ∈ M, ecm ord e.lo e.hi < 0
theorem TS.prp {ord : Int} {R : HP} {W : Tr EK} {M : List IE} (h : TS ord R W M) (hp : PrpK ord M) : Prp (EO ord) (ino W) := fun n hn => by
  have : nk3 n ∈ M.map iek := by rw [← h.m]; exact List.mem_map.2 ⟨_, hn, rfl⟩
  obtain ⟨e, he, h1⟩ := List.mem_map.1 this
  have k1 : e.lo = n.kb := congrArg Prod.fst h1
  have k2 : e.hi = n.ke := congrArg (fun p => p.2.1) h1
  have := hp e he
  rw [k1, k2] at this
  exact this
/-! ### States that are told up to something -/
end Go.Proofs.Ytlnihndjepjagaa
set_option linter.unusedVariables false
set_option linter.unusedSimpArgs false
namespace Go.Proofs.Ytlnihndjepjagaa
open Go Go.RowKit Gw Try
open Go.Value renaming int → vI, bool → vB, slice → vS, pointer → vP, agg → vA, tuple → vT

set_option maxHeartbeats 8000000 in
theorem tdNote (R : HP) (ord : Int) (t7 : Nat) (n : ND EK) (l r p : Nat) (okb : Bool) (i1 i2 val : Int) (lv vv : Value) (L : List SN) (V : List Int) (hn : NOk (EO ord) R n) (hll : L.length ≤ 100000000000 ∧ V.length ≤ 100000000000) :
    Tri Try.prog 86 #[(vQ n.a), (vQ t7)] R [clf n.a 185 [n.b, n.e, (Value.iface 3 (vI .i64 val)), n.mx, (vQ l), (vQ r), (vQ p), (vI .i64 n.c)], cl t7 59 [(vB okb), (vI .i64 i1), (vI .i64 i2), lv, vv], sl 44 5 lv (List.length L) (L.flatMap SN.cells), sl 3 1 vv (List.length V) (V.map (vI .i64))] (fun v__ post__ => ∃ (lv2 vv2 : Value), v__ = (vT #[]) ∧ post__ = [clf n.a 185 [n.b, n.e, (Value.iface 3 (vI .i64 val)), n.mx, (vQ l), (vQ r), (vQ p), (vI .i64 n.c)], cl t7 59 [(vB okb), (vI .i64 i1), (vI .i64 i2), lv2, vv2], sl 44 5 lv2 (List.length (L ++ [ekSpan n.kb n.ke])) ((L ++ [ekSpan n.kb n.ke]).flatMap SN.cells), sl 3 1 vv2 (List.length (V ++ [val])) ((V ++ [val]).map (vI .i64))]) := by
 refine Tri.into (n := 23) (al := [(vQ n.a), (vQ t7)]) func86 rfl ntmps86 rfl rfl fun w F H => ?_
 refine C_seq (fun _ hK1_ => ?_)
 refine A_start (S := fun w => (Rd n.a [n.b, n.e, (Value.iface 3 (vI .i64 val)), n.mx, (vQ l), (vQ r), (vQ p), (vI .i64 n.c)] w ∧ Blk w n.a) ∧ SlRd vv (V.map (vI .i64)) w ∧ Sub R (hp w)) (N := 11) foll rfl rfl ?_
 have H2_ := Holds.drew_ H
 have hq3_ := And.intro ((And.intro (Holds.rdf H2_ 1 rfl) (Holds.blk H2_ 1 rfl))) (And.intro (Holds.slrd H2_ 4 rfl) ((Holds.ro_at H2_ 0 rfl)))
 refine A_tk 0 (v := (vP (some ⟨t7, 3, none⟩))) rfl (by kernel_rfl) (fun w hS => by kernel_rfl) hq3_ ?_
 refine A_tk 2 (v := (vQ n.a)) rfl (by kernel_rfl) (fun w hS => x_move rfl) hq3_ ?_
 refine A_tk 3 (v := (vQ n.a)) rfl (by kernel_rfl) (fun w hS => by kernel_rfl) hq3_ ?_
 refine A_tk 4 (v := (vQ n.a)) rfl (by kernel_rfl) (fun w hS => by kernel_rfl) hq3_ ?_
 refine A_tk 5 (v := (vA #[n.b, n.e])) rfl (by kernel_rfl) (fun w hS => x_loadN (vs := [n.b, n.e]) rfl underlying111 rfl z111 rfl (Rd.cells hS.1.1 0 rfl)) hq3_ ?_
 refine A_ready (i := 1) (rs := [6]) (by kernel_rfl) ?_
 refine AllR.cons ?_ ?_
 ·skip
  refine A_op (ls' := #[true, true, true, true, true, true, false, false, false, false, false]) rfl (by kernel_rfl) (T_val (v := lv) (x_load1 rfl underlying30 rfl ((Holds.rd H2_ 2 rfl) 3 lv rfl)) ?_)
  refine ⟨⟨(And.intro (Holds.rdf H2_ 1 rfl) (Holds.blk H2_ 1 rfl)), Holds.slrd H2_ 4 rfl, (Holds.ro_at H2_ 0 rfl)⟩, ?_⟩
  refine A_ready (i := 6) (rs := []) (by kernel_rfl) ?_
  refine AllR.cons ?_ AllR.nil
  refine A_op (ls' := #[true, true, true, true, true, true, true, false, false, false, false]) rfl (by kernel_rfl) (T_call (al := [(vA #[n.b, n.e])]) (pre := []) rfl rfl cb54 (spOut R ord n.b n.e n.kb n.ke (hn.b) (hn.e)) H2_ ?_)
  rintro v4_ p8_ w5_ ⟨rfl, rfl⟩ S7_ H6_
  have S9_ := Same.trans (Same.trans (Same.refl w) (Same.drew _)) S7_
  refine ⟨⟨(And.intro (Holds.rdf H6_ 1 rfl) (Holds.blk H6_ 1 rfl)), Holds.slrd H6_ 4 rfl, (Holds.ro_at H6_ 0 rfl)⟩, ?_⟩
  refine A_ready (i := 7) (rs := []) (by kernel_rfl) ?_
  refine AllR.cons ?_ AllR.nil
  refine A_op (ls' := #[true, true, true, true, true, true, true, true, false, false, false]) rfl (by kernel_rfl) (T_new (obj := .cells #[(Value.string ((ekSpan n.kb n.ke).in__Begin)), (Value.string ((ekSpan n.kb n.ke).in__End)), (vB ((ekSpan n.kb n.ke).in__Point)), (vI .i64 ((ekSpan n.kb n.ke).from_)), (vI .i64 ((ekSpan n.kb n.ke).till))] 44) (f := fun b__ => .slice (some ⟨b__, 0, none⟩) 1 1) (A := fun b__ => cl b__ 44 [(Value.string ((ekSpan n.kb n.ke).in__Begin)), (Value.string ((ekSpan n.kb n.ke).in__End)), (vB ((ekSpan n.kb n.ke).in__Point)), (vI .i64 ((ekSpan n.kb n.ke).from_)), (vI .i64 ((ekSpan n.kb n.ke).till))]) (by kernel_rfl) (fun l h => h.alloc _ _) H6_ ?_)
  intro b10_ w11_ S13_ H12_
  have S14_ := Same.trans S9_ S13_
  refine ⟨⟨(And.intro (Holds.rdf H12_ 2 rfl) (Holds.blk H12_ 2 rfl)), Holds.slrd H12_ 5 rfl, (Holds.ro_at H12_ 1 rfl)⟩, ?_⟩
  refine A_ready (i := 8) (rs := []) (by kernel_rfl) ?_
  refine AllR.cons ?_ AllR.nil
  refine A_op (ls' := #[true, true, true, true, true, true, true, true, true, false, false]) rfl (by kernel_rfl) (T_append rfl rfl underlying30 z44 rfl (by decide) H12_ 4 rfl (Holds.cl_src H12_ 0 rfl underlying30 (by simp [Value.oneCell']) rfl) (by first | omega | (simp only [List.length_append, List.length_cons, List.length_nil]; omega)) ?_)
  intro v15_ w16_ S18_ H17_
  have S19_ := Same.trans S14_ S18_
  refine ⟨⟨(And.intro (Holds.rdf H17_ 2 rfl) (Holds.blk H17_ 2 rfl)), Holds.slrd H17_ 5 rfl, (Holds.ro_at H17_ 1 rfl)⟩, ?_⟩
  have hq20_ := And.intro ((And.intro (Holds.rdf H17_ 2 rfl) (Holds.blk H17_ 2 rfl))) (And.intro (Holds.slrd H17_ 5 rfl) ((Holds.ro_at H17_ 1 rfl)))
  refine A_tk 9 (v := (vP (some ⟨t7, 3, none⟩))) rfl (by kernel_rfl) (fun w hS => by kernel_rfl) hq20_ ?_
  refine A_ready (i := 10) (rs := []) (by kernel_rfl) ?_
  refine AllR.cons ?_ AllR.nil
  refine A_op0 (ls' := #[true, true, true, true, true, true, true, true, true, true, true]) rfl (by kernel_rfl) (T_store1 (v := v15_) rfl rfl z30 (Holds.sl_one H17_ 4 rfl) H17_ 3 rfl (Nat.le_of_ble_eq_true (by rfl)) ?_)
  intro w21_ S23_ H22_
  have S24_ := Same.trans S19_ S23_
  refine ⟨⟨(And.intro (Holds.rdf H22_ 2 rfl) (Holds.blk H22_ 2 rfl)), Holds.slrd H22_ 5 rfl, (Holds.ro_at H22_ 1 rfl)⟩, ?_⟩
  refine A_done (by kernel_rfl) ?_
  refine (X_then (hK1_ _ _ ?_))
  refine A_start (S := fun w => (Rd n.a [n.b, n.e, (Value.iface 3 (vI .i64 val)), n.mx, (vQ l), (vQ r), (vQ p), (vI .i64 n.c)] w ∧ Blk w n.a) ∧ SlRd v15_ ((L.flatMap SN.cells) ++ [(Value.string ((ekSpan n.kb n.ke).in__Begin)), (Value.string ((ekSpan n.kb n.ke).in__End)), (vB ((ekSpan n.kb n.ke).in__Point)), (vI .i64 ((ekSpan n.kb n.ke).from_)), (vI .i64 ((ekSpan n.kb n.ke).till))]) w ∧ Sub R (hp w)) (N := 11) foll rfl rfl ?_
  have H25_ := Holds.drew_ H22_
  have hq26_ := And.intro ((And.intro (Holds.rdf H25_ 2 rfl) (Holds.blk H25_ 2 rfl))) (And.intro (Holds.slrd H25_ 4 rfl) ((Holds.ro_at H25_ 1 rfl)))
  refine A_tk 0 (v := (vP (some ⟨t7, 4, none⟩))) rfl (by kernel_rfl) (fun w hS => by kernel_rfl) hq26_ ?_
  refine A_tk 2 (v := (vQ n.a)) rfl (by kernel_rfl) (fun w hS => x_move rfl) hq26_ ?_
  refine A_tk 3 (v := (vQ n.a)) rfl (by kernel_rfl) (fun w hS => by kernel_rfl) hq26_ ?_
  refine A_tk 4 (v := (vP (some ⟨n.a, 2, none⟩))) rfl (by kernel_rfl) (fun w hS => by kernel_rfl) hq26_ ?_
  refine A_tk 5 (v := (Value.iface 3 (vI .i64 val))) rfl (by kernel_rfl) (fun w hS => x_load1 rfl underlying20 rfl (hS.1.1 2 (Value.iface 3 (vI .i64 val)) rfl)) hq26_ ?_
  refine A_tk 6 (v := (vI .i64 val)) rfl (by kernel_rfl) (fun w hS => by kernel_rfl) hq26_ ?_
  refine A_ready (i := 1) (rs := [7]) (by kernel_rfl) ?_
  refine AllR.cons ?_ ?_
  ·skip
   refine A_op (ls' := #[true, true, true, true, true, true, true, false, false, false, false]) rfl (by kernel_rfl) (T_val (v := vv) (x_load1 rfl underlying35 rfl ((Holds.rd H25_ 3 rfl) 4 vv rfl)) ?_)
   refine ⟨⟨(And.intro (Holds.rdf H25_ 2 rfl) (Holds.blk H25_ 2 rfl)), Holds.slrd H25_ 4 rfl, (Holds.ro_at H25_ 1 rfl)⟩, ?_⟩
   refine A_ready (i := 7) (rs := []) (by kernel_rfl) ?_
   refine AllR.cons ?_ AllR.nil
   refine A_op (ls' := #[true, true, true, true, true, true, true, true, false, false, false]) rfl (by kernel_rfl) (T_new (obj := .cells #[(vI .i64 val)] 3) (f := fun b__ => .slice (some ⟨b__, 0, none⟩) 1 1) (A := fun b__ => cl b__ 3 [(vI .i64 val)]) (by kernel_rfl) (fun l h => h.alloc _ _) H25_ ?_)
   intro b27_ w28_ S30_ H29_
   have S31_ := Same.trans (Same.trans S24_ (Same.drew _)) S30_
   refine ⟨⟨(And.intro (Holds.rdf H29_ 3 rfl) (Holds.blk H29_ 3 rfl)), Holds.slrd H29_ 5 rfl, (Holds.ro_at H29_ 2 rfl)⟩, ?_⟩
   refine A_ready (i := 8) (rs := []) (by kernel_rfl) ?_
   refine AllR.cons ?_ AllR.nil
   refine A_op (ls' := #[true, true, true, true, true, true, true, true, true, false, false]) rfl (by kernel_rfl) (T_append rfl rfl underlying35 z3 rfl (by decide) H29_ 6 rfl (Holds.cl_src H29_ 0 rfl underlying35 (by simp [Value.oneCell']) rfl) (by first | omega | (simp only [List.length_append, List.length_cons, List.length_nil]; omega)) ?_)
   intro v32_ w33_ S35_ H34_
   have S36_ := Same.trans S31_ S35_
   refine ⟨⟨(And.intro (Holds.rdf H34_ 3 rfl) (Holds.blk H34_ 3 rfl)), Holds.slrd H34_ 5 rfl, (Holds.ro_at H34_ 2 rfl)⟩, ?_⟩
   have hq37_ := And.intro ((And.intro (Holds.rdf H34_ 3 rfl) (Holds.blk H34_ 3 rfl))) (And.intro (Holds.slrd H34_ 5 rfl) ((Holds.ro_at H34_ 2 rfl)))
   refine A_tk 9 (v := (vP (some ⟨t7, 4, none⟩))) rfl (by kernel_rfl) (fun w hS => by kernel_rfl) hq37_ ?_
   refine A_ready (i := 10) (rs := []) (by kernel_rfl) ?_
   refine AllR.cons ?_ AllR.nil
   refine A_op0 (ls' := #[true, true, true, true, true, true, true, true, true, true, true]) rfl (by kernel_rfl) (T_store1 (v := v32_) rfl rfl z35 (Holds.sl_one H34_ 6 rfl) H34_ 4 rfl (Nat.le_of_ble_eq_true (by rfl)) ?_)
   intro w38_ S40_ H39_
   have S41_ := Same.trans S36_ S40_
   refine ⟨⟨(And.intro (Holds.rdf H39_ 3 rfl) (Holds.blk H39_ 3 rfl)), Holds.slrd H39_ 5 rfl, (Holds.ro_at H39_ 2 rfl)⟩, ?_⟩
   refine A_done (by kernel_rfl) ?_
   refine R_0 rfl ?_
   have H42_ := Holds.resl H39_ 5 rfl (by simp [SN.cells, List.flatMap_append] : (L.flatMap SN.cells) ++ [(Value.string ((ekSpan n.kb n.ke).in__Begin)), (Value.string ((ekSpan n.kb n.ke).in__End)), (vB ((ekSpan n.kb n.ke).in__Point)), (vI .i64 ((ekSpan n.kb n.ke).from_)), (vI .i64 ((ekSpan n.kb n.ke).till))] = (L ++ [ekSpan n.kb n.ke]).flatMap SN.cells) (by simp : (List.length L) + 1 = (List.length (L ++ [ekSpan n.kb n.ke])))
   have H43_ := Holds.resl H42_ 6 rfl (by simp : (V.map (vI .i64)) ++ [(vI .i64 val)] = (V ++ [val]).map (vI .i64)) (by simp : (List.length V) + 1 = (List.length (V ++ [val])))
   have H44_ := Holds.pkF H43_ [2, 2, 2, 2, 2] 2
   exact ⟨_, _, rfl, ⟨v15_, v32_, rfl, rfl⟩, S41_, H44_⟩
  refine AllR.cons ?_ AllR.nil
  refine A_op (ls' := #[true, false, true, true, true, true, true, true, false, false, false]) rfl (by kernel_rfl) (T_new (obj := .cells #[(vI .i64 val)] 3) (f := fun b__ => .slice (some ⟨b__, 0, none⟩) 1 1) (A := fun b__ => cl b__ 3 [(vI .i64 val)]) (by kernel_rfl) (fun l h => h.alloc _ _) H25_ ?_)
  intro b45_ w46_ S48_ H47_
  have S49_ := Same.trans (Same.trans S24_ (Same.drew _)) S48_
  refine ⟨⟨(And.intro (Holds.rdf H47_ 3 rfl) (Holds.blk H47_ 3 rfl)), Holds.slrd H47_ 5 rfl, (Holds.ro_at H47_ 2 rfl)⟩, ?_⟩
  refine A_ready (i := 1) (rs := []) (by kernel_rfl) ?_
  refine AllR.cons ?_ AllR.nil
  refine A_op (ls' := #[true, true, true, true, true, true, true, true, false, false, false]) rfl (by kernel_rfl) (T_val (v := vv) (x_load1 rfl underlying35 rfl ((Holds.rd H47_ 4 rfl) 4 vv rfl)) ?_)
  refine ⟨⟨(And.intro (Holds.rdf H47_ 3 rfl) (Holds.blk H47_ 3 rfl)), Holds.slrd H47_ 5 rfl, (Holds.ro_at H47_ 2 rfl)⟩, ?_⟩
  refine A_ready (i := 8) (rs := []) (by kernel_rfl) ?_
  refine AllR.cons ?_ AllR.nil
  refine A_op (ls' := #[true, true, true, true, true, true, true, true, true, false, false]) rfl (by kernel_rfl) (T_append rfl rfl underlying35 z3 rfl (by decide) H47_ 6 rfl (Holds.cl_src H47_ 0 rfl underlying35 (by simp [Value.oneCell']) rfl) (by first | omega | (simp only [List.length_append, List.length_cons, List.length_nil]; omega)) ?_)
  intro v50_ w51_ S53_ H52_
  have S54_ := Same.trans S49_ S53_
  refine ⟨⟨(And.intro (Holds.rdf H52_ 3 rfl) (Holds.blk H52_ 3 rfl)), Holds.slrd H52_ 5 rfl, (Holds.ro_at H52_ 2 rfl)⟩, ?_⟩
  have hq55_ := And.intro ((And.intro (Holds.rdf H52_ 3 rfl) (Holds.blk H52_ 3 rfl))) (And.intro (Holds.slrd H52_ 5 rfl) ((Holds.ro_at H52_ 2 rfl)))
  refine A_tk 9 (v := (vP (some ⟨t7, 4, none⟩))) rfl (by kernel_rfl) (fun w hS => by kernel_rfl) hq55_ ?_
  refine A_ready (i := 10) (rs := []) (by kernel_rfl) ?_
  refine AllR.cons ?_ AllR.nil
  refine A_op0 (ls' := #[true, true, true, true, true, true, true, true, true, true, true]) rfl (by kernel_rfl) (T_store1 (v := v50_) rfl rfl z35 (Holds.sl_one H52_ 6 rfl) H52_ 4 rfl (Nat.le_of_ble_eq_true (by rfl)) ?_)
  intro w56_ S58_ H57_
  have S59_ := Same.trans S54_ S58_
  refine ⟨⟨(And.intro (Holds.rdf H57_ 3 rfl) (Holds.blk H57_ 3 rfl)), Holds.slrd H57_ 5 rfl, (Holds.ro_at H57_ 2 rfl)⟩, ?_⟩
  refine A_done (by kernel_rfl) ?_
  refine R_0 rfl ?_
  have H60_ := Holds.resl H57_ 5 rfl (by simp [SN.cells, List.flatMap_append] : (L.flatMap SN.cells) ++ [(Value.string ((ekSpan n.kb n.ke).in__Begin)), (Value.string ((ekSpan n.kb n.ke).in__End)), (vB ((ekSpan n.kb n.ke).in__Point)), (vI .i64 ((ekSpan n.kb n.ke).from_)), (vI .i64 ((ekSpan n.kb n.ke).till))] = (L ++ [ekSpan n.kb n.ke]).flatMap SN.cells) (by simp : (List.length L) + 1 = (List.length (L ++ [ekSpan n.kb n.ke])))
  have H61_ := Holds.resl H60_ 6 rfl (by simp : (V.map (vI .i64)) ++ [(vI .i64 val)] = (V ++ [val]).map (vI .i64)) (by simp : (List.length V) + 1 = (List.length (V ++ [val])))
  have H62_ := Holds.pkF H61_ [2, 2, 2, 2, 2] 2
  exact ⟨_, _, rfl, ⟨v15_, v50_, rfl, rfl⟩, S59_, H62_⟩
 refine AllR.cons ?_ AllR.nil
 refine A_op (ls' := #[true, false, true, true, true, true, true, false, false, false, false]) rfl (by kernel_rfl) (T_call (al := [(vA #[n.b, n.e])]) (pre := []) rfl rfl cb54 (spOut R ord n.b n.e n.kb n.ke (hn.b) (hn.e)) H2_ ?_)
 rintro v63_ p67_ w64_ ⟨rfl, rfl⟩ S66_ H65_
 have S68_ := Same.trans (Same.trans (Same.refl w) (Same.drew _)) S66_
 refine ⟨⟨(And.intro (Holds.rdf H65_ 1 rfl) (Holds.blk H65_ 1 rfl)), Holds.slrd H65_ 4 rfl, (Holds.ro_at H65_ 0 rfl)⟩, ?_⟩
 refine A_ready (i := 1) (rs := [7]) (by kernel_rfl) ?_
 refine AllR.cons ?_ ?_
 ·skip
  refine A_op (ls' := #[true, true, true, true, true, true, true, false, false, false, false]) rfl (by kernel_rfl) (T_val (v := lv) (x_load1 rfl underlying30 rfl ((Holds.rd H65_ 2 rfl) 3 lv rfl)) ?_)
  refine ⟨⟨(And.intro (Holds.rdf H65_ 1 rfl) (Holds.blk H65_ 1 rfl)), Holds.slrd H65_ 4 rfl, (Holds.ro_at H65_ 0 rfl)⟩, ?_⟩
  refine A_ready (i := 7) (rs := []) (by kernel_rfl) ?_
  refine AllR.cons ?_ AllR.nil
  refine A_op (ls' := #[true, true, true, true, true, true, true, true, false, false, false]) rfl (by kernel_rfl) (T_new (obj := .cells #[(Value.string ((ekSpan n.kb n.ke).in__Begin)), (Value.string ((ekSpan n.kb n.ke).in__End)), (vB ((ekSpan n.kb n.ke).in__Point)), (vI .i64 ((ekSpan n.kb n.ke).from_)), (vI .i64 ((ekSpan n.kb n.ke).till))] 44) (f := fun b__ => .slice (some ⟨b__, 0, none⟩) 1 1) (A := fun b__ => cl b__ 44 [(Value.string ((ekSpan n.kb n.ke).in__Begin)), (Value.string ((ekSpan n.kb n.ke).in__End)), (vB ((ekSpan n.kb n.ke).in__Point)), (vI .i64 ((ekSpan n.kb n.ke).from_)), (vI .i64 ((ekSpan n.kb n.ke).till))]) (by kernel_rfl) (fun l h => h.alloc _ _) H65_ ?_)
  intro b69_ w70_ S72_ H71_
  have S73_ := Same.trans S68_ S72_
  refine ⟨⟨(And.intro (Holds.rdf H71_ 2 rfl) (Holds.blk H71_ 2 rfl)), Holds.slrd H71_ 5 rfl, (Holds.ro_at H71_ 1 rfl)⟩, ?_⟩
  refine A_ready (i := 8) (rs := []) (by kernel_rfl) ?_
  refine AllR.cons ?_ AllR.nil
  refine A_op (ls' := #[true, true, true, true, true, true, true, true, true, false, false]) rfl (by kernel_rfl) (T_append rfl rfl underlying30 z44 rfl (by decide) H71_ 4 rfl (Holds.cl_src H71_ 0 rfl underlying30 (by simp [Value.oneCell']) rfl) (by first | omega | (simp only [List.length_append, List.length_cons, List.length_nil]; omega)) ?_)
  intro v74_ w75_ S77_ H76_
  have S78_ := Same.trans S73_ S77_
  refine ⟨⟨(And.intro (Holds.rdf H76_ 2 rfl) (Holds.blk H76_ 2 rfl)), Holds.slrd H76_ 5 rfl, (Holds.ro_at H76_ 1 rfl)⟩, ?_⟩
  have hq79_ := And.intro ((And.intro (Holds.rdf H76_ 2 rfl) (Holds.blk H76_ 2 rfl))) (And.intro (Holds.slrd H76_ 5 rfl) ((Holds.ro_at H76_ 1 rfl)))
  refine A_tk 9 (v := (vP (some ⟨t7, 3, none⟩))) rfl (by kernel_rfl) (fun w hS => by kernel_rfl) hq79_ ?_
  refine A_ready (i := 10) (rs := []) (by kernel_rfl) ?_
  refine AllR.cons ?_ AllR.nil
  refine A_op0 (ls' := #[true, true, true, true, true, true, true, true, true, true, true]) rfl (by kernel_rfl) (T_store1 (v := v74_) rfl rfl z30 (Holds.sl_one H76_ 4 rfl) H76_ 3 rfl (Nat.le_of_ble_eq_true (by rfl)) ?_)
  intro w80_ S82_ H81_
  have S83_ := Same.trans S78_ S82_
  refine ⟨⟨(And.intro (Holds.rdf H81_ 2 rfl) (Holds.blk H81_ 2 rfl)), Holds.slrd H81_ 5 rfl, (Holds.ro_at H81_ 1 rfl)⟩, ?_⟩
  refine A_done (by kernel_rfl) ?_
  refine (X_then (hK1_ _ _ ?_))
  refine A_start (S := fun w => (Rd n.a [n.b, n.e, (Value.iface 3 (vI .i64 val)), n.mx, (vQ l), (vQ r), (vQ p), (vI .i64 n.c)] w ∧ Blk w n.a) ∧ SlRd v74_ ((L.flatMap SN.cells) ++ [(Value.string ((ekSpan n.kb n.ke).in__Begin)), (Value.string ((ekSpan n.kb n.ke).in__End)), (vB ((ekSpan n.kb n.ke).in__Point)), (vI .i64 ((ekSpan n.kb n.ke).from_)), (vI .i64 ((ekSpan n.kb n.ke).till))]) w ∧ Sub R (hp w)) (N := 11) foll rfl rfl ?_
  have H84_ := Holds.drew_ H81_
  have hq85_ := And.intro ((And.intro (Holds.rdf H84_ 2 rfl) (Holds.blk H84_ 2 rfl))) (And.intro (Holds.slrd H84_ 4 rfl) ((Holds.ro_at H84_ 1 rfl)))
  refine A_tk 0 (v := (vP (some ⟨t7, 4, none⟩))) rfl (by kernel_rfl) (fun w hS => by kernel_rfl) hq85_ ?_
  refine A_tk 2 (v := (vQ n.a)) rfl (by kernel_rfl) (fun w hS => x_move rfl) hq85_ ?_
  refine A_tk 3 (v := (vQ n.a)) rfl (by kernel_rfl) (fun w hS => by kernel_rfl) hq85_ ?_
  refine A_tk 4 (v := (vP (some ⟨n.a, 2, none⟩))) rfl (by kernel_rfl) (fun w hS => by kernel_rfl) hq85_ ?_
  refine A_tk 5 (v := (Value.iface 3 (vI .i64 val))) rfl (by kernel_rfl) (fun w hS => x_load1 rfl underlying20 rfl (hS.1.1 2 (Value.iface 3 (vI .i64 val)) rfl)) hq85_ ?_
  refine A_tk 6 (v := (vI .i64 val)) rfl (by kernel_rfl) (fun w hS => by kernel_rfl) hq85_ ?_
  refine A_ready (i := 1) (rs := [7]) (by kernel_rfl) ?_
  refine AllR.cons ?_ ?_
  ·skip
   refine A_op (ls' := #[true, true, true, true, true, true, true, false, false, false, false]) rfl (by kernel_rfl) (T_val (v := vv) (x_load1 rfl underlying35 rfl ((Holds.rd H84_ 3 rfl) 4 vv rfl)) ?_)
   refine ⟨⟨(And.intro (Holds.rdf H84_ 2 rfl) (Holds.blk H84_ 2 rfl)), Holds.slrd H84_ 4 rfl, (Holds.ro_at H84_ 1 rfl)⟩, ?_⟩
   refine A_ready (i := 7) (rs := []) (by kernel_rfl) ?_
   refine AllR.cons ?_ AllR.nil
   refine A_op (ls' := #[true, true, true, true, true, true, true, true, false, false, false]) rfl (by kernel_rfl) (T_new (obj := .cells #[(vI .i64 val)] 3) (f := fun b__ => .slice (some ⟨b__, 0, none⟩) 1 1) (A := fun b__ => cl b__ 3 [(vI .i64 val)]) (by kernel_rfl) (fun l h => h.alloc _ _) H84_ ?_)
   intro b86_ w87_ S89_ H88_
   have S90_ := Same.trans (Same.trans S83_ (Same.drew _)) S89_
   refine ⟨⟨(And.intro (Holds.rdf H88_ 3 rfl) (Holds.blk H88_ 3 rfl)), Holds.slrd H88_ 5 rfl, (Holds.ro_at H88_ 2 rfl)⟩, ?_⟩
   refine A_ready (i := 8) (rs := []) (by kernel_rfl) ?_
   refine AllR.cons ?_ AllR.nil
   refine A_op (ls' := #[true, true, true, true, true, true, true, true, true, false, false]) rfl (by kernel_rfl) (T_append rfl rfl underlying35 z3 rfl (by decide) H88_ 6 rfl (Holds.cl_src H88_ 0 rfl underlying35 (by simp [Value.oneCell']) rfl) (by first | omega | (simp only [List.length_append, List.length_cons, List.length_nil]; omega)) ?_)
   intro v91_ w92_ S94_ H93_
   have S95_ := Same.trans S90_ S94_
   refine ⟨⟨(And.intro (Holds.rdf H93_ 3 rfl) (Holds.blk H93_ 3 rfl)), Holds.slrd H93_ 5 rfl, (Holds.ro_at H93_ 2 rfl)⟩, ?_⟩
   have hq96_ := And.intro ((And.intro (Holds.rdf H93_ 3 rfl) (Holds.blk H93_ 3 rfl))) (And.intro (Holds.slrd H93_ 5 rfl) ((Holds.ro_at H93_ 2 rfl)))
   refine A_tk 9 (v := (vP (some ⟨t7, 4, none⟩))) rfl (by kernel_rfl) (fun w hS => by kernel_rfl) hq96_ ?_
   refine A_ready (i := 10) (rs := []) (by kernel_rfl) ?_
   refine AllR.cons ?_ AllR.nil
   refine A_op0 (ls' := #[true, true, true, true, true, true, true, true, true, true, true]) rfl (by kernel_rfl) (T_store1 (v := v91_) rfl rfl z35 (Holds.sl_one H93_ 6 rfl) H93_ 4 rfl (Nat.le_of_ble_eq_true (by rfl)) ?_)
   intro w97_ S99_ H98_
   have S100_ := Same.trans S95_ S99_
   refine ⟨⟨(And.intro (Holds.rdf H98_ 3 rfl) (Holds.blk H98_ 3 rfl)), Holds.slrd H98_ 5 rfl, (Holds.ro_at H98_ 2 rfl)⟩, ?_⟩
   refine A_done (by kernel_rfl) ?_
   refine R_0 rfl ?_
   have H101_ := Holds.resl H98_ 5 rfl (by simp [SN.cells, List.flatMap_append] : (L.flatMap SN.cells) ++ [(Value.string ((ekSpan n.kb n.ke).in__Begin)), (Value.string ((ekSpan n.kb n.ke).in__End)), (vB ((ekSpan n.kb n.ke).in__Point)), (vI .i64 ((ekSpan n.kb n.ke).from_)), (vI .i64 ((ekSpan n.kb n.ke).till))] = (L ++ [ekSpan n.kb n.ke]).flatMap SN.cells) (by simp : (List.length L) + 1 = (List.length (L ++ [ekSpan n.kb n.ke])))
   have H102_ := Holds.resl H101_ 6 rfl (by simp : (V.map (vI .i64)) ++ [(vI .i64 val)] = (V ++ [val]).map (vI .i64)) (by simp : (List.length V) + 1 = (List.length (V ++ [val])))
   have H103_ := Holds.pkF H102_ [2, 2, 2, 2, 2] 2
   exact ⟨_, _, rfl, ⟨v74_, v91_, rfl, rfl⟩, S100_, H103_⟩
  refine AllR.cons ?_ AllR.nil
  refine A_op (ls' := #[true, false, true, true, true, true, true, true, false, false, false]) rfl (by kernel_rfl) (T_new (obj := .cells #[(vI .i64 val)] 3) (f := fun b__ => .slice (some ⟨b__, 0, none⟩) 1 1) (A := fun b__ => cl b__ 3 [(vI .i64 val)]) (by kernel_rfl) (fun l h => h.alloc _ _) H84_ ?_)
  intro b104_ w105_ S107_ H106_
  have S108_ := Same.trans (Same.trans S83_ (Same.drew _)) S107_
  refine ⟨⟨(And.intro (Holds.rdf H106_ 3 rfl) (Holds.blk H106_ 3 rfl)), Holds.slrd H106_ 5 rfl, (Holds.ro_at H106_ 2 rfl)⟩, ?_⟩
  refine A_ready (i := 1) (rs := []) (by kernel_rfl) ?_
  refine AllR.cons ?_ AllR.nil
  refine A_op (ls' := #[true, true, true, true, true, true, true, true, false, false, false]) rfl (by kernel_rfl) (T_val (v := vv) (x_load1 rfl underlying35 rfl ((Holds.rd H106_ 4 rfl) 4 vv rfl)) ?_)
  refine ⟨⟨(And.intro (Holds.rdf H106_ 3 rfl) (Holds.blk H106_ 3 rfl)), Holds.slrd H106_ 5 rfl, (Holds.ro_at H106_ 2 rfl)⟩, ?_⟩
  refine A_ready (i := 8) (rs := []) (by kernel_rfl) ?_
  refine AllR.cons ?_ AllR.nil
  refine A_op (ls' := #[true, true, true, true, true, true, true, true, true, false, false]) rfl (by kernel_rfl) (T_append rfl rfl underlying35 z3 rfl (by decide) H106_ 6 rfl (Holds.cl_src H106_ 0 rfl underlying35 (by simp [Value.oneCell']) rfl) (by first | omega | (simp only [List.length_append, List.length_cons, List.length_nil]; omega)) ?_)
  intro v109_ w110_ S112_ H111_
  have S113_ := Same.trans S108_ S112_
  refine ⟨⟨(And.intro (Holds.rdf H111_ 3 rfl) (Holds.blk H111_ 3 rfl)), Holds.slrd H111_ 5 rfl, (Holds.ro_at H111_ 2 rfl)⟩, ?_⟩
  have hq114_ := And.intro ((And.intro (Holds.rdf H111_ 3 rfl) (Holds.blk H111_ 3 rfl))) (And.intro (Holds.slrd H111_ 5 rfl) ((Holds.ro_at H111_ 2 rfl)))
  refine A_tk 9 (v := (vP (some ⟨t7, 4, none⟩))) rfl (by kernel_rfl) (fun w hS => by kernel_rfl) hq114_ ?_
  refine A_ready (i := 10) (rs := []) (by kernel_rfl) ?_
  refine AllR.cons ?_ AllR.nil
  refine A_op0 (ls' := #[true, true, true, true, true, true, true, true, true, true, true]) rfl (by kernel_rfl) (T_store1 (v := v109_) rfl rfl z35 (Holds.sl_one H111_ 6 rfl) H111_ 4 rfl (Nat.le_of_ble_eq_true (by rfl)) ?_)
  intro w115_ S117_ H116_
  have S118_ := Same.trans S113_ S117_
  refine ⟨⟨(And.intro (Holds.rdf H116_ 3 rfl) (Holds.blk H116_ 3 rfl)), Holds.slrd H116_ 5 rfl, (Holds.ro_at H116_ 2 rfl)⟩, ?_⟩
  refine A_done (by kernel_rfl) ?_
  refine R_0 rfl ?_
  have H119_ := Holds.resl H116_ 5 rfl (by simp [SN.cells, List.flatMap_append] : (L.flatMap SN.cells) ++ [(Value.string ((ekSpan n.kb n.ke).in__Begin)), (Value.string ((ekSpan n.kb n.ke).in__End)), (vB ((ekSpan n.kb n.ke).in__Point)), (vI .i64 ((ekSpan n.kb n.ke).from_)), (vI .i64 ((ekSpan n.kb n.ke).till))] = (L ++ [ekSpan n.kb n.ke]).flatMap SN.cells) (by simp : (List.length L) + 1 = (List.length (L ++ [ekSpan n.kb n.ke])))
  have H120_ := Holds.resl H119_ 6 rfl (by simp : (V.map (vI .i64)) ++ [(vI .i64 val)] = (V ++ [val]).map (vI .i64)) (by simp : (List.length V) + 1 = (List.length (V ++ [val])))
  have H121_ := Holds.pkF H120_ [2, 2, 2, 2, 2] 2
  exact ⟨_, _, rfl, ⟨v74_, v109_, rfl, rfl⟩, S118_, H121_⟩
 refine AllR.cons ?_ AllR.nil
 refine A_op (ls' := #[true, false, true, true, true, true, true, true, false, false, false]) rfl (by kernel_rfl) (T_new (obj := .cells #[(Value.string ((ekSpan n.kb n.ke).in__Begin)), (Value.string ((ekSpan n.kb n.ke).in__End)), (vB ((ekSpan n.kb n.ke).in__Point)), (vI .i64 ((ekSpan n.kb n.ke).from_)), (vI .i64 ((ekSpan n.kb n.ke).till))] 44) (f := fun b__ => .slice (some ⟨b__, 0, none⟩) 1 1) (A := fun b__ => cl b__ 44 [(Value.string ((ekSpan n.kb n.ke).in__Begin)), (Value.string ((ekSpan n.kb n.ke).in__End)), (vB ((ekSpan n.kb n.ke).in__Point)), (vI .i64 ((ekSpan n.kb n.ke).from_)), (vI .i64 ((ekSpan n.kb n.ke).till))]) (by kernel_rfl) (fun l h => h.alloc _ _) H65_ ?_)
 intro b122_ w123_ S125_ H124_
 have S126_ := Same.trans S68_ S125_
 refine ⟨⟨(And.intro (Holds.rdf H124_ 2 rfl) (Holds.blk H124_ 2 rfl)), Holds.slrd H124_ 5 rfl, (Holds.ro_at H124_ 1 rfl)⟩, ?_⟩
 refine A_ready (i := 1) (rs := []) (by kernel_rfl) ?_
 refine AllR.cons ?_ AllR.nil
 refine A_op (ls' := #[true, true, true, true, true, true, true, true, false, false, false]) rfl (by kernel_rfl) (T_val (v := lv) (x_load1 rfl underlying30 rfl ((Holds.rd H124_ 3 rfl) 3 lv rfl)) ?_)
 refine ⟨⟨(And.intro (Holds.rdf H124_ 2 rfl) (Holds.blk H124_ 2 rfl)), Holds.slrd H124_ 5 rfl, (Holds.ro_at H124_ 1 rfl)⟩, ?_⟩
 refine A_ready (i := 8) (rs := []) (by kernel_rfl) ?_
 refine AllR.cons ?_ AllR.nil
 refine A_op (ls' := #[true, true, true, true, true, true, true, true, true, false, false]) rfl (by kernel_rfl) (T_append rfl rfl underlying30 z44 rfl (by decide) H124_ 4 rfl (Holds.cl_src H124_ 0 rfl underlying30 (by simp [Value.oneCell']) rfl) (by first | omega | (simp only [List.length_append, List.length_cons, List.length_nil]; omega)) ?_)
 intro v127_ w128_ S130_ H129_
 have S131_ := Same.trans S126_ S130_
 refine ⟨⟨(And.intro (Holds.rdf H129_ 2 rfl) (Holds.blk H129_ 2 rfl)), Holds.slrd H129_ 5 rfl, (Holds.ro_at H129_ 1 rfl)⟩, ?_⟩
 have hq132_ := And.intro ((And.intro (Holds.rdf H129_ 2 rfl) (Holds.blk H129_ 2 rfl))) (And.intro (Holds.slrd H129_ 5 rfl) ((Holds.ro_at H129_ 1 rfl)))
 refine A_tk 9 (v := (vP (some ⟨t7, 3, none⟩))) rfl (by kernel_rfl) (fun w hS => by kernel_rfl) hq132_ ?_
 refine A_ready (i := 10) (rs := []) (by kernel_rfl) ?_
 refine AllR.cons ?_ AllR.nil
 refine A_op0 (ls' := #[true, true, true, true, true, true, true, true, true, true, true]) rfl (by kernel_rfl) (T_store1 (v := v127_) rfl rfl z30 (Holds.sl_one H129_ 4 rfl) H129_ 3 rfl (Nat.le_of_ble_eq_true (by rfl)) ?_)
 intro w133_ S135_ H134_
 have S136_ := Same.trans S131_ S135_
 refine ⟨⟨(And.intro (Holds.rdf H134_ 2 rfl) (Holds.blk H134_ 2 rfl)), Holds.slrd H134_ 5 rfl, (Holds.ro_at H134_ 1 rfl)⟩, ?_⟩
 refine A_done (by kernel_rfl) ?_
 refine (X_then (hK1_ _ _ ?_))
 refine A_start (S := fun w => (Rd n.a [n.b, n.e, (Value.iface 3 (vI .i64 val)), n.mx, (vQ l), (vQ r), (vQ p), (vI .i64 n.c)] w ∧ Blk w n.a) ∧ SlRd v127_ ((L.flatMap SN.cells) ++ [(Value.string ((ekSpan n.kb n.ke).in__Begin)), (Value.string ((ekSpan n.kb n.ke).in__End)), (vB ((ekSpan n.kb n.ke).in__Point)), (vI .i64 ((ekSpan n.kb n.ke).from_)), (vI .i64 ((ekSpan n.kb n.ke).till))]) w ∧ Sub R (hp w)) (N := 11) foll rfl rfl ?_
 have H137_ := Holds.drew_ H134_
 have hq138_ := And.intro ((And.intro (Holds.rdf H137_ 2 rfl) (Holds.blk H137_ 2 rfl))) (And.intro (Holds.slrd H137_ 4 rfl) ((Holds.ro_at H137_ 1 rfl)))
 refine A_tk 0 (v := (vP (some ⟨t7, 4, none⟩))) rfl (by kernel_rfl) (fun w hS => by kernel_rfl) hq138_ ?_
 refine A_tk 2 (v := (vQ n.a)) rfl (by kernel_rfl) (fun w hS => x_move rfl) hq138_ ?_
 refine A_tk 3 (v := (vQ n.a)) rfl (by kernel_rfl) (fun w hS => by kernel_rfl) hq138_ ?_
 refine A_tk 4 (v := (vP (some ⟨n.a, 2, none⟩))) rfl (by kernel_rfl) (fun w hS => by kernel_rfl) hq138_ ?_
 refine A_tk 5 (v := (Value.iface 3 (vI .i64 val))) rfl (by kernel_rfl) (fun w hS => x_load1 rfl underlying20 rfl (hS.1.1 2 (Value.iface 3 (vI .i64 val)) rfl)) hq138_ ?_
 refine A_tk 6 (v := (vI .i64 val)) rfl (by kernel_rfl) (fun w hS => by kernel_rfl) hq138_ ?_
 refine A_ready (i := 1) (rs := [7]) (by kernel_rfl) ?_
 refine AllR.cons ?_ ?_
 ·skip
  refine A_op (ls' := #[true, true, true, true, true, true, true, false, false, false, false]) rfl (by kernel_rfl) (T_val (v := vv) (x_load1 rfl underlying35 rfl ((Holds.rd H137_ 3 rfl) 4 vv rfl)) ?_)
  refine ⟨⟨(And.intro (Holds.rdf H137_ 2 rfl) (Holds.blk H137_ 2 rfl)), Holds.slrd H137_ 4 rfl, (Holds.ro_at H137_ 1 rfl)⟩, ?_⟩
  refine A_ready (i := 7) (rs := []) (by kernel_rfl) ?_
  refine AllR.cons ?_ AllR.nil
  refine A_op (ls' := #[true, true, true, true, true, true, true, true, false, false, false]) rfl (by kernel_rfl) (T_new (obj := .cells #[(vI .i64 val)] 3) (f := fun b__ => .slice (some ⟨b__, 0, none⟩) 1 1) (A := fun b__ => cl b__ 3 [(vI .i64 val)]) (by kernel_rfl) (fun l h => h.alloc _ _) H137_ ?_)
  intro b139_ w140_ S142_ H141_
  have S143_ := Same.trans (Same.trans S136_ (Same.drew _)) S142_
  refine ⟨⟨(And.intro (Holds.rdf H141_ 3 rfl) (Holds.blk H141_ 3 rfl)), Holds.slrd H141_ 5 rfl, (Holds.ro_at H141_ 2 rfl)⟩, ?_⟩
  refine A_ready (i := 8) (rs := []) (by kernel_rfl) ?_
  refine AllR.cons ?_ AllR.nil
  refine A_op (ls' := #[true, true, true, true, true, true, true, true, true, false, false]) rfl (by kernel_rfl) (T_append rfl rfl underlying35 z3 rfl (by decide) H141_ 6 rfl (Holds.cl_src H141_ 0 rfl underlying35 (by simp [Value.oneCell']) rfl) (by first | omega | (simp only [List.length_append, List.length_cons, List.length_nil]; omega)) ?_)
  intro v144_ w145_ S147_ H146_
  have S148_ := Same.trans S143_ S147_
  refine ⟨⟨(And.intro (Holds.rdf H146_ 3 rfl) (Holds.blk H146_ 3 rfl)), Holds.slrd H146_ 5 rfl, (Holds.ro_at H146_ 2 rfl)⟩, ?_⟩
  have hq149_ := And.intro ((And.intro (Holds.rdf H146_ 3 rfl) (Holds.blk H146_ 3 rfl))) (And.intro (Holds.slrd H146_ 5 rfl) ((Holds.ro_at H146_ 2 rfl)))
  refine A_tk 9 (v := (vP (some ⟨t7, 4, none⟩))) rfl (by kernel_rfl) (fun w hS => by kernel_rfl) hq149_ ?_
  refine A_ready (i := 10) (rs := []) (by kernel_rfl) ?_
  refine AllR.cons ?_ AllR.nil
  refine A_op0 (ls' := #[true, true, true, true, true, true, true, true, true, true, true]) rfl (by kernel_rfl) (T_store1 (v := v144_) rfl rfl z35 (Holds.sl_one H146_ 6 rfl) H146_ 4 rfl (Nat.le_of_ble_eq_true (by rfl)) ?_)
  intro w150_ S152_ H151_
  have S153_ := Same.trans S148_ S152_
  refine ⟨⟨(And.intro (Holds.rdf H151_ 3 rfl) (Holds.blk H151_ 3 rfl)), Holds.slrd H151_ 5 rfl, (Holds.ro_at H151_ 2 rfl)⟩, ?_⟩
  refine A_done (by kernel_rfl) ?_
  refine R_0 rfl ?_
  have H154_ := Holds.resl H151_ 5 rfl (by simp [SN.cells, List.flatMap_append] : (L.flatMap SN.cells) ++ [(Value.string ((ekSpan n.kb n.ke).in__Begin)), (Value.string ((ekSpan n.kb n.ke).in__End)), (vB ((ekSpan n.kb n.ke).in__Point)), (vI .i64 ((ekSpan n.kb n.ke).from_)), (vI .i64 ((ekSpan n.kb n.ke).till))] = (L ++ [ekSpan n.kb n.ke]).flatMap SN.cells) (by simp : (List.length L) + 1 = (List.length (L ++ [ekSpan n.kb n.ke])))
  have H155_ := Holds.resl H154_ 6 rfl (by simp : (V.map (vI .i64)) ++ [(vI .i64 val)] = (V ++ [val]).map (vI .i64)) (by simp : (List.length V) + 1 = (List.length (V ++ [val])))
  have H156_ := Holds.pkF H155_ [2, 2, 2, 2, 2] 2
  exact ⟨_, _, rfl, ⟨v127_, v144_, rfl, rfl⟩, S153_, H156_⟩
 refine AllR.cons ?_ AllR.nil
 refine A_op (ls' := #[true, false, true, true, true, true, true, true, false, false, false]) rfl (by kernel_rfl) (T_new (obj := .cells #[(vI .i64 val)] 3) (f := fun b__ => .slice (some ⟨b__, 0, none⟩) 1 1) (A := fun b__ => cl b__ 3 [(vI .i64 val)]) (by kernel_rfl) (fun l h => h.alloc _ _) H137_ ?_)
 intro b157_ w158_ S160_ H159_
 have S161_ := Same.trans (Same.trans S136_ (Same.drew _)) S160_
 refine ⟨⟨(And.intro (Holds.rdf H159_ 3 rfl) (Holds.blk H159_ 3 rfl)), Holds.slrd H159_ 5 rfl, (Holds.ro_at H159_ 2 rfl)⟩, ?_⟩
 refine A_ready (i := 1) (rs := []) (by kernel_rfl) ?_
 refine AllR.cons ?_ AllR.nil
 refine A_op (ls' := #[true, true, true, true, true, true, true, true, false, false, false]) rfl (by kernel_rfl) (T_val (v := vv) (x_load1 rfl underlying35 rfl ((Holds.rd H159_ 4 rfl) 4 vv rfl)) ?_)
 refine ⟨⟨(And.intro (Holds.rdf H159_ 3 rfl) (Holds.blk H159_ 3 rfl)), Holds.slrd H159_ 5 rfl, (Holds.ro_at H159_ 2 rfl)⟩, ?_⟩
 refine A_ready (i := 8) (rs := []) (by kernel_rfl) ?_
 refine AllR.cons ?_ AllR.nil
 refine A_op (ls' := #[true, true, true, true, true, true, true, true, true, false, false]) rfl (by kernel_rfl) (T_append rfl rfl underlying35 z3 rfl (by decide) H159_ 6 rfl (Holds.cl_src H159_ 0 rfl underlying35 (by simp [Value.oneCell']) rfl) (by first | omega | (simp only [List.length_append, List.length_cons, List.length_nil]; omega)) ?_)
 intro v162_ w163_ S165_ H164_
 have S166_ := Same.trans S161_ S165_
 refine ⟨⟨(And.intro (Holds.rdf H164_ 3 rfl) (Holds.blk H164_ 3 rfl)), Holds.slrd H164_ 5 rfl, (Holds.ro_at H164_ 2 rfl)⟩, ?_⟩
 have hq167_ := And.intro ((And.intro (Holds.rdf H164_ 3 rfl) (Holds.blk H164_ 3 rfl))) (And.intro (Holds.slrd H164_ 5 rfl) ((Holds.ro_at H164_ 2 rfl)))
 refine A_tk 9 (v := (vP (some ⟨t7, 4, none⟩))) rfl (by kernel_rfl) (fun w hS => by kernel_rfl) hq167_ ?_
 refine A_ready (i := 10) (rs := []) (by kernel_rfl) ?_
 refine AllR.cons ?_ AllR.nil
 refine A_op0 (ls' := #[true, true, true, true, true, true, true, true, true, true, true]) rfl (by kernel_rfl) (T_store1 (v := v162_) rfl rfl z35 (Holds.sl_one H164_ 6 rfl) H164_ 4 rfl (Nat.le_of_ble_eq_true (by rfl)) ?_)
 intro w168_ S170_ H169_
 have S171_ := Same.trans S166_ S170_
 refine ⟨⟨(And.intro (Holds.rdf H169_ 3 rfl) (Holds.blk H169_ 3 rfl)), Holds.slrd H169_ 5 rfl, (Holds.ro_at H169_ 2 rfl)⟩, ?_⟩
 refine A_done (by kernel_rfl) ?_
 refine R_0 rfl ?_
 have H172_ := Holds.resl H169_ 5 rfl (by simp [SN.cells, List.flatMap_append] : (L.flatMap SN.cells) ++ [(Value.string ((ekSpan n.kb n.ke).in__Begin)), (Value.string ((ekSpan n.kb n.ke).in__End)), (vB ((ekSpan n.kb n.ke).in__Point)), (vI .i64 ((ekSpan n.kb n.ke).from_)), (vI .i64 ((ekSpan n.kb n.ke).till))] = (L ++ [ekSpan n.kb n.ke]).flatMap SN.cells) (by simp : (List.length L) + 1 = (List.length (L ++ [ekSpan n.kb n.ke])))
 have H173_ := Holds.resl H172_ 6 rfl (by simp : (V.map (vI .i64)) ++ [(vI .i64 val)] = (V ++ [val]).map (vI .i64)) (by simp : (List.length V) + 1 = (List.length (V ++ [val])))
 have H174_ := Holds.pkF H173_ [2, 2, 2, 2, 2] 2
 exact ⟨_, _, rfl, ⟨v127_, v162_, rfl, rfl⟩, S171_, H174_⟩
end Go.Proofs.Ytlnihndjepjagaa
set_option linter.unusedVariables false
set_option linter.unusedSimpArgs false
namespace Go.Proofs.Ytlnihndjepjagaa
open Go Go.RowKit Gw Try
open Go.Value renaming int → vI, bool → vB, slice → vS, pointer → vP, agg → vA, tuple → vT

structure TO where
  kind : Int
  in__In_Begin : ByteArray
  in__In_End : ByteArray
  in__In_Point : Bool
  in__From : Int
  in__Till : Int
  val : Int
  n : Int
  other : Value
  vals : Value
def TO.cells (x : TO) : List Value := [(vI .i64 x.kind), (Value.string x.in__In_Begin), (Value.string x.in__In_End), (vB x.in__In_Point), (vI .i64 x.in__From), (vI .i64 x.in__Till), (vI .i64 x.val), (vI .i64 x.n), x.other, x.vals]
theorem TO.len (x : TO) : x.cells.length = 10 := rfl

def goesOn (n : Int) (k : Nat) : Bool := decide (n ≤ 0) || decide ((k : Int) < n)


def spanOf (e : IE) : SN := ekSpan e.lo e.hi
def tvStep (n : Int) (s : List IE) (x : ND EK) : List IE × Bool := (s ++ [eOf x], goesOn n (s ++ [eOf x]).length)
theorem vOf_of {n : ND EK} {v : Int} (h : n.v = .iface 3 (.int .i64 v)) : vOf n = v := by unfold vOf; rw [h]
end Go.Proofs.Ytlnihndjepjagaa
set_option linter.unusedVariables false
set_option linter.unusedSimpArgs false
namespace Go.Proofs.Ytlnihndjepjagaa
open Go Go.RowKit Gw Try
open Go.Value renaming int → vI, bool → vB, slice → vS, pointer → vP, agg → vA, tuple → vT

/-! ### A state with a fact -/
def exP {α : Type} (p : α → Prop) (Q : α → List SP) : SP := fun h => ∃ a, p a ∧ Sat (Q a) h
theorem Tri.exP {P : Program} {f : FuncId} {args : Array Value} {R : HP} {α : Type} {A : SP} {p : α → Prop} {Q : α → List SP} {Qc Qc' : Value → List SP → Prop} (h : ∀ a, p a → Tri P f args R (A :: Q a) Qc)
    (hq : ∀ v q, Qc v q → ∃ A' L' X, q = A' :: L' ∧ (∀ g, Sat L' g → X g) ∧ Qc' v [A', X]) : Tri P f args R [A, Go.Proofs.Ytlnihndjepjagaa.exP p Q] Qc' := fun w F hh => by
  obtain ⟨h1, k1, s1, t1, d1, a1, h2, k2, s2, t2, d2, a2, h3, k3, s3, t3, d3, ⟨x, hx, a3⟩, r⟩ := hh
  have h0 : Holds w (ro R :: ((A :: Q x) ++ F)) := ⟨h1, k1, s1, t1, d1, a1, h2, k2, s2, t2, d2, a2, Sat.append.2 ⟨h3, k3, s3, t3, d3, a3, r⟩⟩
  refine (h x hx w F h0).mono fun e w' ⟨v, post, he, hv, s, k⟩ => ?_
  obtain ⟨A', L', X, rfl, hX, hq'⟩ := hq v post hv
  refine ⟨v, _, he, hq', s, ?_⟩
  refine Sat.cons_map (fun _ y => Sat.cons_map (fun g z => ?_) y) k
  obtain ⟨h4, k4, s4, t4, d4, a4, r4⟩ := Sat.append.1 z
  exact ⟨h4, k4, s4, t4, d4, hX _ a4, r4⟩
theorem Holds.exP_in {w : World} {α : Type} {p : α → Prop} {Q : α → List SP} {l : List SP} (a : α) (ha : p a) (h : Holds w (Q a ++ l)) : Holds w (Go.Proofs.Ytlnihndjepjagaa.exP p Q :: l) := by
  obtain ⟨h1, k, s, t, d, a1, r⟩ := Sat.append.1 h
  exact ⟨h1, k, s, t, d, ⟨a, ha, a1⟩, r⟩
theorem Holds.exP_out {w : World} {α : Type} {p : α → Prop} {Q : α → List SP} {l : List SP} (h : Holds w (Go.Proofs.Ytlnihndjepjagaa.exP p Q :: l)) : ∃ a, p a ∧ Holds w (Q a ++ l) := by
  obtain ⟨h1, k, s, t, d, ⟨a, ha, a1⟩, r⟩ := h
  exact ⟨a, ha, Sat.append.2 ⟨h1, k, s, t, d, a1, r⟩⟩
theorem insK_len {ord : Int} {z : IE} : ∀ M : List IE, (insK ord z M).length = M.length + 1
  | [] => rfl
  | x :: M => by
    rw [insK]
    split
    · rfl
    · rw [List.length_cons, insK_len M, List.length_cons]
def tuQ (cb t3 tb sb : Nat) (sc : List Value) (M : List IE) (W : Tr EK) : List SP :=
  [cl cb 279 [.func (.func 166) #[] #[pn t3]], cl t3 186 [pn tb], cl tb 188 [pn (rt sb W), .int .i64 (M.length : Int), pn sb], tr sb sb W, clf sb 185 sc]
def tuP (ord : Int) (R : HP) (cb t3 tb sb : Nat) (sc : List Value) (M : List IE) : SP := exP (fun W => TS ord R W M) (tuQ cb t3 tb sb sc M)
def tuStep (ord : Int) (M : List IE) (x : ND EK) : List IE × Bool := (insK ord (eOf x) M, true)


set_option maxHeartbeats 8000000 in
theorem tdUni (R : HP) (ord : Int) (t3 tb sb : Nat) (n : ND EK) (l r p : Nat) (it jt : TypeId) (ix jx : Value) (val cnt : Int) (sc : List Value) (W : Tr EK) (hb : (EO ord).Val R (Value.iface it ix) n.kb) (he : (EO ord).Val R (Value.iface jt jx) n.ke) (hW : TOk (EO ord) R W ∧ LocT (EO ord) W ∧ blackT W) (hs : srt (EO ord) (ino W)) (hcn : 0 ≤ cnt ∧ cnt ≤ 1000000000000) :
    Tri Try.prog 166 #[(vQ n.a), (vQ t3)] R [clf n.a 185 [((Value.iface it ix)), ((Value.iface jt jx)), (Value.iface 3 (vI .i64 val)), n.mx, (vQ l), (vQ r), (vQ p), (vI .i64 n.c)], cl t3 186 [(vQ tb)], cl tb 188 [(vQ (rt sb W)), (vI .i64 cnt), (vQ sb)], tr sb sb W, clf sb 185 sc] (fun v__ post__ => ∃ (W' : Tr EK) (L1 L2 : List (ND EK)) (z : ND EK), v__ = (vB true) ∧ post__ = [clf n.a 185 [((Value.iface it ix)), ((Value.iface jt jx)), (Value.iface 3 (vI .i64 val)), n.mx, (vQ l), (vQ r), (vQ p), (vI .i64 n.c)], cl t3 186 [(vQ tb)], cl tb 188 [(vQ (rt sb W')), (vI .i64 (cnt + 1)), (vQ sb)], tr sb sb W', clf sb 185 sc] ∧ (TOk (EO ord) R W' ∧ LocT (EO ord) W' ∧ blackT W') ∧ (ino W' = L1 ++ z.er :: L2) ∧ (ino W = L1 ++ L2) ∧ (z.b = (Value.iface it ix) ∧ z.e = (Value.iface jt jx) ∧ z.v = (Value.iface 3 (vI .i64 val)) ∧ z.kb = n.kb ∧ z.ke = n.ke) ∧ (srt (EO ord) (ino W')) ∧ (∀ x ∈ L1, ¬ bef (EO ord) n.kb n.ke x) ∧ (∀ y ∈ L2, bef (EO ord) n.kb n.ke y)) := by
 refine Tri.into (n := 14) (al := [(vQ n.a), (vQ t3)]) func166 rfl ntmps166 rfl rfl fun w F H => ?_
 refine cr fun _ hK1_ => ?_
 refine sv (v := (vB false)) (x_assign rfl) ?_
 refine wn (hK1_ _ _ ?_)
 refine C_seq (fun _ hK2_ => ?_)
 refine A_start (S := fun w => (Rd n.a [((Value.iface it ix)), ((Value.iface jt jx)), (Value.iface 3 (vI .i64 val)), n.mx, (vQ l), (vQ r), (vQ p), (vI .i64 n.c)] w ∧ Blk w n.a) ∧ Rd t3 [(vQ tb)] w ∧ Sub R (hp w)) (N := 10) foll rfl rfl ?_
 have H3_ := Holds.drew_ H
 have hq4_ := And.intro ((And.intro (Holds.rdf H3_ 1 rfl) (Holds.blk H3_ 1 rfl))) (And.intro (Holds.rd H3_ 2 rfl) ((Holds.ro_at H3_ 0 rfl)))
 refine A_tk 0 (v := (vQ tb)) rfl (by kernel_rfl) (fun w hS => x_load1 rfl underlying186 rfl (hS.2.1 0 (vQ tb) rfl)) hq4_ ?_
 refine A_tk 1 (v := (vQ n.a)) rfl (by kernel_rfl) (fun w hS => x_move rfl) hq4_ ?_
 refine A_tk 2 (v := (vQ n.a)) rfl (by kernel_rfl) (fun w hS => by kernel_rfl) hq4_ ?_
 refine A_tk 3 (v := (vQ n.a)) rfl (by kernel_rfl) (fun w hS => by kernel_rfl) hq4_ ?_
 refine A_tk 4 (v := (vA #[((Value.iface it ix)), ((Value.iface jt jx))])) rfl (by kernel_rfl) (fun w hS => x_loadN (vs := [((Value.iface it ix)), ((Value.iface jt jx))]) rfl underlying111 rfl z111 rfl (Rd.cells hS.1.1 0 rfl)) hq4_ ?_
 refine A_tk 5 (v := (vQ n.a)) rfl (by kernel_rfl) (fun w hS => x_move rfl) hq4_ ?_
 refine A_tk 6 (v := (vQ n.a)) rfl (by kernel_rfl) (fun w hS => by kernel_rfl) hq4_ ?_
 refine A_tk 7 (v := (vP (some ⟨n.a, 2, none⟩))) rfl (by kernel_rfl) (fun w hS => by kernel_rfl) hq4_ ?_
 refine A_tk 8 (v := (Value.iface 3 (vI .i64 val))) rfl (by kernel_rfl) (fun w hS => x_load1 rfl underlying20 rfl (hS.1.1 2 (Value.iface 3 (vI .i64 val)) rfl)) hq4_ ?_
 refine A_ready (i := 9) (rs := []) (by kernel_rfl) ?_
 refine AllR.cons ?_ AllR.nil
 have H17_ := ((Holds.bring (Holds.bring (Holds.bring (Holds.bring H3_ 5 rfl) 5 rfl) 5 rfl) 3 rfl) :)
 refine A_op (ls' := #[true, true, true, true, true, true, true, true, true, true]) rfl (by kernel_rfl) (T_call (al := [(vQ tb), (vA #[((Value.iface it ix)), ((Value.iface jt jx))]), ((Value.iface 3 (vI .i64 val)))]) (pre := [cl tb 188 [(vQ (rt sb W)), (vI .i64 cnt), (vQ sb)], tr sb sb W, clf sb 185 sc]) rfl (lcons rfl (lcons rfl (lcons (rfl : (Value.iface 3 (vI .i64 val)) = ((Value.iface 3 (vI .i64 val)))) rfl))) cb147 (itInsert R EK (EO ord) tb sb cnt sc W it jt 3 ix jx (vI .i64 val) n.kb n.ke (hW) (hb) (he) (hcn) (hs)) H17_ ?_)
 rintro v5_ p21_ w18_ ⟨W6_, L17_, L28_, z9_, rfl, rfl, he10_, he11_, he12_, he13_, he14_, he15_, he16_⟩ S20_ H19_
 have S22_ := Same.trans (Same.trans (Same.refl w) (Same.drew _)) S20_
 refine ⟨⟨(And.intro (Holds.rdf H19_ 4 rfl) (Holds.blk H19_ 4 rfl)), Holds.rd H19_ 5 rfl, (Holds.ro_at H19_ 0 rfl)⟩, ?_⟩
 refine A_done (by kernel_rfl) ?_
 refine (X_then (hK2_ _ _ ?_))
 refine cr fun _ hK23_ => ?_
 refine sv (v := (vB true)) (x_assign rfl) ?_
 refine wn (hK23_ _ _ ?_)
 refine C_ret ?_
 refine R_any (v := (vB true)) (run_results1 rfl rfl) ?_
 have H24_ := Holds.pkF H19_ [0, 3, 3, 0, 0, 0] 0
 exact ⟨_, _, rfl, ⟨W6_, L17_, L28_, z9_, rfl, rfl, (by first | assumption | omega | exact rfl), (by first | assumption | omega | exact rfl), (by first | assumption | omega | exact rfl), (by first | assumption | omega | exact rfl), (by first | assumption | omega | exact rfl), (by first | assumption | omega | exact rfl), (by first | assumption | omega | exact rfl)⟩, S22_, H24_⟩

set_option maxHeartbeats 8000000 in
theorem tdUniV (R : HP) (ord : Int) (cb t3 tb sb : Nat) (n : ND EK) (l r p : Nat) (it jt : TypeId) (ix jx : Value) (val cnt : Int) (sc : List Value) (W : Tr EK) (hb : (EO ord).Val R (Value.iface it ix) n.kb) (he : (EO ord).Val R (Value.iface jt jx) n.ke) (hW : TOk (EO ord) R W ∧ LocT (EO ord) W ∧ blackT W) (hs : srt (EO ord) (ino W)) (hcn : 0 ≤ cnt ∧ cnt ≤ 1000000000000) :
    Tri Try.prog 168 #[(vQ n.a), (vQ cb)] R [clf n.a 185 [((Value.iface it ix)), ((Value.iface jt jx)), (Value.iface 3 (vI .i64 val)), n.mx, (vQ l), (vQ r), (vQ p), (vI .i64 n.c)], cl cb 279 [(Value.func (.func 166) #[] #[(vQ t3)])], cl t3 186 [(vQ tb)], cl tb 188 [(vQ (rt sb W)), (vI .i64 cnt), (vQ sb)], tr sb sb W, clf sb 185 sc] (fun v__ post__ => ∃ (W' : Tr EK) (L1 L2 : List (ND EK)) (z : ND EK), v__ = (vB true) ∧ post__ = [clf n.a 185 [((Value.iface it ix)), ((Value.iface jt jx)), (Value.iface 3 (vI .i64 val)), n.mx, (vQ l), (vQ r), (vQ p), (vI .i64 n.c)], cl cb 279 [(Value.func (.func 166) #[] #[(vQ t3)])], cl t3 186 [(vQ tb)], cl tb 188 [(vQ (rt sb W')), (vI .i64 (cnt + 1)), (vQ sb)], tr sb sb W', clf sb 185 sc] ∧ (TOk (EO ord) R W' ∧ LocT (EO ord) W' ∧ blackT W') ∧ (ino W' = L1 ++ z.er :: L2) ∧ (ino W = L1 ++ L2) ∧ (z.b = (Value.iface it ix) ∧ z.e = (Value.iface jt jx) ∧ z.v = (Value.iface 3 (vI .i64 val)) ∧ z.kb = n.kb ∧ z.ke = n.ke) ∧ (srt (EO ord) (ino W')) ∧ (∀ x ∈ L1, ¬ bef (EO ord) n.kb n.ke x) ∧ (∀ y ∈ L2, bef (EO ord) n.kb n.ke y)) := by
 refine Tri.into (n := 9) (al := [(vQ n.a), (vQ cb)]) func168 rfl ntmps168 rfl rfl fun w F H => ?_
 refine cr fun _ hK1_ => ?_
 refine sv (v := (vB false)) (x_assign rfl) ?_
 refine wn (hK1_ _ _ ?_)
 refine C_seq (fun _ hK2_ => ?_)
 refine A_start (S := fun w => (Rd n.a [((Value.iface it ix)), ((Value.iface jt jx)), (Value.iface 3 (vI .i64 val)), n.mx, (vQ l), (vQ r), (vQ p), (vI .i64 n.c)] w ∧ Blk w n.a) ∧ Rd cb [(Value.func (.func 166) #[] #[(vQ t3)])] w ∧ Rd t3 [(vQ tb)] w ∧ Sub R (hp w)) (N := 6) foll rfl rfl ?_
 have H3_ := Holds.drew_ H
 have hq4_ := And.intro ((And.intro (Holds.rdf H3_ 1 rfl) (Holds.blk H3_ 1 rfl))) (And.intro (Holds.rd H3_ 2 rfl) (And.intro (Holds.rd H3_ 3 rfl) ((Holds.ro_at H3_ 0 rfl))))
 refine A_tk 0 (v := (Value.func (.func 166) #[] #[(vQ t3)])) rfl (by kernel_rfl) (fun w hS => x_load1 rfl underlying279 rfl (hS.2.1 0 (Value.func (.func 166) #[] #[(vQ t3)]) rfl)) hq4_ ?_
 refine A_tk 1 (v := (vQ n.a)) rfl (by kernel_rfl) (fun w hS => x_move rfl) hq4_ ?_
 refine A_tk 2 (v := (vQ n.a)) rfl (by kernel_rfl) (fun w hS => by kernel_rfl) hq4_ ?_
 refine A_tk 3 (v := (vQ n.a)) rfl (by kernel_rfl) (fun w hS => by kernel_rfl) hq4_ ?_
 refine A_ready (i := 4) (rs := []) (by kernel_rfl) ?_
 refine AllR.cons ?_ AllR.nil
 have H17_ := ((Holds.bring (Holds.bring (Holds.bring (Holds.bring (Holds.bring (Holds.bring H3_ 6 rfl) 6 rfl) 6 rfl) 6 rfl) 5 rfl) 5 rfl) :)
 refine A_op (ls' := #[true, true, true, true, true, false]) rfl (by kernel_rfl) (T_call (al := [(vQ n.a), (vQ t3)]) (pre := [clf n.a 185 [((Value.iface it ix)), ((Value.iface jt jx)), (Value.iface 3 (vI .i64 val)), n.mx, (vQ l), (vQ r), (vQ p), (vI .i64 n.c)], cl t3 186 [(vQ tb)], cl tb 188 [(vQ (rt sb W)), (vI .i64 cnt), (vQ sb)], tr sb sb W, clf sb 185 sc]) rfl rfl cb166 (tdUni R ord t3 tb sb n l r p it jt ix jx val cnt sc W (by first | assumption | omega) (by first | assumption | omega) (by first | assumption | omega) (by first | assumption | omega) (by first | assumption | omega)) H17_ ?_)
 rintro v5_ p21_ w18_ ⟨W6_, L17_, L28_, z9_, rfl, rfl, he10_, he11_, he12_, he13_, he14_, he15_, he16_⟩ S20_ H19_
 have S22_ := Same.trans (Same.trans (Same.refl w) (Same.drew _)) S20_
 refine ⟨⟨(And.intro (Holds.rdf H19_ 1 rfl) (Holds.blk H19_ 1 rfl)), Holds.rd H19_ 6 rfl, Holds.rd H19_ 2 rfl, (Holds.ro_at H19_ 0 rfl)⟩, ?_⟩
 have hq23_ := And.intro ((And.intro (Holds.rdf H19_ 1 rfl) (Holds.blk H19_ 1 rfl))) (And.intro (Holds.rd H19_ 6 rfl) (And.intro (Holds.rd H19_ 2 rfl) ((Holds.ro_at H19_ 0 rfl))))
 refine A_tk 5 (v := (vB true)) rfl (by kernel_rfl) (fun w hS => x_assign rfl) hq23_ ?_
 refine A_done (by kernel_rfl) ?_
 refine (X_then (hK2_ _ _ ?_))
 refine C_ret ?_
 refine R_any (v := (vB true)) (run_results1 rfl rfl) ?_
 have H24_ := Holds.pkF H19_ [0, 0, 4, 0, 0, 0, 0] 0
 exact ⟨_, _, rfl, ⟨W6_, L17_, L28_, z9_, rfl, rfl, (by first | assumption | omega | exact rfl), (by first | assumption | omega | exact rfl), (by first | assumption | omega | exact rfl), (by first | assumption | omega | exact rfl), (by first | assumption | omega | exact rfl), (by first | assumption | omega | exact rfl), (by first | assumption | omega | exact rfl)⟩, S22_, H24_⟩

theorem tdUStep (R R_ : HP) (ord : Int) (cb t3 tb sb : Nat) (sc : List Value) (N : Nat) (hN : N ≤ 100000000000) (M : List IE) (n : ND EK) (l r p : Nat) (hn : NOk (EO ord) R n) (hv : VInt n) (hs : M.length < N) (hR : R = R_) :
    Tri Try.prog 168 #[pn n.a, pn cb] R [clf n.a 185 (n.cells l r p), vp (tuP ord R_ cb t3 tb sb sc) M] fun v post =>
      v = .bool (tuStep ord M n).2 ∧ post = [clf n.a 185 (n.cells l r p), vp (tuP ord R_ cb t3 tb sb sc) (tuStep ord M n).1] ∧ True := by
  subst hR
  obtain ⟨v, hv⟩ := hv
  obtain ⟨it, ix, _, eb, _⟩ := (EO ord).cmp hn.b hn.b
  obtain ⟨jt, jx, _, ee, _⟩ := (EO ord).cmp hn.e hn.e
  refine Tri.exP (p := fun W => TS ord R W M) (Q := tuQ cb t3 tb sb sc M) (fun W hW => ?_) (fun v q h => h)
  have hc : n.cells l r p = [.iface it ix, .iface jt jx, .iface 3 (.int .i64 v), n.mx, pn l, pn r, pn p, .int .i64 n.c] := by
    unfold ND.cells
    rw [hv, eb, ee]
  have he : eOf n = ⟨n.kb, n.ke, v⟩ := by
    unfold eOf
    rw [vOf_of hv]
  have hb' := hn.b
  have he' := hn.e
  rw [eb] at hb'
  rw [ee] at he'
  have ht := tdUniV R ord cb t3 tb sb n l r p it jt ix jx v (M.length : Int) sc W hb' he' hW.ok hW.s ⟨by omega, by omega⟩
  rw [hc]
  refine ht.mono fun w post h => ?_
  obtain ⟨W', L1, L2, z, rfl, rfl, h1, h2, h3, h4, h5, h6, h7⟩ := h
  refine ⟨_, _, tuP ord R cb t3 tb sb sc (tuStep ord M n).1, rfl, fun g hg => ⟨W', ?_, ?_⟩, rfl, rfl, trivial⟩
  · show TS ord R W' (insK ord (eOf n) M)
    rw [he]
    exact hW.ins h1 h2 h3 h4 h5 h6 h7
  · have e1 : ((insK ord (eOf n) M).length : Int) = (M.length : Int) + 1 := by rw [insK_len]; rfl
    show Sat (tuQ cb t3 tb sb sc (insK ord (eOf n) M) W') g
    unfold tuQ
    rw [e1]
    exact hg

end Go.Proofs.Ytlnihndjepjagaa
set_option linter.unusedVariables false
set_option linter.unusedSimpArgs false
namespace Go.Proofs.Ytlnihndjepjagaa
open Go Go.RowKit Gw Try
open Go.Value renaming int → vI, bool → vB, slice → vS, pointer → vP, agg → vA, tuple → vT

end Go.Proofs.Ytlnihndjepjagaa
set_option linter.unusedVariables false
set_option linter.unusedSimpArgs false
namespace Go.Proofs.Ytlnihndjepjagaa
open Go Go.RowKit Gw Try
open Go.Value renaming int → vI, bool → vB, slice → vS, pointer → vP, agg → vA, tuple → vT

set_option maxHeartbeats 8000000 in
theorem tdVisitU (R : HP) (ord : Int) (tb sb ub sbu : Nat) (cu : Int) (sc scu : List Value) (W U : Tr EK) (M : List IE) (it jt : TypeId) (ix jx : Value) (kb ke : EK) (t3 : Nat) (hU : TOk (EO ord) R U) (hb : (EO ord).Val R (Value.iface it ix) kb) (he : (EO ord).Val R (Value.iface jt jx) ke) (hQ : TAll VInt U) (hM : TS ord R W M) (hN : M.length + (ino U).length ≤ 100000000000) :
    Tri Try.prog 153 #[(vQ ub), (vA #[((Value.iface it ix)), ((Value.iface jt jx))]), (Value.func (.func 166) #[] #[(vQ t3)])] R [cl ub 188 [(vQ (rt sbu U)), (vI .i64 cu), (vQ sbu)], tr sbu sbu U, clf sbu 185 scu, cl t3 186 [(vQ tb)], cl tb 188 [(vQ (rt sb W)), (vI .i64 (List.length M : Int)), (vQ sb)], tr sb sb W, clf sb 185 sc] (fun v__ post__ => ∃ (W2 : Tr EK), v__ = (vT #[]) ∧ post__ = [cl ub 188 [(vQ (rt sbu U)), (vI .i64 cu), (vQ sbu)], tr sbu sbu U, clf sbu 185 scu, cl t3 186 [(vQ tb)], cl tb 188 [(vQ (rt sb W2)), (vI .i64 (List.length ((vis (EO ord) (tuStep ord) kb ke U M).1) : Int)), (vQ sb)], tr sb sb W2, clf sb 185 sc] ∧ (TS ord R W2 (vis (EO ord) (tuStep ord) kb ke U M).1)) := by
 refine Tri.into (n := 16) (al := [(vQ ub), (vA #[((Value.iface it ix)), ((Value.iface jt jx))]), (Value.func (.func 166) #[] #[(vQ t3)])]) func153 rfl ntmps153 rfl rfl fun w F H => ?_
 refine cr fun _ hK1_ => ?_
 refine S_list (T_box (v := (vA #[((Value.iface it ix)), ((Value.iface jt jx))])) rfl H ?_)
 intro b2_ w3_ S5_ H4_
 have S6_ := Same.trans (Same.refl w) S5_
 refine S_list (T_box (v := (Value.func (.func 166) #[] #[(vQ t3)])) rfl H4_ ?_)
 intro b7_ w8_ S10_ H9_
 have S11_ := Same.trans S6_ S10_
 refine wn (hK1_ _ _ ?_)
 refine A_start (S := fun w => Rd b7_ [(Value.func (.func 166) #[] #[(vQ t3)])] w ∧ Rd b2_ [((Value.iface it ix)), ((Value.iface jt jx))] w ∧ Rd ub [(vQ (rt sbu U)), (vI .i64 cu), (vQ sbu)] w ∧ RtRd w (rt sbu U) (rmx U) ∧ Rd t3 [(vQ tb)] w ∧ Sub R (hp w)) (N := 10) foll rfl rfl ?_
 have H12_ := Holds.drew_ H9_
 have hq13_ := And.intro (Holds.rd H12_ 0 rfl) (And.intro (Holds.rd H12_ 1 rfl) (And.intro (Holds.rd H12_ 3 rfl) (And.intro (Holds.tr_rd H12_ 4 rfl 5 rfl) (And.intro (Holds.rd H12_ 6 rfl) ((Holds.ro_at H12_ 2 rfl))))))
 refine A_tk 0 (v := (vQ ub)) rfl (by kernel_rfl) (fun w hS => x_move rfl) hq13_ ?_
 refine A_tk 1 (v := (vQ ub)) rfl (by kernel_rfl) (fun w hS => by kernel_rfl) hq13_ ?_
 refine A_tk 2 (v := (vQ ub)) rfl (by kernel_rfl) (fun w hS => by kernel_rfl) hq13_ ?_
 refine A_tk 3 (v := (vQ (rt sbu U))) rfl (by kernel_rfl) (fun w hS => x_load1 rfl underlying182 rfl (hS.2.2.1 0 (vQ (rt sbu U)) rfl)) hq13_ ?_
 refine A_tk 4 (v := (vQ ub)) rfl (by kernel_rfl) (fun w hS => x_move rfl) hq13_ ?_
 refine A_tk 5 (v := (vQ ub)) rfl (by kernel_rfl) (fun w hS => by kernel_rfl) hq13_ ?_
 refine A_tk 6 (v := (vP (some ⟨ub, 2, none⟩))) rfl (by kernel_rfl) (fun w hS => by kernel_rfl) hq13_ ?_
 refine A_tk 7 (v := (vQ sbu)) rfl (by kernel_rfl) (fun w hS => x_load1 rfl underlying182 rfl (hS.2.2.1 2 (vQ sbu) rfl)) hq13_ ?_
 refine A_tk 8 (v := (Value.func (.func 168) #[] #[(vQ b7_)])) rfl (by kernel_rfl) (fun w hS => by kernel_rfl) hq13_ ?_
 refine A_ready (i := 9) (rs := []) (by kernel_rfl) ?_
 refine AllR.cons ?_ AllR.nil
 have H14_ := ((Holds.bring (Holds.bring (Holds.bring (Holds.bring (Holds.bring H12_ 9 rfl) 9 rfl) 9 rfl) 9 rfl) 4 rfl) :)
 have H15_ : Holds w8_.drew (vp (tuP ord R b7_ t3 tb sb sc) M :: cl b2_ 111 [((Value.iface it ix)), ((Value.iface jt jx))] :: ro R :: cl ub 188 [(vQ (rt sbu U)), (vI .i64 cu), (vQ sbu)] :: tr sbu sbu U :: clf sbu 185 scu :: F) := Holds.exP_in (p := fun W => TS ord R W M) (Q := tuQ b7_ t3 tb sb sc M) W hM H14_
 have H18_ := ((Holds.bring (Holds.bring (Holds.bring (Holds.bring H15_ 1 rfl) 5 rfl) 5 rfl) 4 rfl) :)
 refine A_op (ls' := #[true, true, true, true, true, true, true, true, true, true]) rfl (by kernel_rfl) (T_call (al := [(vQ (rt sbu U)), (vQ b2_), (vQ sbu), (Value.func (.func 168) #[] #[(vQ b7_)])]) (pre := [tr sbu sbu U, clf sbu 185 scu, cl b2_ 111 [((Value.iface it ix)), ((Value.iface jt jx))], vp (tuP ord R b7_ t3 tb sb sc) M]) rfl rfl cb167 (itVisit R EK (EO ord) R (List IE) (tuP ord R b7_ t3 tb sb sc) (fun _ _ => True) (tuStep ord) VInt List.length (M.length + (ino U).length) scu b2_ b7_ sbu sbu U M (Value.iface it ix) (Value.iface jt jx) kb ke (hU) (hb) (he) (trivial) (rfl) (hQ) ((fun s n => by show (insK ord (eOf n) s).length ≤ _; rw [insK_len]; exact Nat.le_refl _)) (Nat.le_refl _) ((fun R2 s n l r p _ hn hq hs hR2 => tdUStep R2 R ord b7_ t3 tb sb sc (M.length + (ino U).length) hN s n l r p hn hq hs hR2))) H18_ ?_)
 rintro v16_ p22_ w19_ ⟨rfl, rfl, he17_⟩ S21_ H20_
 have S23_ := Same.trans (Same.trans S11_ (Same.drew _)) S21_
 have H24_ := ((Holds.bring H20_ 4 rfl) :)
 obtain ⟨W25_, hW26_, H27_⟩ := Holds.exP_out H24_
 have H28_ : Holds w19_ (cl b7_ 279 [(Value.func (.func 166) #[] #[(vQ t3)])] :: cl t3 186 [(vQ tb)] :: cl tb 188 [(vQ (rt sb W25_)), (vI .i64 (List.length ((vis (EO ord) (tuStep ord) kb ke U M).1) : Int)), (vQ sb)] :: tr sb sb W25_ :: clf sb 185 sc :: ro R :: tr sbu sbu U :: clf sbu 185 scu :: cl b2_ 111 [((Value.iface it ix)), ((Value.iface jt jx))] :: cl ub 188 [(vQ (rt sbu U)), (vI .i64 cu), (vQ sbu)] :: F) := H27_
 refine ⟨⟨Holds.rd H28_ 0 rfl, Holds.rd H28_ 8 rfl, Holds.rd H28_ 9 rfl, Holds.tr_rd H28_ 6 rfl 7 rfl, Holds.rd H28_ 1 rfl, (Holds.ro_at H28_ 5 rfl)⟩, ?_⟩
 refine A_done (by kernel_rfl) ?_
 refine R_0 rfl ?_
 have H29_ := Holds.pkF H28_ [5, 8, 5, 5, 1, 1, 1, 1] 2
 exact ⟨_, _, rfl, ⟨W25_, rfl, rfl, (hW26_)⟩, S23_, H29_⟩

set_option maxHeartbeats 8000000 in
theorem tdUnion (R : HP) (ord : Int) (tb sb ub sbu : Nat) (cu : Int) (sc scu : List Value) (W U : Tr EK) (M : List IE) (it jt : TypeId) (ix jx : Value) (kb ke : EK) (hU : TOk (EO ord) R U) (hb : (EO ord).Val R (Value.iface it ix) kb) (he : (EO ord).Val R (Value.iface jt jx) ke) (hQ : TAll VInt U) (hM : TS ord R W M) (hN : M.length + (ino U).length ≤ 100000000000) :
    Tri Try.prog 152 #[(vQ tb), (Value.iface 186 (vQ ub)), (vA #[((Value.iface it ix)), ((Value.iface jt jx))])] R [cl ub 188 [(vQ (rt sbu U)), (vI .i64 cu), (vQ sbu)], tr sbu sbu U, clf sbu 185 scu, cl tb 188 [(vQ (rt sb W)), (vI .i64 (List.length M : Int)), (vQ sb)], tr sb sb W, clf sb 185 sc] (fun v__ post__ => ∃ (W2 : Tr EK), v__ = (vT #[]) ∧ post__ = [cl ub 188 [(vQ (rt sbu U)), (vI .i64 cu), (vQ sbu)], tr sbu sbu U, clf sbu 185 scu, cl tb 188 [(vQ (rt sb W2)), (vI .i64 (List.length ((vis (EO ord) (tuStep ord) kb ke U M).1) : Int)), (vQ sb)], tr sb sb W2, clf sb 185 sc] ∧ (TS ord R W2 (vis (EO ord) (tuStep ord) kb ke U M).1)) := by
 refine Tri.into (n := 12) (al := [(vQ tb), (Value.iface 186 (vQ ub)), (vA #[((Value.iface it ix)), ((Value.iface jt jx))])]) func152 rfl ntmps152 rfl rfl fun w F H => ?_
 refine cr fun _ hK1_ => ?_
 refine S_list (T_box (v := (vQ tb)) rfl H ?_)
 intro b2_ w3_ S5_ H4_
 have S6_ := Same.trans (Same.refl w) S5_
 refine S_list (T_box (v := (vA #[((Value.iface it ix)), ((Value.iface jt jx))])) rfl H4_ ?_)
 intro b7_ w8_ S10_ H9_
 have S11_ := Same.trans S6_ S10_
 refine wn (hK1_ _ _ ?_)
 refine cr fun _ hK12_ => ?_
 refine sv (v := (Value.func (.func 166) #[] #[(vQ b2_)])) (by kernel_rfl) ?_
 refine sv (v := (Value.func (.func 166) #[] #[(vQ b2_)])) (x_assign rfl) ?_
 refine wn (hK12_ _ _ ?_)
 refine C_reg ?_
 refine sm (Value.iface 186 (vQ ub)) ?_
 refine sv (v := (vA #[((Value.iface it ix)), ((Value.iface jt jx))])) (x_loadN (vs := [((Value.iface it ix)), ((Value.iface jt jx))]) rfl underlying111 rfl z111 rfl (Rd.cells (Holds.rd H9_ 0 rfl) 0 rfl)) ?_
 refine sm (Value.func (.func 166) #[] #[(vQ b2_)]) ?_
 have H16_ := ((Holds.bring (Holds.bring (Holds.bring (Holds.bring (Holds.bring (Holds.bring (Holds.bring (Holds.bring H9_ 8 rfl) 8 rfl) 8 rfl) 4 rfl) 8 rfl) 8 rfl) 8 rfl) 8 rfl) :)
 refine S_list (T_invoke (al := [(vQ ub), (vA #[((Value.iface it ix)), ((Value.iface jt jx))]), (Value.func (.func 166) #[] #[(vQ b2_)])]) (pre := [cl ub 188 [(vQ (rt sbu U)), (vI .i64 cu), (vQ sbu)], tr sbu sbu U, clf sbu 185 scu, cl b2_ 186 [(vQ tb)], cl tb 188 [(vQ (rt sb W)), (vI .i64 (List.length M : Int)), (vQ sb)], tr sb sb W, clf sb 185 sc]) rfl (fun w => by kernel_rfl) rfl cb153 (tdVisitU R ord tb sb ub sbu cu sc scu W U M it jt ix jx kb ke b2_ (hU) (hb) (he) (hQ) (hM) (hN)) H16_ ?_)
 rintro v13_ p20_ w17_ ⟨W214_, rfl, rfl, he15_⟩ S19_ H18_
 have S21_ := Same.trans S11_ S19_
 refine wpList_nil ?_
 refine R_0 rfl ?_
 have H22_ := Holds.pkF H18_ [0, 0, 0, 0, 1, 1, 1] 2
 exact ⟨_, _, rfl, ⟨W214_, rfl, rfl, (by first | assumption | omega | exact rfl)⟩, S21_, H22_⟩

set_option maxHeartbeats 1600000 in
theorem tdLen (R : HP) (tb sb : Nat) (cnt : Int) (q : Nat) :
    Tri Try.prog 149 #[(vQ tb)] R [cl tb 188 [(vQ q), (vI .i64 cnt), (vQ sb)]] (fun v__ post__ => v__ = (vI .i64 cnt) ∧ post__ = [cl tb 188 [(vQ q), (vI .i64 cnt), (vQ sb)]]) := by
 refine Tri.into (n := 7) (al := [(vQ tb)]) func149 rfl ntmps149 rfl rfl fun w F H => ?_
 refine cr fun _ hK1_ => ?_
 refine sv (v := (vI .i64 0)) (x_assign rfl) ?_
 refine wn (hK1_ _ _ ?_)
 refine cr fun _ hK2_ => ?_
 refine sm (vQ tb) ?_
 refine sv (v := (vQ tb)) (by kernel_rfl) ?_
 refine sv (v := (vP (some ⟨tb, 1, none⟩))) (by kernel_rfl) ?_
 refine sv (v := (vI .i64 cnt)) (x_load1 rfl underlying3 rfl ((Holds.rd H 1 rfl) 1 (vI .i64 cnt) rfl)) ?_
 refine sv (v := (vI .i64 cnt)) (x_assign rfl) ?_
 refine wn (hK2_ _ _ ?_)
 refine C_ret ?_
 refine R_any (v := (vI .i64 cnt)) (run_results1 rfl rfl) ?_
 exact ⟨_, _, rfl, ⟨rfl, rfl⟩, (Same.refl w), H⟩
end Go.Proofs.Ytlnihndjepjagaa
