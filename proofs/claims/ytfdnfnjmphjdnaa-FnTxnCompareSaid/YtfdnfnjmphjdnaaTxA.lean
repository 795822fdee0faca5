/- What the functions over compares come to: the small ones. -/
import Derived.Test.YtfdnfnjmphjdnaaGwK
import Derived.Test.YtfdnfnjmphjdnaaTy
set_option linter.unusedVariables false
set_option linter.unusedSimpArgs false
namespace Go.Proofs.Ytfdnfnjmphjdnaa
open Go Go.RowKit Gw
/-- -1, 0, 1: less, equal, greater. -/
def ordI (x y : Int) : Int := if x < y then -1 else if y < x then 1 else 0
theorem less_cmp : ∀ a b : List UInt8, Op.bytesLess a b = decide (Lib.compareBytes a b = -1)
  | [], [] => rfl
  | [], _ :: _ => rfl
  | _ :: _, [] => by simp [Op.bytesLess, Lib.compareBytes]
  | a :: x, b :: y => by
    simp only [Op.bytesLess, Lib.compareBytes, less_cmp x y]
    by_cases h : a < b
    · simp [h]
    · by_cases h2 : b < a
      · have : ¬ a = b := fun e => by subst e; exact h h2
        simp [h, h2, this]
      · have : a = b := UInt8.le_antisymm (UInt8.not_lt.1 h2) (UInt8.not_lt.1 h)
        simp [h, h2, this]
theorem eq_cmp : ∀ a b : List UInt8, (a == b) = decide (Lib.compareBytes a b = 0)
  | [], [] => rfl
  | [], _ :: _ => rfl
  | _ :: _, [] => rfl
  | a :: x, b :: y => by
    simp only [Lib.compareBytes, List.cons_beq_cons, eq_cmp x y]
    by_cases h : a < b
    · have : (a == b) = false := by simpa using fun e : a = b => by subst e; exact UInt8.lt_irrefl _ h
      simp [h, this]
    · by_cases h2 : b < a
      · have : (a == b) = false := by simpa using fun e : a = b => by subst e; exact h h2
        simp [h, h2, this]
      · have : a = b := UInt8.le_antisymm (UInt8.not_lt.1 h2) (UInt8.not_lt.1 h)
        simp [h, h2, this]
theorem cmp_three : ∀ a b : List UInt8, Lib.compareBytes a b = -1 ∨ Lib.compareBytes a b = 0 ∨ Lib.compareBytes a b = 1
  | [], [] => .inr (.inl rfl)
  | [], _ :: _ => .inl rfl
  | _ :: _, [] => .inr (.inr rfl)
  | a :: x, b :: y => by
    simp only [Lib.compareBytes]
    split
    · exact .inl rfl
    · split
      · exact .inr (.inr rfl)
      · exact cmp_three x y
theorem txt_ord (x y : ByteArray) (o : Int) (h : (Op.bytesLess x.toList y.toList = true ∧ o = -1) ∨ (Op.bytesLess x.toList y.toList = false ∧ (!(Op.bytesLess x.toList y.toList || x.toList == y.toList)) = true ∧ o = 1) ∨
    (Op.bytesLess x.toList y.toList = false ∧ (!(Op.bytesLess x.toList y.toList || x.toList == y.toList)) = false ∧ o = 0)) : o = Lib.compareBytes x.data.toList y.data.toList := by
  rw [toList_data, toList_data, less_cmp, eq_cmp] at h
  rcases cmp_three x.data.toList y.data.toList with e | e | e <;> rw [e] at h ⊢ <;> simp at h <;> exact h

set_option maxHeartbeats 400000 in
theorem ordSmall (R : HP) (x : Int) (h0 : 0 ≤ x) (h1 : x ≤ 10) :
    Tri Try.prog 61 #[(Value.int .i64 x)] R [] (fun v post => v = .int .i32 x ∧ post = []) := by
  refine Tri.into (n := 11) (al := [(Value.int .i64 x)]) Try.func61 rfl Try.ntmps61 rfl rfl fun w F H => ?_
  replace H : Holds w (ro R :: F) := H
  refine C_seq (fun K1_ hK1_ => ?_)
  refine C_reg ?_
  refine S_list (T_val (v := (Value.int .i32 0)) (x_assign rfl) ?_)
  refine wpList_nil ?_
  refine (X_then (hK1_ _ _ ?_))
  clear hK1_
  refine C_seq (fun K2_ hK2_ => ?_)
  refine C_seq (fun K3_ hK3_ => ?_)
  refine C_reg ?_
  refine S_list (T_val (v := (Value.int .i64 x)) (x_move rfl) ?_)
  refine S_list (T_val (v := (Value.bool (decide (x < -2147483648)))) (x_bin rfl rfl rfl) ?_)
  refine S_list (T_val (v := (Value.bool (decide (x < -2147483648)))) (x_move rfl) ?_)
  rcases Bool.eq_false_or_eq_true (decide (x < -2147483648)) with c4_t | c4_f
  · have c4_tp : x < -2147483648 := of_decide_eq_true c4_t
    omega
  · have c4_fp : ¬ (x < -2147483648) := of_decide_eq_false c4_f
    refine S_yes (j := 2) (dj := 5) (b := false) rfl rfl (congrArg Value.bool c4_f) (T_val (v := (Value.int .i64 x)) (x_move rfl) ?_)
    refine S_yes (j := 2) (dj := 5) (b := false) rfl rfl (congrArg Value.bool c4_f) (T_val (v := (Value.bool (decide (2147483647 < x)))) (x_bin rfl rfl rfl) ?_)
    refine S_list (T_pickF (v := (Value.bool (decide (2147483647 < x)))) (congrArg Value.bool c4_f) rfl ?_)
    refine wpList_nil ?_
    refine (X_then (hK3_ _ _ ?_))
    clear hK3_
    refine C_cond (b := decide (2147483647 < x)) rfl (fun c5_t => ?_) (fun c5_f => ?_)
    · have c5_tp : 2147483647 < x := of_decide_eq_true c5_t
      omega
    · have c5_fp : ¬ (2147483647 < x) := of_decide_eq_false c5_f
      refine C_skip (X_then (hK2_ _ _ ?_))
      clear hK2_
      refine C_seq (fun K6_ hK6_ => ?_)
      refine C_reg ?_
      refine S_list (T_val (v := (Value.int .i64 x)) (x_move rfl) ?_)
      refine S_list (T_val (v := (Value.int .i32 x)) (x_convI rfl Try.underlying3 Try.underlying21 (IntWalk.i32_in _ (by omega))) ?_)
      refine S_list (T_val (v := (Value.int .i32 x)) (x_assign rfl) ?_)
      refine wpList_nil ?_
      refine (X_then (hK6_ _ _ ?_))
      clear hK6_
      refine C_ret ?_
      refine R_any (v := (Value.int .i32 x)) (run_results1 rfl rfl) ?_
      exact ⟨_, [], rfl, ⟨rfl, rfl⟩, (Same.refl w), H⟩

set_option maxHeartbeats 400000 in
theorem bytesOfC (R : HP) (e : ByteArray) :
    Tri Try.prog 62 #[(Value.string e)] R [] (fun v post => post = [sl 5 1 v e.size (bytesV (ints e))]) := by
  refine Tri.into (n := 7) (al := [(Value.string e)]) Try.func62 rfl Try.ntmps62 rfl rfl fun w F H => ?_
  replace H : Holds w (ro R :: F) := H
  refine C_seq (fun K1_ hK1_ => ?_)
  refine C_reg ?_
  refine S_list (T_val (v := (Value.slice none 0 0)) (x_assign rfl) ?_)
  refine wpList_nil ?_
  refine (X_then (hK1_ _ _ ?_))
  clear hK1_
  refine C_seq (fun K2_ hK2_ => ?_)
  refine C_seq (fun K3_ hK3_ => ?_)
  refine C_reg ?_
  refine S_list (T_val (v := (Value.string e)) (x_move rfl) ?_)
  refine S_list (T_val (v := (Value.bool (e.toList == (ByteArray.mk #[]).toList))) (x_str rfl rfl rfl (by decide)) ?_)
  refine wpList_nil ?_
  refine (X_then (hK3_ _ _ ?_))
  clear hK3_
  refine C_cond (b := e.toList == (ByteArray.mk #[]).toList) rfl (fun c4_t => ?_) (fun c4_f => ?_)
  · skip
    refine C_seq (fun K5_ hK5_ => ?_)
    refine C_reg ?_
    refine S_list (T_val (v := (Value.slice none 0 0)) (x_assign rfl) ?_)
    refine wpList_nil ?_
    refine (X_then (hK5_ _ _ ?_))
    clear hK5_
    refine C_ret (X_thenR ?_)
    refine R_any (v := (Value.slice none 0 0)) (run_results1 rfl rfl) ?_
    obtain rfl := empty_of c4_t
    have H6_ : Holds w (sl 5 1 (.slice none 0 0) (ByteArray.mk #[]).size (bytesV (ints (ByteArray.mk #[]))) :: ro R :: F) := Holds.add_nil H 5 1
    have H7_ : Holds w (ro R :: sl 5 1 (.slice none 0 0) ((ByteArray.mk #[]).size) (bytesV (ints (ByteArray.mk #[]))) :: F) := (Holds.bring (Holds.bring H6_ 0 rfl) 1 rfl)
    exact ⟨_, [sl 5 1 (.slice none 0 0) ((ByteArray.mk #[]).size) (bytesV (ints (ByteArray.mk #[])))], rfl, rfl, (Same.refl w), H7_⟩
  · skip
    refine C_skip (X_then (hK2_ _ _ ?_))
    clear hK2_
    refine C_seq (fun K8_ hK8_ => ?_)
    refine C_reg ?_
    refine S_list (T_val (v := (Value.string e)) (x_move rfl) ?_)
    refine S_list (T_s2b rfl Try.underlying9 Try.underlying25 Try.underlying5 H ?_)
    intro b9_ cp10_ w11_ S13_ hc14_ H12_
    have S15_ := Same.trans (Same.refl w) S13_
    have H16_ : Holds w11_ (sl 5 1 (Value.slice (some ⟨b9_, 0, none⟩) e.size cp10_) e.size (bytesV (ints e)) :: ro R :: F) := cast2 (P := fun (c__ : List Value) (k__ : Nat) => Holds w11_ (sl 5 1 (Value.slice (some ⟨b9_, 0, none⟩) e.size cp10_) k__ c__ :: ro R :: F)) (byteCells_bytesV _ : byteCells e = bytesV (ints e)) (rfl : e.size = e.size) H12_
    refine S_list (T_val (v := (Value.slice (some ⟨b9_, 0, none⟩) e.size cp10_)) (x_assign rfl) ?_)
    refine wpList_nil ?_
    refine (X_then (hK8_ _ _ ?_))
    clear hK8_
    refine C_ret ?_
    refine R_any (v := (Value.slice (some ⟨b9_, 0, none⟩) e.size cp10_)) (run_results1 rfl rfl) ?_
    have H17_ : Holds w11_ (ro R :: sl 5 1 (Value.slice (some ⟨b9_, 0, none⟩) e.size cp10_) e.size (bytesV (ints e)) :: F) := (Holds.bring (Holds.bring H16_ 0 rfl) 1 rfl)
    exact ⟨_, [sl 5 1 (Value.slice (some ⟨b9_, 0, none⟩) e.size cp10_) e.size (bytesV (ints e))], rfl, rfl, S15_, H17_⟩

set_option maxHeartbeats 400000 in
theorem cmpI64 (R : HP) (x y : Int) :
    Tri Try.prog 72 #[(Value.int .i64 x), (Value.int .i64 y)] R [] (fun v post => v = .int .i64 (ordI x y) ∧ post = []) := by
  refine Tri.into (n := 13) (al := [(Value.int .i64 x), (Value.int .i64 y)]) Try.func72 rfl Try.ntmps72 rfl rfl fun w F H => ?_
  replace H : Holds w (ro R :: F) := H
  refine C_seq (fun K1_ hK1_ => ?_)
  refine C_reg ?_
  refine S_list (T_val (v := (Value.int .i64 0)) (x_assign rfl) ?_)
  refine wpList_nil ?_
  refine (X_then (hK1_ _ _ ?_))
  clear hK1_
  refine C_block ?_
  refine C_seq (fun K2_ hK2_ => ?_)
  refine C_reg ?_
  refine S_list (T_val (v := (Value.int .i64 x)) (x_move rfl) ?_)
  refine S_list (T_val (v := (Value.int .i64 y)) (x_move rfl) ?_)
  refine S_list (T_val (v := (Value.bool (decide (x < y)))) (x_bin rfl rfl rfl) ?_)
  refine S_list (T_val (v := (Value.bool (decide (x < y)))) (x_assign rfl) ?_)
  refine wpList_nil ?_
  refine (X_then (hK2_ _ _ ?_))
  clear hK2_
  refine C_cond (b := decide (x < y)) rfl (fun c3_t => ?_) (fun c3_f => ?_)
  · have c3_tp : x < y := of_decide_eq_true c3_t
    refine C_seq (fun K4_ hK4_ => ?_)
    refine C_reg ?_
    refine S_list (T_val (v := (Value.int .i64 (-1))) (x_assign rfl) ?_)
    refine wpList_nil ?_
    refine (X_then (hK4_ _ _ ?_))
    clear hK4_
    refine C_ret (X_blkR ?_)
    refine R_any (v := (Value.int .i64 (-1))) (run_results1 rfl rfl) ?_
    exact ⟨_, [], rfl, ⟨by unfold ordI; (repeat first | rw [if_pos (by assumption)] | rw [if_neg (by assumption)]), rfl⟩, (Same.refl w), H⟩
  · have c3_fp : ¬ (x < y) := of_decide_eq_false c3_f
    refine C_seq (fun K5_ hK5_ => ?_)
    refine C_reg ?_
    refine S_list (T_val (v := (Value.int .i64 x)) (x_move rfl) ?_)
    refine S_list (T_val (v := (Value.int .i64 y)) (x_move rfl) ?_)
    refine S_list (T_val (v := (Value.bool (decide (y < x)))) (x_bin rfl rfl rfl) ?_)
    refine S_list (T_val (v := (Value.bool (decide (y < x)))) (x_assign rfl) ?_)
    refine wpList_nil ?_
    refine (X_then (hK5_ _ _ ?_))
    clear hK5_
    refine C_cond (b := decide (y < x)) rfl (fun c6_t => ?_) (fun c6_f => ?_)
    · have c6_tp : y < x := of_decide_eq_true c6_t
      refine C_seq (fun K7_ hK7_ => ?_)
      refine C_reg ?_
      refine S_list (T_val (v := (Value.int .i64 1)) (x_assign rfl) ?_)
      refine wpList_nil ?_
      refine (X_then (hK7_ _ _ ?_))
      clear hK7_
      refine C_ret (X_blkR ?_)
      refine R_any (v := (Value.int .i64 1)) (run_results1 rfl rfl) ?_
      exact ⟨_, [], rfl, ⟨by unfold ordI; (repeat first | rw [if_pos (by assumption)] | rw [if_neg (by assumption)]), rfl⟩, (Same.refl w), H⟩
    · have c6_fp : ¬ (y < x) := of_decide_eq_false c6_f
      refine C_seq (fun K8_ hK8_ => ?_)
      refine C_reg ?_
      refine S_list (T_val (v := (Value.int .i64 0)) (x_assign rfl) ?_)
      refine wpList_nil ?_
      refine (X_then (hK8_ _ _ ?_))
      clear hK8_
      refine C_ret (X_blkR ?_)
      refine R_any (v := (Value.int .i64 0)) (run_results1 rfl rfl) ?_
      exact ⟨_, [], rfl, ⟨by unfold ordI; (repeat first | rw [if_pos (by assumption)] | rw [if_neg (by assumption)]), rfl⟩, (Same.refl w), H⟩

set_option maxHeartbeats 400000 in
theorem numOrd (R : HP) (x y : Int) :
    Tri Try.prog 38 #[(Value.int .i64 x), (Value.int .i64 y)] R [] (fun v post => v = .int .i64 (ordI x y) ∧ post = []) := by
  refine Tri.into (n := 11) (al := [(Value.int .i64 x), (Value.int .i64 y)]) Try.func38 rfl Try.ntmps38 rfl rfl fun w F H => ?_
  replace H : Holds w (ro R :: F) := H
  refine C_seq (fun K1_ hK1_ => ?_)
  refine C_reg ?_
  refine S_list (T_val (v := (Value.int .i64 0)) (x_assign rfl) ?_)
  refine wpList_nil ?_
  refine (X_then (hK1_ _ _ ?_))
  clear hK1_
  refine C_seq (fun K2_ hK2_ => ?_)
  refine C_seq (fun K3_ hK3_ => ?_)
  refine C_reg ?_
  refine S_list (T_val (v := (Value.int .i64 x)) (x_move rfl) ?_)
  refine S_list (T_val (v := (Value.int .i64 y)) (x_move rfl) ?_)
  refine S_list (T_val (v := (Value.bool (decide (x < y)))) (x_bin rfl rfl rfl) ?_)
  refine wpList_nil ?_
  refine (X_then (hK3_ _ _ ?_))
  clear hK3_
  refine C_cond (b := decide (x < y)) rfl (fun c4_t => ?_) (fun c4_f => ?_)
  · have c4_tp : x < y := of_decide_eq_true c4_t
    refine C_seq (fun K5_ hK5_ => ?_)
    refine C_reg ?_
    refine S_list (T_val (v := (Value.int .i64 (-1))) (x_assign rfl) ?_)
    refine wpList_nil ?_
    refine (X_then (hK5_ _ _ ?_))
    clear hK5_
    refine C_ret (X_thenR ?_)
    refine R_any (v := (Value.int .i64 (-1))) (run_results1 rfl rfl) ?_
    exact ⟨_, [], rfl, ⟨by unfold ordI; (repeat first | rw [if_pos (by assumption)] | rw [if_neg (by assumption)]), rfl⟩, (Same.refl w), H⟩
  · have c4_fp : ¬ (x < y) := of_decide_eq_false c4_f
    refine C_skip (X_then (hK2_ _ _ ?_))
    clear hK2_
    refine C_seq (fun K6_ hK6_ => ?_)
    refine C_seq (fun K7_ hK7_ => ?_)
    refine C_reg ?_
    refine S_list (T_val (v := (Value.int .i64 x)) (x_move rfl) ?_)
    refine S_list (T_val (v := (Value.int .i64 y)) (x_move rfl) ?_)
    refine S_list (T_val (v := (Value.bool (decide (y < x)))) (x_bin rfl rfl rfl) ?_)
    refine wpList_nil ?_
    refine (X_then (hK7_ _ _ ?_))
    clear hK7_
    refine C_cond (b := decide (y < x)) rfl (fun c8_t => ?_) (fun c8_f => ?_)
    · have c8_tp : y < x := of_decide_eq_true c8_t
      refine C_seq (fun K9_ hK9_ => ?_)
      refine C_reg ?_
      refine S_list (T_val (v := (Value.int .i64 1)) (x_assign rfl) ?_)
      refine wpList_nil ?_
      refine (X_then (hK9_ _ _ ?_))
      clear hK9_
      refine C_ret (X_thenR ?_)
      refine R_any (v := (Value.int .i64 1)) (run_results1 rfl rfl) ?_
      exact ⟨_, [], rfl, ⟨by unfold ordI; (repeat first | rw [if_pos (by assumption)] | rw [if_neg (by assumption)]), rfl⟩, (Same.refl w), H⟩
    · have c8_fp : ¬ (y < x) := of_decide_eq_false c8_f
      refine C_skip (X_then (hK6_ _ _ ?_))
      clear hK6_
      refine C_seq (fun K10_ hK10_ => ?_)
      refine C_reg ?_
      refine S_list (T_val (v := (Value.int .i64 0)) (x_assign rfl) ?_)
      refine wpList_nil ?_
      refine (X_then (hK10_ _ _ ?_))
      clear hK10_
      refine C_ret ?_
      refine R_any (v := (Value.int .i64 0)) (run_results1 rfl rfl) ?_
      exact ⟨_, [], rfl, ⟨by unfold ordI; (repeat first | rw [if_pos (by assumption)] | rw [if_neg (by assumption)]), rfl⟩, (Same.refl w), H⟩

set_option maxHeartbeats 400000 in
theorem txtOrd (R : HP) (x y : ByteArray) :
    Tri Try.prog 39 #[(Value.string x), (Value.string y)] R [] (fun v post => v = .int .i64 (Lib.compareBytes x.data.toList y.data.toList) ∧ post = []) := by
  refine Tri.into (n := 11) (al := [(Value.string x), (Value.string y)]) Try.func39 rfl Try.ntmps39 rfl rfl fun w F H => ?_
  replace H : Holds w (ro R :: F) := H
  refine C_seq (fun K1_ hK1_ => ?_)
  refine C_reg ?_
  refine S_list (T_val (v := (Value.int .i64 0)) (x_assign rfl) ?_)
  refine wpList_nil ?_
  refine (X_then (hK1_ _ _ ?_))
  clear hK1_
  refine C_seq (fun K2_ hK2_ => ?_)
  refine C_seq (fun K3_ hK3_ => ?_)
  refine C_reg ?_
  refine S_list (T_val (v := (Value.string x)) (x_move rfl) ?_)
  refine S_list (T_val (v := (Value.string y)) (x_move rfl) ?_)
  refine S_list (T_val (v := (Value.bool (Op.bytesLess x.toList y.toList))) (x_str rfl rfl rfl (by decide)) ?_)
  refine wpList_nil ?_
  refine (X_then (hK3_ _ _ ?_))
  clear hK3_
  refine C_cond (b := Op.bytesLess x.toList y.toList) rfl (fun c4_t => ?_) (fun c4_f => ?_)
  · skip
    refine C_seq (fun K5_ hK5_ => ?_)
    refine C_reg ?_
    refine S_list (T_val (v := (Value.int .i64 (-1))) (x_assign rfl) ?_)
    refine wpList_nil ?_
    refine (X_then (hK5_ _ _ ?_))
    clear hK5_
    refine C_ret (X_thenR ?_)
    refine R_any (v := (Value.int .i64 (-1))) (run_results1 rfl rfl) ?_
    exact ⟨_, [], rfl, ⟨congrArg (Value.int .i64) (txt_ord _ _ _ (by first | exact .inl ⟨‹_›, rfl⟩ | exact .inr (.inl ⟨‹_›, ‹_›, rfl⟩) | exact .inr (.inr ⟨‹_›, ‹_›, rfl⟩))), rfl⟩, (Same.refl w), H⟩
  · skip
    refine C_skip (X_then (hK2_ _ _ ?_))
    clear hK2_
    refine C_seq (fun K6_ hK6_ => ?_)
    refine C_seq (fun K7_ hK7_ => ?_)
    refine C_reg ?_
    refine S_list (T_val (v := (Value.string x)) (x_move rfl) ?_)
    refine S_list (T_val (v := (Value.string y)) (x_move rfl) ?_)
    refine S_list (T_val (v := (Value.bool (!(Op.bytesLess x.toList y.toList || x.toList == y.toList)))) (x_str rfl rfl rfl (by decide)) ?_)
    refine wpList_nil ?_
    refine (X_then (hK7_ _ _ ?_))
    clear hK7_
    refine C_cond (b := !(Op.bytesLess x.toList y.toList || x.toList == y.toList)) rfl (fun c8_t => ?_) (fun c8_f => ?_)
    · skip
      refine C_seq (fun K9_ hK9_ => ?_)
      refine C_reg ?_
      refine S_list (T_val (v := (Value.int .i64 1)) (x_assign rfl) ?_)
      refine wpList_nil ?_
      refine (X_then (hK9_ _ _ ?_))
      clear hK9_
      refine C_ret (X_thenR ?_)
      refine R_any (v := (Value.int .i64 1)) (run_results1 rfl rfl) ?_
      exact ⟨_, [], rfl, ⟨congrArg (Value.int .i64) (txt_ord _ _ _ (by first | exact .inl ⟨‹_›, rfl⟩ | exact .inr (.inl ⟨‹_›, ‹_›, rfl⟩) | exact .inr (.inr ⟨‹_›, ‹_›, rfl⟩))), rfl⟩, (Same.refl w), H⟩
    · skip
      refine C_skip (X_then (hK6_ _ _ ?_))
      clear hK6_
      refine C_seq (fun K10_ hK10_ => ?_)
      refine C_reg ?_
      refine S_list (T_val (v := (Value.int .i64 0)) (x_assign rfl) ?_)
      refine wpList_nil ?_
      refine (X_then (hK10_ _ _ ?_))
      clear hK10_
      refine C_ret ?_
      refine R_any (v := (Value.int .i64 0)) (run_results1 rfl rfl) ?_
      exact ⟨_, [], rfl, ⟨congrArg (Value.int .i64) (txt_ord _ _ _ (by first | exact .inl ⟨‹_›, rfl⟩ | exact .inr (.inl ⟨‹_›, ‹_›, rfl⟩) | exact .inr (.inr ⟨‹_›, ‹_›, rfl⟩))), rfl⟩, (Same.refl w), H⟩

set_option maxHeartbeats 400000 in
theorem fits10 (R : HP) (T r : Int) (key en : ByteArray) (n : Int) (val : ByteArray) (bare : Bool) :
    Tri Try.prog 12 #[(Value.agg #[(Value.int .i64 T), (Value.int .i64 r), (Value.string key), (Value.string en), (Value.int .i64 n), (Value.string val), (Value.bool bare)])] R [] (fun v post => (∃ b : Bool, v = .bool b) ∧ post = []) := by
  refine Tri.into (n := 15) (al := [(Value.agg #[(Value.int .i64 T), (Value.int .i64 r), (Value.string key), (Value.string en), (Value.int .i64 n), (Value.string val), (Value.bool bare)])]) Try.func12 rfl Try.ntmps12 rfl rfl fun w F H => ?_
  replace H : Holds w (ro R :: F) := H
  refine C_seq (fun K1_ hK1_ => ?_)
  refine C_reg ?_
  refine S_list (T_box (v := (Value.agg #[(Value.int .i64 T), (Value.int .i64 r), (Value.string key), (Value.string en), (Value.int .i64 n), (Value.string val), (Value.bool bare)])) rfl H ?_)
  intro b2_ w3_ S5_ H4_
  replace H4_ : Holds w3_ (cl b2_ 31 [(Value.int .i64 T), (Value.int .i64 r), (Value.string key), (Value.string en), (Value.int .i64 n), (Value.string val), (Value.bool bare)] :: ro R :: F) := H4_
  have S6_ := Same.trans (Same.refl w) S5_
  refine S_list (T_val (v := (Value.bool false)) (x_assign rfl) ?_)
  refine wpList_nil ?_
  refine (X_then (hK1_ _ _ ?_))
  clear hK1_
  refine C_seq (fun K7_ hK7_ => ?_)
  refine C_seq (fun K8_ hK8_ => ?_)
  refine C_reg ?_
  refine S_list (T_val (v := (Value.pointer (some ⟨b2_, 2, none⟩))) (by kernel_rfl) ?_)
  refine S_list (T_val (v := (Value.string key)) (x_load1 rfl Try.underlying9 rfl ((Holds.rd H4_ 0 rfl) 2 (Value.string key) rfl)) ?_)
  refine S_list (T_val (v := (Value.int .i64 (key.size : Int))) (x_lenT rfl Try.underlying9) ?_)
  refine S_list (T_val (v := (Value.bool (decide (2147483647 < (key.size : Int))))) (x_bin rfl rfl rfl) ?_)
  refine wpList_nil ?_
  refine (X_then (hK8_ _ _ ?_))
  clear hK8_
  refine C_cond (b := decide (2147483647 < (key.size : Int))) rfl (fun c9_t => ?_) (fun c9_f => ?_)
  · have c9_tp : 2147483647 < (key.size : Int) := of_decide_eq_true c9_t
    refine C_seq (fun K10_ hK10_ => ?_)
    refine C_reg ?_
    refine S_list (T_val (v := (Value.bool false)) (x_assign rfl) ?_)
    refine wpList_nil ?_
    refine (X_then (hK10_ _ _ ?_))
    clear hK10_
    refine C_ret (X_thenR ?_)
    refine R_any (v := (Value.bool false)) (run_results1 rfl rfl) ?_
    have H11_ : Holds w3_ (ro R :: F) := (Holds.erase (Holds.bring H4_ 1 rfl) 1)
    exact ⟨_, [], rfl, ⟨⟨_, rfl⟩, rfl⟩, S6_, H11_⟩
  · have c9_fp : ¬ (2147483647 < (key.size : Int)) := of_decide_eq_false c9_f
    refine C_skip (X_then (hK7_ _ _ ?_))
    clear hK7_
    refine C_seq (fun K12_ hK12_ => ?_)
    refine C_seq (fun K13_ hK13_ => ?_)
    refine C_reg ?_
    refine S_list (T_val (v := (Value.pointer (some ⟨b2_, 3, none⟩))) (by kernel_rfl) ?_)
    refine S_list (T_val (v := (Value.string en)) (x_load1 rfl Try.underlying9 rfl ((Holds.rd H4_ 0 rfl) 3 (Value.string en) rfl)) ?_)
    refine S_list (T_val (v := (Value.int .i64 (en.size : Int))) (x_lenT rfl Try.underlying9) ?_)
    refine S_list (T_val (v := (Value.bool (decide (2147483647 < (en.size : Int))))) (x_bin rfl rfl rfl) ?_)
    refine wpList_nil ?_
    refine (X_then (hK13_ _ _ ?_))
    clear hK13_
    refine C_cond (b := decide (2147483647 < (en.size : Int))) rfl (fun c14_t => ?_) (fun c14_f => ?_)
    · have c14_tp : 2147483647 < (en.size : Int) := of_decide_eq_true c14_t
      refine C_seq (fun K15_ hK15_ => ?_)
      refine C_reg ?_
      refine S_list (T_val (v := (Value.bool false)) (x_assign rfl) ?_)
      refine wpList_nil ?_
      refine (X_then (hK15_ _ _ ?_))
      clear hK15_
      refine C_ret (X_thenR ?_)
      refine R_any (v := (Value.bool false)) (run_results1 rfl rfl) ?_
      have H16_ : Holds w3_ (ro R :: F) := (Holds.erase (Holds.bring H4_ 1 rfl) 1)
      exact ⟨_, [], rfl, ⟨⟨_, rfl⟩, rfl⟩, S6_, H16_⟩
    · have c14_fp : ¬ (2147483647 < (en.size : Int)) := of_decide_eq_false c14_f
      refine C_skip (X_then (hK12_ _ _ ?_))
      clear hK12_
      refine C_seq (fun K17_ hK17_ => ?_)
      refine C_seq (fun K18_ hK18_ => ?_)
      refine C_reg ?_
      refine S_list (T_val (v := (Value.pointer (some ⟨b2_, 5, none⟩))) (by kernel_rfl) ?_)
      refine S_list (T_val (v := (Value.string val)) (x_load1 rfl Try.underlying9 rfl ((Holds.rd H4_ 0 rfl) 5 (Value.string val) rfl)) ?_)
      refine S_list (T_val (v := (Value.int .i64 (val.size : Int))) (x_lenT rfl Try.underlying9) ?_)
      refine S_list (T_val (v := (Value.bool (decide (2147483647 < (val.size : Int))))) (x_bin rfl rfl rfl) ?_)
      refine wpList_nil ?_
      refine (X_then (hK18_ _ _ ?_))
      clear hK18_
      refine C_cond (b := decide (2147483647 < (val.size : Int))) rfl (fun c19_t => ?_) (fun c19_f => ?_)
      · have c19_tp : 2147483647 < (val.size : Int) := of_decide_eq_true c19_t
        refine C_seq (fun K20_ hK20_ => ?_)
        refine C_reg ?_
        refine S_list (T_val (v := (Value.bool false)) (x_assign rfl) ?_)
        refine wpList_nil ?_
        refine (X_then (hK20_ _ _ ?_))
        clear hK20_
        refine C_ret (X_thenR ?_)
        refine R_any (v := (Value.bool false)) (run_results1 rfl rfl) ?_
        have H21_ : Holds w3_ (ro R :: F) := (Holds.erase (Holds.bring H4_ 1 rfl) 1)
        exact ⟨_, [], rfl, ⟨⟨_, rfl⟩, rfl⟩, S6_, H21_⟩
      · have c19_fp : ¬ (2147483647 < (val.size : Int)) := of_decide_eq_false c19_f
        refine C_skip (X_then (hK17_ _ _ ?_))
        clear hK17_
        refine C_seq (fun K22_ hK22_ => ?_)
        refine C_reg ?_
        refine S_list (T_val (v := (Value.bool true)) (x_assign rfl) ?_)
        refine wpList_nil ?_
        refine (X_then (hK22_ _ _ ?_))
        clear hK22_
        refine C_ret ?_
        refine R_any (v := (Value.bool true)) (run_results1 rfl rfl) ?_
        have H23_ : Holds w3_ (ro R :: F) := (Holds.erase (Holds.bring H4_ 1 rfl) 1)
        exact ⟨_, [], rfl, ⟨⟨_, rfl⟩, rfl⟩, S6_, H23_⟩

set_option maxHeartbeats 400000 in
theorem fits14 (R : HP) (k x : ByteArray) (cr md vr ls : Int) :
    Tri Try.prog 13 #[(Value.agg #[(Value.string k), (Value.string x), (Value.int .i64 cr), (Value.int .i64 md), (Value.int .i64 vr), (Value.int .i64 ls)])] R [] (fun v post => (∃ b : Bool, v = .bool b) ∧ post = []) := by
  refine Tri.into (n := 11) (al := [(Value.agg #[(Value.string k), (Value.string x), (Value.int .i64 cr), (Value.int .i64 md), (Value.int .i64 vr), (Value.int .i64 ls)])]) Try.func13 rfl Try.ntmps13 rfl rfl fun w F H => ?_
  replace H : Holds w (ro R :: F) := H
  refine C_seq (fun K1_ hK1_ => ?_)
  refine C_reg ?_
  refine S_list (T_box (v := (Value.agg #[(Value.string k), (Value.string x), (Value.int .i64 cr), (Value.int .i64 md), (Value.int .i64 vr), (Value.int .i64 ls)])) rfl H ?_)
  intro b2_ w3_ S5_ H4_
  replace H4_ : Holds w3_ (cl b2_ 33 [(Value.string k), (Value.string x), (Value.int .i64 cr), (Value.int .i64 md), (Value.int .i64 vr), (Value.int .i64 ls)] :: ro R :: F) := H4_
  have S6_ := Same.trans (Same.refl w) S5_
  refine S_list (T_val (v := (Value.bool false)) (x_assign rfl) ?_)
  refine wpList_nil ?_
  refine (X_then (hK1_ _ _ ?_))
  clear hK1_
  refine C_seq (fun K7_ hK7_ => ?_)
  refine C_seq (fun K8_ hK8_ => ?_)
  refine C_reg ?_
  refine S_list (T_val (v := (Value.pointer (some ⟨b2_, 0, none⟩))) (by kernel_rfl) ?_)
  refine S_list (T_val (v := (Value.string k)) (x_load1 rfl Try.underlying9 rfl ((Holds.rd H4_ 0 rfl) 0 (Value.string k) rfl)) ?_)
  refine S_list (T_val (v := (Value.int .i64 (k.size : Int))) (x_lenT rfl Try.underlying9) ?_)
  refine S_list (T_val (v := (Value.bool (decide (2147483647 < (k.size : Int))))) (x_bin rfl rfl rfl) ?_)
  refine wpList_nil ?_
  refine (X_then (hK8_ _ _ ?_))
  clear hK8_
  refine C_cond (b := decide (2147483647 < (k.size : Int))) rfl (fun c9_t => ?_) (fun c9_f => ?_)
  · have c9_tp : 2147483647 < (k.size : Int) := of_decide_eq_true c9_t
    refine C_seq (fun K10_ hK10_ => ?_)
    refine C_reg ?_
    refine S_list (T_val (v := (Value.bool false)) (x_assign rfl) ?_)
    refine wpList_nil ?_
    refine (X_then (hK10_ _ _ ?_))
    clear hK10_
    refine C_ret (X_thenR ?_)
    refine R_any (v := (Value.bool false)) (run_results1 rfl rfl) ?_
    have H11_ : Holds w3_ (ro R :: F) := (Holds.erase (Holds.bring H4_ 1 rfl) 1)
    exact ⟨_, [], rfl, ⟨⟨_, rfl⟩, rfl⟩, S6_, H11_⟩
  · have c9_fp : ¬ (2147483647 < (k.size : Int)) := of_decide_eq_false c9_f
    refine C_skip (X_then (hK7_ _ _ ?_))
    clear hK7_
    refine C_seq (fun K12_ hK12_ => ?_)
    refine C_seq (fun K13_ hK13_ => ?_)
    refine C_reg ?_
    refine S_list (T_val (v := (Value.pointer (some ⟨b2_, 1, none⟩))) (by kernel_rfl) ?_)
    refine S_list (T_val (v := (Value.string x)) (x_load1 rfl Try.underlying9 rfl ((Holds.rd H4_ 0 rfl) 1 (Value.string x) rfl)) ?_)
    refine S_list (T_val (v := (Value.int .i64 (x.size : Int))) (x_lenT rfl Try.underlying9) ?_)
    refine S_list (T_val (v := (Value.bool (decide (2147483647 < (x.size : Int))))) (x_bin rfl rfl rfl) ?_)
    refine wpList_nil ?_
    refine (X_then (hK13_ _ _ ?_))
    clear hK13_
    refine C_cond (b := decide (2147483647 < (x.size : Int))) rfl (fun c14_t => ?_) (fun c14_f => ?_)
    · have c14_tp : 2147483647 < (x.size : Int) := of_decide_eq_true c14_t
      refine C_seq (fun K15_ hK15_ => ?_)
      refine C_reg ?_
      refine S_list (T_val (v := (Value.bool false)) (x_assign rfl) ?_)
      refine wpList_nil ?_
      refine (X_then (hK15_ _ _ ?_))
      clear hK15_
      refine C_ret (X_thenR ?_)
      refine R_any (v := (Value.bool false)) (run_results1 rfl rfl) ?_
      have H16_ : Holds w3_ (ro R :: F) := (Holds.erase (Holds.bring H4_ 1 rfl) 1)
      exact ⟨_, [], rfl, ⟨⟨_, rfl⟩, rfl⟩, S6_, H16_⟩
    · have c14_fp : ¬ (2147483647 < (x.size : Int)) := of_decide_eq_false c14_f
      refine C_skip (X_then (hK12_ _ _ ?_))
      clear hK12_
      refine C_seq (fun K17_ hK17_ => ?_)
      refine C_reg ?_
      refine S_list (T_val (v := (Value.bool true)) (x_assign rfl) ?_)
      refine wpList_nil ?_
      refine (X_then (hK17_ _ _ ?_))
      clear hK17_
      refine C_ret ?_
      refine R_any (v := (Value.bool true)) (run_results1 rfl rfl) ?_
      have H18_ : Holds w3_ (ro R :: F) := (Holds.erase (Holds.bring H4_ 1 rfl) 1)
      exact ⟨_, [], rfl, ⟨⟨_, rfl⟩, rfl⟩, S6_, H18_⟩

set_option maxHeartbeats 400000 in
theorem txnCmpC (R : HP) (T r : Int) (key en : ByteArray) (n : Int) (val : ByteArray) (bare : Bool) :
    Tri Try.prog 14 #[(Value.agg #[(Value.int .i64 T), (Value.int .i64 r), (Value.string key), (Value.string en), (Value.int .i64 n), (Value.string val), (Value.bool bare)])] R [] (fun v post => (∃ b : Bool, v = .bool b ∧ (b = true → 0 ≤ T ∧ T ≤ 4 ∧ 0 ≤ r ∧ r ≤ 3)) ∧ post = []) := by
  refine Tri.into (n := 36) (al := [(Value.agg #[(Value.int .i64 T), (Value.int .i64 r), (Value.string key), (Value.string en), (Value.int .i64 n), (Value.string val), (Value.bool bare)])]) Try.func14 rfl Try.ntmps14 rfl rfl fun w F H => ?_
  replace H : Holds w (ro R :: F) := H
  refine C_seq (fun K1_ hK1_ => ?_)
  refine C_reg ?_
  refine S_list (T_box (v := (Value.agg #[(Value.int .i64 T), (Value.int .i64 r), (Value.string key), (Value.string en), (Value.int .i64 n), (Value.string val), (Value.bool bare)])) rfl H ?_)
  intro b2_ w3_ S5_ H4_
  replace H4_ : Holds w3_ (cl b2_ 31 [(Value.int .i64 T), (Value.int .i64 r), (Value.string key), (Value.string en), (Value.int .i64 n), (Value.string val), (Value.bool bare)] :: ro R :: F) := H4_
  have S6_ := Same.trans (Same.refl w) S5_
  refine S_list (T_val (v := (Value.bool false)) (x_assign rfl) ?_)
  refine wpList_nil ?_
  refine (X_then (hK1_ _ _ ?_))
  clear hK1_
  refine C_seq (fun K7_ hK7_ => ?_)
  refine C_reg ?_
  refine S_list (T_val (v := (Value.pointer (some ⟨b2_, 0, none⟩))) (by kernel_rfl) ?_)
  refine S_list (T_val (v := (Value.int .i64 T)) (x_load1 rfl Try.underlying3 rfl ((Holds.rd H4_ 0 rfl) 0 (Value.int .i64 T) rfl)) ?_)
  refine S_list (T_val (v := (Value.bool (decide (0 ≤ T)))) (x_bin rfl rfl rfl) ?_)
  refine S_list (T_val (v := (Value.bool (decide (0 ≤ T)))) (x_move rfl) ?_)
  rcases Bool.eq_false_or_eq_true (decide (0 ≤ T)) with c8_t | c8_f
  · have c8_tp : 0 ≤ T := of_decide_eq_true c8_t
    refine S_yes (j := 3) (dj := 6) (b := true) rfl rfl (congrArg Value.bool c8_t) (T_val (v := (Value.pointer (some ⟨b2_, 0, none⟩))) (by kernel_rfl) ?_)
    refine S_yes (j := 3) (dj := 6) (b := true) rfl rfl (congrArg Value.bool c8_t) (T_val (v := (Value.int .i64 T)) (x_load1 rfl Try.underlying3 rfl ((Holds.rd H4_ 0 rfl) 0 (Value.int .i64 T) rfl)) ?_)
    refine S_yes (j := 3) (dj := 6) (b := true) rfl rfl (congrArg Value.bool c8_t) (T_val (v := (Value.bool (decide (T ≤ 4)))) (x_bin rfl rfl rfl) ?_)
    refine S_list (T_pickT (v := (Value.bool (decide (T ≤ 4)))) (congrArg Value.bool c8_t) rfl ?_)
    refine S_list (T_val (v := (Value.bool (decide (T ≤ 4)))) (x_move rfl) ?_)
    rcases Bool.eq_false_or_eq_true (decide (T ≤ 4)) with c9_t | c9_f
    · have c9_tp : T ≤ 4 := of_decide_eq_true c9_t
      refine S_yes (j := 8) (dj := 11) (b := true) rfl rfl (congrArg Value.bool c9_t) (T_val (v := (Value.pointer (some ⟨b2_, 1, none⟩))) (by kernel_rfl) ?_)
      refine S_yes (j := 8) (dj := 11) (b := true) rfl rfl (congrArg Value.bool c9_t) (T_val (v := (Value.int .i64 r)) (x_load1 rfl Try.underlying3 rfl ((Holds.rd H4_ 0 rfl) 1 (Value.int .i64 r) rfl)) ?_)
      refine S_yes (j := 8) (dj := 11) (b := true) rfl rfl (congrArg Value.bool c9_t) (T_val (v := (Value.bool (decide (0 ≤ r)))) (x_bin rfl rfl rfl) ?_)
      refine S_list (T_pickT (v := (Value.bool (decide (0 ≤ r)))) (congrArg Value.bool c9_t) rfl ?_)
      refine S_list (T_val (v := (Value.bool (decide (0 ≤ r)))) (x_move rfl) ?_)
      rcases Bool.eq_false_or_eq_true (decide (0 ≤ r)) with c10_t | c10_f
      · have c10_tp : 0 ≤ r := of_decide_eq_true c10_t
        refine S_yes (j := 13) (dj := 16) (b := true) rfl rfl (congrArg Value.bool c10_t) (T_val (v := (Value.pointer (some ⟨b2_, 1, none⟩))) (by kernel_rfl) ?_)
        refine S_yes (j := 13) (dj := 16) (b := true) rfl rfl (congrArg Value.bool c10_t) (T_val (v := (Value.int .i64 r)) (x_load1 rfl Try.underlying3 rfl ((Holds.rd H4_ 0 rfl) 1 (Value.int .i64 r) rfl)) ?_)
        refine S_yes (j := 13) (dj := 16) (b := true) rfl rfl (congrArg Value.bool c10_t) (T_val (v := (Value.bool (decide (r ≤ 3)))) (x_bin rfl rfl rfl) ?_)
        refine S_list (T_pickT (v := (Value.bool (decide (r ≤ 3)))) (congrArg Value.bool c10_t) rfl ?_)
        refine S_list (T_val (v := (Value.bool (decide (r ≤ 3)))) (x_move rfl) ?_)
        rcases Bool.eq_false_or_eq_true (decide (r ≤ 3)) with c11_t | c11_f
        · have c11_tp : r ≤ 3 := of_decide_eq_true c11_t
          refine S_yes (j := 18) (dj := 21) (b := true) rfl rfl (congrArg Value.bool c11_t) (T_val (v := (Value.pointer (some ⟨b2_, 2, none⟩))) (by kernel_rfl) ?_)
          refine S_yes (j := 18) (dj := 21) (b := true) rfl rfl (congrArg Value.bool c11_t) (T_val (v := (Value.string key)) (x_load1 rfl Try.underlying9 rfl ((Holds.rd H4_ 0 rfl) 2 (Value.string key) rfl)) ?_)
          refine S_yes (j := 18) (dj := 21) (b := true) rfl rfl (congrArg Value.bool c11_t) (T_callW (al := [(Value.string key)]) rfl rfl cb34 (Calls.into (n := 6) (al := [(Value.string key)]) Try.func34 rfl Try.ntmps34 rfl rfl ?_))
          refine C_seq (fun K12_ hK12_ => ?_)
          refine C_reg ?_
          refine S_list (T_val (v := (Value.bool false)) (x_assign rfl) ?_)
          refine wpList_nil ?_
          refine (X_then (hK12_ _ _ ?_))
          clear hK12_
          refine C_seq (fun K13_ hK13_ => ?_)
          refine C_reg ?_
          refine S_list (T_val (v := (Value.string key)) (x_move rfl) ?_)
          refine S_list (T_val (v := (Value.int .i64 (key.size : Int))) (x_lenT rfl Try.underlying9) ?_)
          refine S_list (T_val (v := (Value.bool (decide ((key.size : Int) ≤ 64)))) (x_bin rfl rfl rfl) ?_)
          refine S_list (T_val (v := (Value.bool (decide ((key.size : Int) ≤ 64)))) (x_assign rfl) ?_)
          refine wpList_nil ?_
          refine (X_then (hK13_ _ _ ?_))
          clear hK13_
          refine C_ret ?_
          refine R_any (v := (Value.bool (decide ((key.size : Int) ≤ 64)))) (run_results1 rfl rfl) ⟨_, rfl, ?_⟩
          refine S_list (T_pickT (v := (Value.bool (decide ((key.size : Int) ≤ 64)))) (congrArg Value.bool c11_t) rfl ?_)
          refine S_list (T_val (v := (Value.bool (decide ((key.size : Int) ≤ 64)))) (x_move rfl) ?_)
          rcases Bool.eq_false_or_eq_true (decide ((key.size : Int) ≤ 64)) with c14_t | c14_f
          · have c14_tp : (key.size : Int) ≤ 64 := of_decide_eq_true c14_t
            refine S_yes (j := 23) (dj := 26) (b := true) rfl rfl (congrArg Value.bool c14_t) (T_val (v := (Value.pointer (some ⟨b2_, 3, none⟩))) (by kernel_rfl) ?_)
            refine S_yes (j := 23) (dj := 26) (b := true) rfl rfl (congrArg Value.bool c14_t) (T_val (v := (Value.string en)) (x_load1 rfl Try.underlying9 rfl ((Holds.rd H4_ 0 rfl) 3 (Value.string en) rfl)) ?_)
            refine S_yes (j := 23) (dj := 26) (b := true) rfl rfl (congrArg Value.bool c14_t) (T_callW (al := [(Value.string en)]) rfl rfl cb34 (Calls.into (n := 6) (al := [(Value.string en)]) Try.func34 rfl Try.ntmps34 rfl rfl ?_))
            refine C_seq (fun K15_ hK15_ => ?_)
            refine C_reg ?_
            refine S_list (T_val (v := (Value.bool false)) (x_assign rfl) ?_)
            refine wpList_nil ?_
            refine (X_then (hK15_ _ _ ?_))
            clear hK15_
            refine C_seq (fun K16_ hK16_ => ?_)
            refine C_reg ?_
            refine S_list (T_val (v := (Value.string en)) (x_move rfl) ?_)
            refine S_list (T_val (v := (Value.int .i64 (en.size : Int))) (x_lenT rfl Try.underlying9) ?_)
            refine S_list (T_val (v := (Value.bool (decide ((en.size : Int) ≤ 64)))) (x_bin rfl rfl rfl) ?_)
            refine S_list (T_val (v := (Value.bool (decide ((en.size : Int) ≤ 64)))) (x_assign rfl) ?_)
            refine wpList_nil ?_
            refine (X_then (hK16_ _ _ ?_))
            clear hK16_
            refine C_ret ?_
            refine R_any (v := (Value.bool (decide ((en.size : Int) ≤ 64)))) (run_results1 rfl rfl) ⟨_, rfl, ?_⟩
            refine S_list (T_pickT (v := (Value.bool (decide ((en.size : Int) ≤ 64)))) (congrArg Value.bool c14_t) rfl ?_)
            refine S_list (T_val (v := (Value.bool (decide ((en.size : Int) ≤ 64)))) (x_move rfl) ?_)
            rcases Bool.eq_false_or_eq_true (decide ((en.size : Int) ≤ 64)) with c17_t | c17_f
            · have c17_tp : (en.size : Int) ≤ 64 := of_decide_eq_true c17_t
              refine S_yes (j := 28) (dj := 31) (b := true) rfl rfl (congrArg Value.bool c17_t) (T_val (v := (Value.pointer (some ⟨b2_, 5, none⟩))) (by kernel_rfl) ?_)
              refine S_yes (j := 28) (dj := 31) (b := true) rfl rfl (congrArg Value.bool c17_t) (T_val (v := (Value.string val)) (x_load1 rfl Try.underlying9 rfl ((Holds.rd H4_ 0 rfl) 5 (Value.string val) rfl)) ?_)
              refine S_yes (j := 28) (dj := 31) (b := true) rfl rfl (congrArg Value.bool c17_t) (T_callW (al := [(Value.string val)]) rfl rfl cb34 (Calls.into (n := 6) (al := [(Value.string val)]) Try.func34 rfl Try.ntmps34 rfl rfl ?_))
              refine C_seq (fun K18_ hK18_ => ?_)
              refine C_reg ?_
              refine S_list (T_val (v := (Value.bool false)) (x_assign rfl) ?_)
              refine wpList_nil ?_
              refine (X_then (hK18_ _ _ ?_))
              clear hK18_
              refine C_seq (fun K19_ hK19_ => ?_)
              refine C_reg ?_
              refine S_list (T_val (v := (Value.string val)) (x_move rfl) ?_)
              refine S_list (T_val (v := (Value.int .i64 (val.size : Int))) (x_lenT rfl Try.underlying9) ?_)
              refine S_list (T_val (v := (Value.bool (decide ((val.size : Int) ≤ 64)))) (x_bin rfl rfl rfl) ?_)
              refine S_list (T_val (v := (Value.bool (decide ((val.size : Int) ≤ 64)))) (x_assign rfl) ?_)
              refine wpList_nil ?_
              refine (X_then (hK19_ _ _ ?_))
              clear hK19_
              refine C_ret ?_
              refine R_any (v := (Value.bool (decide ((val.size : Int) ≤ 64)))) (run_results1 rfl rfl) ⟨_, rfl, ?_⟩
              refine S_list (T_pickT (v := (Value.bool (decide ((val.size : Int) ≤ 64)))) (congrArg Value.bool c17_t) rfl ?_)
              refine S_list (T_val (v := (Value.bool (decide ((val.size : Int) ≤ 64)))) (x_assign rfl) ?_)
              refine wpList_nil ?_
              refine (X_then (hK7_ _ _ ?_))
              clear hK7_
              refine C_ret ?_
              refine R_any (v := (Value.bool (decide ((val.size : Int) ≤ 64)))) (run_results1 rfl rfl) ?_
              have H20_ : Holds w3_ (ro R :: F) := (Holds.erase (Holds.bring H4_ 1 rfl) 1)
              exact ⟨_, [], rfl, ⟨⟨_, rfl, fun hb => by first | (cases hb; done) | (refine ⟨?_, ?_, ?_, ?_⟩ <;> omega)⟩, rfl⟩, S6_, H20_⟩
            · have c17_fp : ¬ ((en.size : Int) ≤ 64) := of_decide_eq_false c17_f
              refine S_no (j := 28) (dj := 31) (b := false) rfl rfl (congrArg Value.bool c17_f) (by decide) ?_
              refine S_no (j := 28) (dj := 31) (b := false) rfl rfl (congrArg Value.bool c17_f) (by decide) ?_
              refine S_no (j := 28) (dj := 31) (b := false) rfl rfl (congrArg Value.bool c17_f) (by decide) ?_
              refine S_list (T_pickF (v := (Value.bool false)) (congrArg Value.bool c17_f) rfl ?_)
              refine S_list (T_val (v := (Value.bool false)) (x_assign rfl) ?_)
              refine wpList_nil ?_
              refine (X_then (hK7_ _ _ ?_))
              clear hK7_
              refine C_ret ?_
              refine R_any (v := (Value.bool false)) (run_results1 rfl rfl) ?_
              have H21_ : Holds w3_ (ro R :: F) := (Holds.erase (Holds.bring H4_ 1 rfl) 1)
              exact ⟨_, [], rfl, ⟨⟨_, rfl, fun hb => by first | (cases hb; done) | (refine ⟨?_, ?_, ?_, ?_⟩ <;> omega)⟩, rfl⟩, S6_, H21_⟩
          · have c14_fp : ¬ ((key.size : Int) ≤ 64) := of_decide_eq_false c14_f
            refine S_no (j := 23) (dj := 26) (b := false) rfl rfl (congrArg Value.bool c14_f) (by decide) ?_
            refine S_no (j := 23) (dj := 26) (b := false) rfl rfl (congrArg Value.bool c14_f) (by decide) ?_
            refine S_no (j := 23) (dj := 26) (b := false) rfl rfl (congrArg Value.bool c14_f) (by decide) ?_
            refine S_list (T_pickF (v := (Value.bool false)) (congrArg Value.bool c14_f) rfl ?_)
            refine S_list (T_val (v := (Value.bool false)) (x_move rfl) ?_)
            refine S_no (j := 28) (dj := 31) (b := false) rfl rfl rfl (by decide) ?_
            refine S_no (j := 28) (dj := 31) (b := false) rfl rfl rfl (by decide) ?_
            refine S_no (j := 28) (dj := 31) (b := false) rfl rfl rfl (by decide) ?_
            refine S_list (T_pickF (v := (Value.bool false)) rfl rfl ?_)
            refine S_list (T_val (v := (Value.bool false)) (x_assign rfl) ?_)
            refine wpList_nil ?_
            refine (X_then (hK7_ _ _ ?_))
            clear hK7_
            refine C_ret ?_
            refine R_any (v := (Value.bool false)) (run_results1 rfl rfl) ?_
            have H22_ : Holds w3_ (ro R :: F) := (Holds.erase (Holds.bring H4_ 1 rfl) 1)
            exact ⟨_, [], rfl, ⟨⟨_, rfl, fun hb => by first | (cases hb; done) | (refine ⟨?_, ?_, ?_, ?_⟩ <;> omega)⟩, rfl⟩, S6_, H22_⟩
        · have c11_fp : ¬ (r ≤ 3) := of_decide_eq_false c11_f
          refine S_no (j := 18) (dj := 21) (b := false) rfl rfl (congrArg Value.bool c11_f) (by decide) ?_
          refine S_no (j := 18) (dj := 21) (b := false) rfl rfl (congrArg Value.bool c11_f) (by decide) ?_
          refine S_no (j := 18) (dj := 21) (b := false) rfl rfl (congrArg Value.bool c11_f) (by decide) ?_
          refine S_list (T_pickF (v := (Value.bool false)) (congrArg Value.bool c11_f) rfl ?_)
          refine S_list (T_val (v := (Value.bool false)) (x_move rfl) ?_)
          refine S_no (j := 23) (dj := 26) (b := false) rfl rfl rfl (by decide) ?_
          refine S_no (j := 23) (dj := 26) (b := false) rfl rfl rfl (by decide) ?_
          refine S_no (j := 23) (dj := 26) (b := false) rfl rfl rfl (by decide) ?_
          refine S_list (T_pickF (v := (Value.bool false)) rfl rfl ?_)
          refine S_list (T_val (v := (Value.bool false)) (x_move rfl) ?_)
          refine S_no (j := 28) (dj := 31) (b := false) rfl rfl rfl (by decide) ?_
          refine S_no (j := 28) (dj := 31) (b := false) rfl rfl rfl (by decide) ?_
          refine S_no (j := 28) (dj := 31) (b := false) rfl rfl rfl (by decide) ?_
          refine S_list (T_pickF (v := (Value.bool false)) rfl rfl ?_)
          refine S_list (T_val (v := (Value.bool false)) (x_assign rfl) ?_)
          refine wpList_nil ?_
          refine (X_then (hK7_ _ _ ?_))
          clear hK7_
          refine C_ret ?_
          refine R_any (v := (Value.bool false)) (run_results1 rfl rfl) ?_
          have H23_ : Holds w3_ (ro R :: F) := (Holds.erase (Holds.bring H4_ 1 rfl) 1)
          exact ⟨_, [], rfl, ⟨⟨_, rfl, fun hb => by first | (cases hb; done) | (refine ⟨?_, ?_, ?_, ?_⟩ <;> omega)⟩, rfl⟩, S6_, H23_⟩
      · have c10_fp : ¬ (0 ≤ r) := of_decide_eq_false c10_f
        refine S_no (j := 13) (dj := 16) (b := false) rfl rfl (congrArg Value.bool c10_f) (by decide) ?_
        refine S_no (j := 13) (dj := 16) (b := false) rfl rfl (congrArg Value.bool c10_f) (by decide) ?_
        refine S_no (j := 13) (dj := 16) (b := false) rfl rfl (congrArg Value.bool c10_f) (by decide) ?_
        refine S_list (T_pickF (v := (Value.bool false)) (congrArg Value.bool c10_f) rfl ?_)
        refine S_list (T_val (v := (Value.bool false)) (x_move rfl) ?_)
        refine S_no (j := 18) (dj := 21) (b := false) rfl rfl rfl (by decide) ?_
        refine S_no (j := 18) (dj := 21) (b := false) rfl rfl rfl (by decide) ?_
        refine S_no (j := 18) (dj := 21) (b := false) rfl rfl rfl (by decide) ?_
        refine S_list (T_pickF (v := (Value.bool false)) rfl rfl ?_)
        refine S_list (T_val (v := (Value.bool false)) (x_move rfl) ?_)
        refine S_no (j := 23) (dj := 26) (b := false) rfl rfl rfl (by decide) ?_
        refine S_no (j := 23) (dj := 26) (b := false) rfl rfl rfl (by decide) ?_
        refine S_no (j := 23) (dj := 26) (b := false) rfl rfl rfl (by decide) ?_
        refine S_list (T_pickF (v := (Value.bool false)) rfl rfl ?_)
        refine S_list (T_val (v := (Value.bool false)) (x_move rfl) ?_)
        refine S_no (j := 28) (dj := 31) (b := false) rfl rfl rfl (by decide) ?_
        refine S_no (j := 28) (dj := 31) (b := false) rfl rfl rfl (by decide) ?_
        refine S_no (j := 28) (dj := 31) (b := false) rfl rfl rfl (by decide) ?_
        refine S_list (T_pickF (v := (Value.bool false)) rfl rfl ?_)
        refine S_list (T_val (v := (Value.bool false)) (x_assign rfl) ?_)
        refine wpList_nil ?_
        refine (X_then (hK7_ _ _ ?_))
        clear hK7_
        refine C_ret ?_
        refine R_any (v := (Value.bool false)) (run_results1 rfl rfl) ?_
        have H24_ : Holds w3_ (ro R :: F) := (Holds.erase (Holds.bring H4_ 1 rfl) 1)
        exact ⟨_, [], rfl, ⟨⟨_, rfl, fun hb => by first | (cases hb; done) | (refine ⟨?_, ?_, ?_, ?_⟩ <;> omega)⟩, rfl⟩, S6_, H24_⟩
    · have c9_fp : ¬ (T ≤ 4) := of_decide_eq_false c9_f
      refine S_no (j := 8) (dj := 11) (b := false) rfl rfl (congrArg Value.bool c9_f) (by decide) ?_
      refine S_no (j := 8) (dj := 11) (b := false) rfl rfl (congrArg Value.bool c9_f) (by decide) ?_
      refine S_no (j := 8) (dj := 11) (b := false) rfl rfl (congrArg Value.bool c9_f) (by decide) ?_
      refine S_list (T_pickF (v := (Value.bool false)) (congrArg Value.bool c9_f) rfl ?_)
      refine S_list (T_val (v := (Value.bool false)) (x_move rfl) ?_)
      refine S_no (j := 13) (dj := 16) (b := false) rfl rfl rfl (by decide) ?_
      refine S_no (j := 13) (dj := 16) (b := false) rfl rfl rfl (by decide) ?_
      refine S_no (j := 13) (dj := 16) (b := false) rfl rfl rfl (by decide) ?_
      refine S_list (T_pickF (v := (Value.bool false)) rfl rfl ?_)
      refine S_list (T_val (v := (Value.bool false)) (x_move rfl) ?_)
      refine S_no (j := 18) (dj := 21) (b := false) rfl rfl rfl (by decide) ?_
      refine S_no (j := 18) (dj := 21) (b := false) rfl rfl rfl (by decide) ?_
      refine S_no (j := 18) (dj := 21) (b := false) rfl rfl rfl (by decide) ?_
      refine S_list (T_pickF (v := (Value.bool false)) rfl rfl ?_)
      refine S_list (T_val (v := (Value.bool false)) (x_move rfl) ?_)
      refine S_no (j := 23) (dj := 26) (b := false) rfl rfl rfl (by decide) ?_
      refine S_no (j := 23) (dj := 26) (b := false) rfl rfl rfl (by decide) ?_
      refine S_no (j := 23) (dj := 26) (b := false) rfl rfl rfl (by decide) ?_
      refine S_list (T_pickF (v := (Value.bool false)) rfl rfl ?_)
      refine S_list (T_val (v := (Value.bool false)) (x_move rfl) ?_)
      refine S_no (j := 28) (dj := 31) (b := false) rfl rfl rfl (by decide) ?_
      refine S_no (j := 28) (dj := 31) (b := false) rfl rfl rfl (by decide) ?_
      refine S_no (j := 28) (dj := 31) (b := false) rfl rfl rfl (by decide) ?_
      refine S_list (T_pickF (v := (Value.bool false)) rfl rfl ?_)
      refine S_list (T_val (v := (Value.bool false)) (x_assign rfl) ?_)
      refine wpList_nil ?_
      refine (X_then (hK7_ _ _ ?_))
      clear hK7_
      refine C_ret ?_
      refine R_any (v := (Value.bool false)) (run_results1 rfl rfl) ?_
      have H25_ : Holds w3_ (ro R :: F) := (Holds.erase (Holds.bring H4_ 1 rfl) 1)
      exact ⟨_, [], rfl, ⟨⟨_, rfl, fun hb => by first | (cases hb; done) | (refine ⟨?_, ?_, ?_, ?_⟩ <;> omega)⟩, rfl⟩, S6_, H25_⟩
  · have c8_fp : ¬ (0 ≤ T) := of_decide_eq_false c8_f
    refine S_no (j := 3) (dj := 6) (b := false) rfl rfl (congrArg Value.bool c8_f) (by decide) ?_
    refine S_no (j := 3) (dj := 6) (b := false) rfl rfl (congrArg Value.bool c8_f) (by decide) ?_
    refine S_no (j := 3) (dj := 6) (b := false) rfl rfl (congrArg Value.bool c8_f) (by decide) ?_
    refine S_list (T_pickF (v := (Value.bool false)) (congrArg Value.bool c8_f) rfl ?_)
    refine S_list (T_val (v := (Value.bool false)) (x_move rfl) ?_)
    refine S_no (j := 8) (dj := 11) (b := false) rfl rfl rfl (by decide) ?_
    refine S_no (j := 8) (dj := 11) (b := false) rfl rfl rfl (by decide) ?_
    refine S_no (j := 8) (dj := 11) (b := false) rfl rfl rfl (by decide) ?_
    refine S_list (T_pickF (v := (Value.bool false)) rfl rfl ?_)
    refine S_list (T_val (v := (Value.bool false)) (x_move rfl) ?_)
    refine S_no (j := 13) (dj := 16) (b := false) rfl rfl rfl (by decide) ?_
    refine S_no (j := 13) (dj := 16) (b := false) rfl rfl rfl (by decide) ?_
    refine S_no (j := 13) (dj := 16) (b := false) rfl rfl rfl (by decide) ?_
    refine S_list (T_pickF (v := (Value.bool false)) rfl rfl ?_)
    refine S_list (T_val (v := (Value.bool false)) (x_move rfl) ?_)
    refine S_no (j := 18) (dj := 21) (b := false) rfl rfl rfl (by decide) ?_
    refine S_no (j := 18) (dj := 21) (b := false) rfl rfl rfl (by decide) ?_
    refine S_no (j := 18) (dj := 21) (b := false) rfl rfl rfl (by decide) ?_
    refine S_list (T_pickF (v := (Value.bool false)) rfl rfl ?_)
    refine S_list (T_val (v := (Value.bool false)) (x_move rfl) ?_)
    refine S_no (j := 23) (dj := 26) (b := false) rfl rfl rfl (by decide) ?_
    refine S_no (j := 23) (dj := 26) (b := false) rfl rfl rfl (by decide) ?_
    refine S_no (j := 23) (dj := 26) (b := false) rfl rfl rfl (by decide) ?_
    refine S_list (T_pickF (v := (Value.bool false)) rfl rfl ?_)
    refine S_list (T_val (v := (Value.bool false)) (x_move rfl) ?_)
    refine S_no (j := 28) (dj := 31) (b := false) rfl rfl rfl (by decide) ?_
    refine S_no (j := 28) (dj := 31) (b := false) rfl rfl rfl (by decide) ?_
    refine S_no (j := 28) (dj := 31) (b := false) rfl rfl rfl (by decide) ?_
    refine S_list (T_pickF (v := (Value.bool false)) rfl rfl ?_)
    refine S_list (T_val (v := (Value.bool false)) (x_assign rfl) ?_)
    refine wpList_nil ?_
    refine (X_then (hK7_ _ _ ?_))
    clear hK7_
    refine C_ret ?_
    refine R_any (v := (Value.bool false)) (run_results1 rfl rfl) ?_
    have H26_ : Holds w3_ (ro R :: F) := (Holds.erase (Holds.bring H4_ 1 rfl) 1)
    exact ⟨_, [], rfl, ⟨⟨_, rfl, fun hb => by first | (cases hb; done) | (refine ⟨?_, ?_, ?_, ?_⟩ <;> omega)⟩, rfl⟩, S6_, H26_⟩
end Go.Proofs.Ytfdnfnjmphjdnaa
