/- Words, and proved steps, on which the proof leans. -/
import Derived.Test.YtlnihndjepjagaaOf5
set_option linter.unusedVariables false
set_option linter.unusedSimpArgs false
namespace Go.Proofs.Ytlnihndjepjagaa
open Go Go.RowKit Gw Try
open Go.Value renaming int → vI, bool → vB, slice → vS, pointer → vP, agg → vA, tuple → vT

theorem ib_remU {x : Int} {y : Nat} (hy : 0 < y) : ∃ r : Nat, r < y ∧ ibin .rem .u64 (IntKind.u64.wrap x) (y : Int) = some (.int .u64 (r : Int)) := by
  have h0 : ((y : Int) = 0) = False := by simp; omega
  have hx : 0 ≤ IntKind.u64.wrap x := by simp [IntKind.wrap, IntKind.bits, IntKind.signed]; omega
  refine ⟨((IntKind.u64.wrap x).tmod y).toNat, ?_, ?_⟩
  · have h1 := Int.tmod_lt_of_pos (IntKind.u64.wrap x) (show (0 : Int) < y by omega)
    have h2 := Int.tmod_nonneg (y : Int) hx
    omega
  · simp only [ibin, h0, if_false]
    rw [Int.toNat_of_nonneg (Int.tmod_nonneg _ hx)]
theorem fm_set {α : Type} {F : α → List Value} {n : Nat} (hF : ∀ x, (F x).length = n) : ∀ (l : List α) (i : Nat) (y : α), i < l.length → List.take (i * n) (l.flatMap F) ++ F y ++ List.drop (i * n + (F y).length) (l.flatMap F) = (l.set i y).flatMap F
  | [], i, y, h => by simp at h
  | x :: l, 0, y, h => by
    have : n = (F x).length := (hF x).symm
    rw [List.flatMap_cons, List.set_cons_zero, List.flatMap_cons, Nat.zero_mul, List.take_zero, List.nil_append, Nat.zero_add, hF y, this, List.drop_left]
  | x :: l, i + 1, y, h => by
    have ih := fm_set hF l i y (by simpa using h)
    have hx := hF x
    rw [List.flatMap_cons, List.set_cons_succ, List.flatMap_cons, ← ih, show (i + 1) * n = (F x).length + i * n by rw [hx, Nat.add_mul, Nat.one_mul, Nat.add_comm], List.take_append, List.take_of_length_le (by omega), Nat.add_sub_cancel_left,
      Nat.add_assoc, List.drop_append, List.drop_of_length_le (by omega), Nat.add_sub_cancel_left, List.nil_append]
    simp only [List.append_assoc]
theorem swap_perm {M L : List RT} {i k : Nat} {x y : RT} (h : M.Perm L) (hx : M[i]? = some x) (hy : M[k]? = some y) : ((M.set i y).set k x).Perm L := by
  obtain ⟨h1, rfl⟩ := List.getElem?_eq_some_iff.1 hx
  obtain ⟨h2, rfl⟩ := List.getElem?_eq_some_iff.1 hy
  exact (List.set_set_perm h1 h2).trans h
theorem few_kinds {L : List RT} (h : 0 ≤ manyL L 3 0 ∧ manyL L 3 0 ≤ 200) : L.length ≤ 200 ∧ ∀ x ∈ L, 1 ≤ x.q.kind ∧ x.q.kind ≤ 4 := by
  obtain ⟨h1, h2⟩ := manyL_len L 3 0 (Int.le_refl 0) h.1
  refine ⟨by omega, fun x hx => ?_⟩
  obtain ⟨m, hm, hk⟩ := h2 x hx
  rw [manyT_def] at hk
  split at hk
  · omega
  · omega
theorem all_perm {α : Type} {M L : List α} {p : α → Prop} (h : M.Perm L) (hp : ∀ x ∈ L, p x) : ∀ x ∈ M, p x := fun x hx => hp x (h.mem_iff.1 hx)
theorem kinds_snoc {M : List RT} {k : Nat} {x : RT} (h : ∀ y ∈ M.take k, y.q.kind ≠ 4) (hx : M[k]? = some x) (h4 : x.q.kind ≠ 4) : ∀ y ∈ M.take (k + 1), y.q.kind ≠ 4 := by
  rw [take_snoc hx]
  intro y hy
  rcases List.mem_append.1 hy with hy | hy
  · exact h y hy
  · rw [List.mem_singleton.1 hy]; exact h4
theorem ones_RTo {R : HP} {L : List RT} (h : RAts R L) : ∀ u ∈ L.flatMap RT.cells, u.oneCell' = true := by
  intro u hu
  obtain ⟨x, hx, hu⟩ := List.mem_flatMap.1 hu
  simp only [RT.cells, RQ.cells, List.mem_cons, List.not_mem_nil, or_false] at hu
  rcases hu with rfl | rfl | rfl | rfl | rfl | rfl | rfl | rfl | rfl | rfl | rfl | rfl | rfl | rfl | rfl | rfl | rfl | rfl | rfl | rfl | rfl <;> first | rfl | exact (h x hx).c.one | exact (h x hx).t.one | exact (h x hx).e.one


set_option maxHeartbeats 1600000 in
theorem ovTexts (R : HP) (v1 v2 : Value) (K KB : List ByteArray) (h1 : RS R 1 v1 (List.length K) (K.map Value.string)) (h2 : RS R 1 v2 (List.length KB) (KB.map Value.string)) (hn : K.length ≤ 1000000) (hKK : KB = K) :
    Tri Try.prog 19 #[v1, v2] R [] (fun v__ post__ => v__ = (vB true) ∧ post__ = []) := by
 have hll_ := congrArg List.length hKK
 refine Tri.into (n := 26) (al := [v1, v2]) func19 rfl ntmps19 rfl rfl fun w F H => ?_
 refine cr fun _ hK1_ => ?_
 refine sv (v := (vB false)) (x_assign rfl) ?_
 refine wn (hK1_ _ _ ?_)
 refine C_seq (fun _ hK2_ => ?_)
 refine cr fun _ hK3_ => ?_
 refine sv (v := v1) (x_move rfl) ?_
 refine sv (v := (vI .i64 ((List.length K) : Int))) (x_lenRS rfl h1 underlying28) ?_
 refine sv (v := v2) (x_move rfl) ?_
 refine sv (v := (vI .i64 ((List.length KB) : Int))) (x_lenRS rfl h2 underlying28) ?_
 refine sv (v := (vB (decide (((List.length K) : Int) ≠ ((List.length KB) : Int))))) (x_bin rfl rfl rfl) ?_
 refine wn (hK3_ _ _ ?_)
 refine C_cond (b := decide (((List.length K) : Int) ≠ ((List.length KB) : Int))) rfl (fun c4_t => ?_) (fun c4_f => ?_)
 ·have c4_tp : ((List.length K) : Int) ≠ ((List.length KB) : Int) := of_decide_eq_true c4_t
  omega
 ·have c4_fp : ¬ (((List.length K) : Int) ≠ ((List.length KB) : Int)) := of_decide_eq_false c4_f
  refine C_skip (X_then (hK2_ _ _ ?_))
  refine C_seq (fun _ hK5_ => ?_)
  refine cr fun _ hK6_ => ?_
  refine sv (v := v1) (x_move rfl) ?_
  refine sv (v := (vI .i64 ((List.length K) : Int))) (x_lenRS rfl h1 underlying28) ?_
  refine sm (vI .i64 0) ?_
  refine wn (hK6_ _ _ ?_)
  refine C_block ?_
  refine C_loop (γ := Nat × Bool) (fun x__ a__ w1__ => match x__ with | ⟨k, t4_v⟩ => ∃ h : Env, a__ = mkA 26 (upd (upd (upd (upd (upd h 0 v1) 1 v2) 4 (vB t4_v)) 12 (vI .i64 ((List.length K) : Int))) 13 (vI .i64 (k : Int))) [] ∧ Holds w1__ (ro R :: F) ∧ Same w w1__ ∧ (k ≤ K.length)) (fun x__ => match x__ with | ⟨k, t4_v⟩ => K.length - k) (⟨0, false⟩) ⟨_, congrArg (fun e => mkA 26 e []) (ch (ch (ch (ch (ch rfl rfl) rfl) rfl) rfl) (congrArg (vI .i64) ((by first | rfl | omega | (simp; done) | (simp; omega)) : 0 = (0 : Int)))), H, (Same.refl w), (by first | assumption | omega | exact rfl)⟩ ?_
  rintro ⟨k, t4_v⟩ _ w7_ ⟨h, rfl, H8_, S9_, hkk⟩
  refine cr fun _ hK10_ => ?_
  refine sv (v := (vB (decide ((k : Int) < ((List.length K) : Int))))) (x_bin rfl rfl rfl) ?_
  refine wn (hK10_ _ _ ?_)
  refine C_seq (fun _ hK11_ => ?_)
  refine C_cond (b := decide ((k : Int) < ((List.length K) : Int))) rfl (fun c12_t => ?_) (fun c12_f => ?_)
  ·have c12_tp : (k : Int) < ((List.length K) : Int) := of_decide_eq_true c12_t
   refine C_skip (X_then (hK11_ _ _ ?_))
   refine C_seq (fun _ hK13_ => ?_)
   refine C_block ?_
   refine cr fun _ hK14_ => ?_
   refine sm (vI .i64 (k : Int)) ?_
   refine sv (v := (vI .i64 (k : Int))) (x_assign rfl) ?_
   refine wn (hK14_ _ _ ?_)
   refine C_seq (fun _ hK15_ => ?_)
   refine A_start (S := fun w => Sub R (hp w)) (N := 9) foll rfl rfl ?_
   have H16_ := Holds.drew_ H8_
   have hq17_ := ((Holds.ro_at H16_ 0 rfl))
   refine A_tk 0 (v := v1) rfl (by kernel_rfl) (fun w hS => x_move rfl) hq17_ ?_
   refine A_tk 1 (v := (vI .i64 (k : Int))) rfl (by kernel_rfl) (fun w hS => x_move rfl) hq17_ ?_
   obtain ⟨x18_, hx19_, hm20_⟩ := elem_at K k (by omega)
   refine A_tk 2 (v := (vP (some ⟨(sb v1), so v1 + k, none⟩))) rfl (by kernel_rfl) (fun w hS => x_idxRS (v := v1) rfl h1 rfl underlying28 z9 (by omega) (by omega) (by omega : _ = k) (by rw [Nat.mul_one])) hq17_ ?_
   refine A_tk 3 (v := (Value.string x18_)) rfl (by kernel_rfl) (fun w hS => x_load1 rfl underlying9 rfl (RC.cell (RS.rc h1) hS (j := k) (u := (Value.string x18_)) ((map_at hx19_)))) hq17_ ?_
   refine A_tk 4 (v := v2) rfl (by kernel_rfl) (fun w hS => x_move rfl) hq17_ ?_
   refine A_tk 5 (v := (vI .i64 (k : Int))) rfl (by kernel_rfl) (fun w hS => x_move rfl) hq17_ ?_
   obtain ⟨x21_, hx22_, hm23_⟩ := elem_at KB k (by omega)
   refine A_tk 6 (v := (vP (some ⟨(sb v2), so v2 + k, none⟩))) rfl (by kernel_rfl) (fun w hS => x_idxRS (v := v2) rfl h2 rfl underlying28 z9 (by omega) (by omega) (by omega : _ = k) (by rw [Nat.mul_one])) hq17_ ?_
   refine A_tk 7 (v := (Value.string x21_)) rfl (by kernel_rfl) (fun w hS => x_load1 rfl underlying9 rfl (RC.cell (RS.rc h2) hS (j := k) (u := (Value.string x21_)) ((map_at hx22_)))) hq17_ ?_
   refine A_tk 8 (v := (vB (!(x18_.toList == x21_.toList)))) rfl (by kernel_rfl) (fun w hS => x_str rfl rfl rfl (by decide)) hq17_ ?_
   refine A_done (by kernel_rfl) ?_
   refine (X_then (hK15_ _ _ ?_))
   refine C_cond (b := !(x18_.toList == x21_.toList)) rfl (fun c24_t => ?_) (fun c24_f => ?_)
   ·skip
    exact absurd c24_t (by have h__ := hx22_; rw [hKK] at h__; rw [Option.some.inj (hx19_.symm.trans h__)]; simp)
   ·skip
    refine C_skip (X_blkN (X_then (hK13_ _ _ ?_)))
    refine C_reg ?_
    refine sv (v := (vI .i64 ((k : Int) + 1))) (x_bin rfl rfl (ib_add (IntWalk.i64_in _ (by omega)))) ?_
    refine sm (vI .i64 ((k : Int) + 1)) ?_
    refine wpList_nil (X_then ?_)
    exact ⟨⟨k + 1, t4_v⟩, ⟨_, congrArg (fun e => mkA 26 e []) (ch (ch (ch (ch (ch rfl rfl) rfl) rfl) rfl) (congrArg (vI .i64) ((by first | rfl | omega | (simp; done) | (simp; omega)) : (k : Int) + 1 = ((k + 1 : Nat) : Int)))), H16_, (Same.trans S9_ (Same.drew _)), (by first | assumption | omega | exact rfl)⟩, by first | omega | (dsimp only; omega) | (simp; omega)⟩
  ·have c12_fp : ¬ ((k : Int) < ((List.length K) : Int)) := of_decide_eq_false c12_f
   refine C_exit (X_thenX (X_thenX (X_blkHit ?_)))
   refine (X_then (hK5_ _ _ ?_))
   refine cr fun _ hK25_ => ?_
   refine sv (v := (vB true)) (x_assign rfl) ?_
   refine wn (hK25_ _ _ ?_)
   refine C_ret ?_
   refine R_any (v := (vB true)) (run_results1 rfl rfl) ?_
   exact ⟨_, _, rfl, ⟨rfl, rfl⟩, S9_, H8_⟩

set_option maxHeartbeats 1600000 in
theorem ovPlain (R : HP) (s : SN) (hpt : s.in__Point = false) :
    Tri Try.prog 76 #[(vA #[(Value.string s.in__Begin), (Value.string s.in__End), (vB s.in__Point), (vI .i64 s.from_), (vI .i64 s.till)])] R [] (fun v__ post__ => v__ = (vA #[(Value.string s.in__Begin), (Value.string s.in__End), (vB s.in__Point), (vI .i64 s.from_), (vI .i64 s.till)]) ∧ post__ = []) := by
 refine Tri.into (n := 16) (al := [(vA #[(Value.string s.in__Begin), (Value.string s.in__End), (vB s.in__Point), (vI .i64 s.from_), (vI .i64 s.till)])]) func76 rfl ntmps76 rfl rfl fun w F H => ?_
 refine cr fun _ hK1_ => ?_
 refine S_list (T_box (v := (vA #[(Value.string s.in__Begin), (Value.string s.in__End), (vB s.in__Point), (vI .i64 s.from_), (vI .i64 s.till)])) rfl H ?_)
 intro b2_ w3_ S5_ H4_
 have S6_ := Same.trans (Same.refl w) S5_
 refine S_list (T_alloc z44 H4_ ?_)
 intro b7_ w8_ S10_ H9_
 have S11_ := Same.trans S6_ S10_
 refine wn (hK1_ _ _ ?_)
 refine C_seq (fun _ hK12_ => ?_)
 refine cr fun _ hK13_ => ?_
 refine sv (v := (vQ b2_)) (by kernel_rfl) ?_
 refine sv (v := (vP (some ⟨b2_, 2, none⟩))) (by kernel_rfl) ?_
 refine sv (v := (vB s.in__Point)) (x_load1 rfl underlying4 rfl ((Holds.rd H9_ 1 rfl) 2 (vB s.in__Point) rfl)) ?_
 refine wn (hK13_ _ _ ?_)
 refine C_cond (b := s.in__Point) rfl (fun c14_t => ?_) (fun c14_f => ?_)
 ·skip
  exact absurd c14_t (by rw [hpt]; decide)
 ·skip
  refine C_skip (X_then (hK12_ _ _ ?_))
  refine cr fun _ hK15_ => ?_
  refine sv (v := (vA #[(Value.string s.in__Begin), (Value.string s.in__End), (vB s.in__Point), (vI .i64 s.from_), (vI .i64 s.till)])) (x_loadN (vs := [(Value.string s.in__Begin), (Value.string s.in__End), (vB s.in__Point), (vI .i64 s.from_), (vI .i64 s.till)]) rfl underlying44 rfl z44 rfl (Rd.cells (Holds.rd H9_ 1 rfl) 0 rfl)) ?_
  refine S_list0 (T_storeN (vs := [(Value.string s.in__Begin), (Value.string s.in__End), (vB s.in__Point), (vI .i64 s.from_), (vI .i64 s.till)]) rfl rfl z44 rfl (by simp [Value.oneCell']) H9_ 0 rfl (Nat.le_of_ble_eq_true (by rfl)) ?_)
  intro w16_ S18_ H17_
  have S19_ := Same.trans S11_ S18_
  refine wn (hK15_ _ _ ?_)
  refine C_ret ?_
  refine R_any (v := (vA #[(Value.string s.in__Begin), (Value.string s.in__End), (vB s.in__Point), (vI .i64 s.from_), (vI .i64 s.till)])) (run_results1 rfl ⟨_, rfl, load_resN underlying44 rfl z44 rfl (vs := [(Value.string s.in__Begin), (Value.string s.in__End), (vB s.in__Point), (vI .i64 s.from_), (vI .i64 s.till)]) (Holds.cl_cells H17_ 0 rfl 0 rfl)⟩) ?_
  have H20_ := Holds.pkF H17_ [2] 2
  exact ⟨_, _, rfl, ⟨rfl, rfl⟩, S19_, H20_⟩

set_option maxHeartbeats 1600000 in
theorem ovAhead (R : HP) (s : SN) (hpt : s.in__Point = false) :
    Tri Try.prog 55 #[(vI .i64 1), (vA #[(Value.string s.in__Begin), (Value.string s.in__End), (vB s.in__Point), (vI .i64 s.from_), (vI .i64 s.till)]), (vA #[(Value.string s.in__Begin), (Value.string s.in__End), (vB s.in__Point), (vI .i64 s.from_), (vI .i64 s.till)])] R [] (fun v__ post__ => v__ = (vB false) ∧ post__ = []) := by
 refine Tri.into (n := 47) (al := [(vI .i64 1), (vA #[(Value.string s.in__Begin), (Value.string s.in__End), (vB s.in__Point), (vI .i64 s.from_), (vI .i64 s.till)]), (vA #[(Value.string s.in__Begin), (Value.string s.in__End), (vB s.in__Point), (vI .i64 s.from_), (vI .i64 s.till)])]) func55 rfl ntmps55 rfl rfl fun w F H => ?_
 refine cr fun _ hK1_ => ?_
 refine S_list (T_box (v := (vA #[(Value.string s.in__Begin), (Value.string s.in__End), (vB s.in__Point), (vI .i64 s.from_), (vI .i64 s.till)])) rfl H ?_)
 intro b2_ w3_ S5_ H4_
 have S6_ := Same.trans (Same.refl w) S5_
 refine S_list (T_box (v := (vA #[(Value.string s.in__Begin), (Value.string s.in__End), (vB s.in__Point), (vI .i64 s.from_), (vI .i64 s.till)])) rfl H4_ ?_)
 intro b7_ w8_ S10_ H9_
 have S11_ := Same.trans S6_ S10_
 refine sv (v := (vB false)) (x_assign rfl) ?_
 refine wn (hK1_ _ _ ?_)
 refine C_seq (fun _ hK12_ => ?_)
 refine A_start (S := fun w => Rd b7_ [(Value.string s.in__Begin), (Value.string s.in__End), (vB s.in__Point), (vI .i64 s.from_), (vI .i64 s.till)] w ∧ Rd b2_ [(Value.string s.in__Begin), (Value.string s.in__End), (vB s.in__Point), (vI .i64 s.from_), (vI .i64 s.till)] w ∧ Sub R (hp w)) (N := 8) foll rfl rfl ?_
 have H13_ := Holds.drew_ H9_
 refine A_cut #[true, true, true, true, true, true, true, false] 1 (fun a__ w1__ => ∃ b28_ : Nat, ∃ b33_ : Nat, ∃ h : Env, a__ = mkA 47 (upd (upd (upd (upd (upd h 0 (vI .i64 1)) 6 (vB false)) 7 (vQ b28_)) 8 (vQ b33_)) 13 (vA #[(Value.string s.in__Begin), (Value.string s.in__End), (vB s.in__Point), (vI .i64 s.from_), (vI .i64 s.till)])) [] ∧ Holds w1__ (cl b33_ 44 [(Value.string ByteArray.empty), (Value.string ByteArray.empty), (vB false), (vI .i64 0), (vI .i64 0)] :: cl b28_ 44 [(Value.string s.in__Begin), (Value.string s.in__End), (vB s.in__Point), (vI .i64 s.from_), (vI .i64 s.till)] :: ro R :: cl b7_ 44 [(Value.string s.in__Begin), (Value.string s.in__End), (vB s.in__Point), (vI .i64 s.from_), (vI .i64 s.till)] :: cl b2_ 44 [(Value.string s.in__Begin), (Value.string s.in__End), (vB s.in__Point), (vI .i64 s.from_), (vI .i64 s.till)] :: F) ∧ Same w w1__) ?_ ?_
 ·rintro _ w151_ ⟨b28_, b33_, h, rfl, H152_, S153_⟩
  refine A_ready (i := 7) (rs := []) (by kernel_rfl) ?_
  refine AllR.cons ?_ AllR.nil
  refine A_op0 (ls' := #[true, true, true, true, true, true, true, true]) rfl (by kernel_rfl) (T_storeN (vs := [(Value.string s.in__Begin), (Value.string s.in__End), (vB s.in__Point), (vI .i64 s.from_), (vI .i64 s.till)]) rfl rfl z44 rfl (by simp [Value.oneCell']) H152_ 0 rfl (Nat.le_of_ble_eq_true (by rfl)) ?_)
  intro w154_ S156_ H155_
  have S157_ := Same.trans S153_ S156_
  refine ⟨⟨Holds.rd H155_ 3 rfl, Holds.rd H155_ 4 rfl, (Holds.ro_at H155_ 2 rfl)⟩, ?_⟩
  refine A_done (by kernel_rfl) ?_
  refine (X_then (hK12_ _ _ ?_))
  refine cr fun _ hK158_ => ?_
  refine sm (vI .i64 1) ?_
  refine sv (v := (vQ b28_)) (by kernel_rfl) ?_
  refine sv (v := (vQ b28_)) (by kernel_rfl) ?_
  refine sv (v := (Value.string s.in__Begin)) (x_load1 rfl underlying9 rfl ((Holds.rd H155_ 1 rfl) 0 (Value.string s.in__Begin) rfl)) ?_
  refine sv (v := (vQ b33_)) (by kernel_rfl) ?_
  refine sv (v := (vQ b33_)) (by kernel_rfl) ?_
  refine sv (v := (Value.string s.in__Begin)) (x_load1 rfl underlying9 rfl ((Holds.rd H155_ 0 rfl) 0 (Value.string s.in__Begin) rfl)) ?_
  refine sv (v := (vP (some ⟨b28_, 3, none⟩))) (by kernel_rfl) ?_
  refine sv (v := (vI .i64 s.from_)) (x_load1 rfl underlying2 rfl ((Holds.rd H155_ 1 rfl) 3 (vI .i64 s.from_) rfl)) ?_
  refine sv (v := (vP (some ⟨b33_, 3, none⟩))) (by kernel_rfl) ?_
  refine sv (v := (vI .i64 s.from_)) (x_load1 rfl underlying2 rfl ((Holds.rd H155_ 0 rfl) 3 (vI .i64 s.from_) rfl)) ?_
  have H160_ := ((Holds.bring H155_ 2 rfl) :)
  refine S_list (T_call (al := [(vI .i64 1), (Value.string s.in__Begin), (Value.string s.in__Begin), (vI .i64 s.from_), (vI .i64 s.from_)]) (pre := []) rfl rfl cb77 (spEnds R 1 s.in__Begin s.in__Begin s.from_ s.from_) H160_ ?_)
  rintro v159_ p164_ w161_ ⟨rfl, rfl⟩ S163_ H162_
  have S165_ := Same.trans S157_ S163_
  have hz_0 := ecm_refl 1 (ek 1 s.in__Begin s.from_)
  refine sv (v := (vI .i64 (ecm 1 (ek 1 s.in__Begin s.from_) (ek 1 s.in__Begin s.from_)))) (x_assign rfl) ?_
  refine wn (hK158_ _ _ ?_)
  refine cr fun _ hK166_ => ?_
  refine sm (vI .i64 (ecm 1 (ek 1 s.in__Begin s.from_) (ek 1 s.in__Begin s.from_))) ?_
  refine sv (v := (vB (decide (ecm 1 (ek 1 s.in__Begin s.from_) (ek 1 s.in__Begin s.from_) < 0)))) (x_bin rfl rfl rfl) ?_
  refine sv (v := (vB (decide (ecm 1 (ek 1 s.in__Begin s.from_) (ek 1 s.in__Begin s.from_) < 0)))) (x_move rfl) ?_
  rcases Bool.eq_false_or_eq_true (decide (ecm 1 (ek 1 s.in__Begin s.from_) (ek 1 s.in__Begin s.from_) < 0)) with c167_t | c167_f
  ·have c167_tp : ecm 1 (ek 1 s.in__Begin s.from_) (ek 1 s.in__Begin s.from_) < 0 := of_decide_eq_true c167_t
   omega
  ·have c167_fp : ¬ (ecm 1 (ek 1 s.in__Begin s.from_) (ek 1 s.in__Begin s.from_) < 0) := of_decide_eq_false c167_f
   refine S_yes (j := 2) (dj := 28) (b := false) rfl rfl (congrArg vB c167_f) (T_val (v := (vI .i64 (ecm 1 (ek 1 s.in__Begin s.from_) (ek 1 s.in__Begin s.from_)))) (x_move rfl) ?_)
   refine S_yes (j := 2) (dj := 28) (b := false) rfl rfl (congrArg vB c167_f) (T_val (v := (vB (decide (ecm 1 (ek 1 s.in__Begin s.from_) (ek 1 s.in__Begin s.from_) = 0)))) (x_bin rfl rfl rfl) ?_)
   refine S_yes (j := 2) (dj := 28) (b := false) rfl rfl (congrArg vB c167_f) (T_val (v := (vB (decide (ecm 1 (ek 1 s.in__Begin s.from_) (ek 1 s.in__Begin s.from_) = 0)))) (x_move rfl) ?_)
   rcases Bool.eq_false_or_eq_true (decide (ecm 1 (ek 1 s.in__Begin s.from_) (ek 1 s.in__Begin s.from_) = 0)) with c168_t | c168_f
   ·have c168_tp : ecm 1 (ek 1 s.in__Begin s.from_) (ek 1 s.in__Begin s.from_) = 0 := of_decide_eq_true c168_t
    refine S_yes (j := 5) (dj := 31) (b := true) rfl rfl (congrArg vB c168_t) (T_val (v := (vI .i64 1)) (x_move rfl) ?_)
    refine S_yes (j := 5) (dj := 31) (b := true) rfl rfl (congrArg vB c168_t) (T_val (v := (vQ b28_)) (by kernel_rfl) ?_)
    refine S_yes (j := 5) (dj := 31) (b := true) rfl rfl (congrArg vB c168_t) (T_val (v := (vP (some ⟨b28_, 1, none⟩))) (by kernel_rfl) ?_)
    refine S_yes (j := 5) (dj := 31) (b := true) rfl rfl (congrArg vB c168_t) (T_val (v := (Value.string s.in__End)) (x_load1 rfl underlying9 rfl ((Holds.rd H162_ 2 rfl) 1 (Value.string s.in__End) rfl)) ?_)
    refine S_yes (j := 5) (dj := 31) (b := true) rfl rfl (congrArg vB c168_t) (T_val (v := (vQ b33_)) (by kernel_rfl) ?_)
    refine S_yes (j := 5) (dj := 31) (b := true) rfl rfl (congrArg vB c168_t) (T_val (v := (vP (some ⟨b33_, 1, none⟩))) (by kernel_rfl) ?_)
    refine S_yes (j := 5) (dj := 31) (b := true) rfl rfl (congrArg vB c168_t) (T_val (v := (Value.string s.in__End)) (x_load1 rfl underlying9 rfl ((Holds.rd H162_ 1 rfl) 1 (Value.string s.in__End) rfl)) ?_)
    refine S_yes (j := 5) (dj := 31) (b := true) rfl rfl (congrArg vB c168_t) (T_val (v := (vP (some ⟨b28_, 4, none⟩))) (by kernel_rfl) ?_)
    refine S_yes (j := 5) (dj := 31) (b := true) rfl rfl (congrArg vB c168_t) (T_val (v := (vI .i64 s.till)) (x_load1 rfl underlying2 rfl ((Holds.rd H162_ 2 rfl) 4 (vI .i64 s.till) rfl)) ?_)
    refine S_yes (j := 5) (dj := 31) (b := true) rfl rfl (congrArg vB c168_t) (T_val (v := (vP (some ⟨b33_, 4, none⟩))) (by kernel_rfl) ?_)
    refine S_yes (j := 5) (dj := 31) (b := true) rfl rfl (congrArg vB c168_t) (T_val (v := (vI .i64 s.till)) (x_load1 rfl underlying2 rfl ((Holds.rd H162_ 1 rfl) 4 (vI .i64 s.till) rfl)) ?_)
    refine S_yes (j := 5) (dj := 31) (b := true) rfl rfl (congrArg vB c168_t) (T_call (al := [(vI .i64 1), (Value.string s.in__End), (Value.string s.in__End), (vI .i64 s.till), (vI .i64 s.till)]) (pre := []) rfl rfl cb77 (spEnds R 1 s.in__End s.in__End s.till s.till) H162_ ?_)
    rintro v169_ p173_ w170_ ⟨rfl, rfl⟩ S172_ H171_
    have S174_ := Same.trans S165_ S172_
    have hz_2 := ecm_refl 1 (ek 1 s.in__End s.till)
    refine S_yes (j := 5) (dj := 31) (b := true) rfl rfl (congrArg vB c168_t) (T_val (v := (vB (decide (ecm 1 (ek 1 s.in__End s.till) (ek 1 s.in__End s.till) < 0)))) (x_bin rfl rfl rfl) ?_)
    refine S_yes (j := 2) (dj := 28) (b := false) rfl rfl (congrArg vB c167_f) (T_pickT (v := (vB (decide (ecm 1 (ek 1 s.in__End s.till) (ek 1 s.in__End s.till) < 0)))) (congrArg vB c168_t) rfl ?_)
    refine S_list (T_pickF (v := (vB (decide (ecm 1 (ek 1 s.in__End s.till) (ek 1 s.in__End s.till) < 0)))) (congrArg vB c167_f) rfl ?_)
    refine sv (v := (vB (decide (ecm 1 (ek 1 s.in__End s.till) (ek 1 s.in__End s.till) < 0)))) (x_assign rfl) ?_
    refine wn (hK166_ _ _ ?_)
    refine C_ret ?_
    refine R_any (v := (vB (decide (ecm 1 (ek 1 s.in__End s.till) (ek 1 s.in__End s.till) < 0)))) (run_results1 rfl rfl) ?_
    have H175_ := Holds.pkF H171_ [0] 4
    exact ⟨_, _, rfl, ⟨(congrArg vB ((by simp; try omega) : (decide (ecm 1 (ek 1 s.in__End s.till) (ek 1 s.in__End s.till) < 0)) = false)), rfl⟩, S174_, H175_⟩
   ·have c168_fp : ¬ (ecm 1 (ek 1 s.in__Begin s.from_) (ek 1 s.in__Begin s.from_) = 0) := of_decide_eq_false c168_f
    refine S_no (j := 5) (dj := 31) (b := false) rfl rfl (congrArg vB c168_f) (by decide) ?_
    refine S_no (j := 5) (dj := 31) (b := false) rfl rfl (congrArg vB c168_f) (by decide) ?_
    refine S_no (j := 5) (dj := 31) (b := false) rfl rfl (congrArg vB c168_f) (by decide) ?_
    refine S_no (j := 5) (dj := 31) (b := false) rfl rfl (congrArg vB c168_f) (by decide) ?_
    refine S_no (j := 5) (dj := 31) (b := false) rfl rfl (congrArg vB c168_f) (by decide) ?_
    refine S_no (j := 5) (dj := 31) (b := false) rfl rfl (congrArg vB c168_f) (by decide) ?_
    refine S_no (j := 5) (dj := 31) (b := false) rfl rfl (congrArg vB c168_f) (by decide) ?_
    refine S_no (j := 5) (dj := 31) (b := false) rfl rfl (congrArg vB c168_f) (by decide) ?_
    refine S_no (j := 5) (dj := 31) (b := false) rfl rfl (congrArg vB c168_f) (by decide) ?_
    refine S_no (j := 5) (dj := 31) (b := false) rfl rfl (congrArg vB c168_f) (by decide) ?_
    refine S_no (j := 5) (dj := 31) (b := false) rfl rfl (congrArg vB c168_f) (by decide) ?_
    refine S_no (j := 5) (dj := 31) (b := false) rfl rfl (congrArg vB c168_f) (by decide) ?_
    refine S_no (j := 5) (dj := 31) (b := false) rfl rfl (congrArg vB c168_f) (by decide) ?_
    refine S_yes (j := 2) (dj := 28) (b := false) rfl rfl (congrArg vB c167_f) (T_pickF (v := (vB false)) (congrArg vB c168_f) rfl ?_)
    refine S_list (T_pickF (v := (vB false)) (congrArg vB c167_f) rfl ?_)
    refine sv (v := (vB false)) (x_assign rfl) ?_
    refine wn (hK166_ _ _ ?_)
    refine C_ret ?_
    refine R_any (v := (vB false)) (run_results1 rfl rfl) ?_
    have H176_ := Holds.pkF H162_ [0] 4
    exact ⟨_, _, rfl, ⟨rfl, rfl⟩, S165_, H176_⟩
 intro hJ143
 refine A_cut #[true, true, true, true, true, true, false, false] 2 (fun a__ w1__ => ∃ b28_ : Nat, ∃ b33_ : Nat, ∃ h : Env, a__ = mkA 47 (upd (upd (upd (upd (upd (upd h 0 (vI .i64 1)) 6 (vB false)) 7 (vQ b28_)) 8 (vQ b33_)) 11 (vA #[(Value.string s.in__Begin), (Value.string s.in__End), (vB s.in__Point), (vI .i64 s.from_), (vI .i64 s.till)])) 13 (vA #[(Value.string s.in__Begin), (Value.string s.in__End), (vB s.in__Point), (vI .i64 s.from_), (vI .i64 s.till)])) [] ∧ Holds w1__ (cl b33_ 44 [(Value.string ByteArray.empty), (Value.string ByteArray.empty), (vB false), (vI .i64 0), (vI .i64 0)] :: cl b28_ 44 [(Value.string ByteArray.empty), (Value.string ByteArray.empty), (vB false), (vI .i64 0), (vI .i64 0)] :: ro R :: cl b7_ 44 [(Value.string s.in__Begin), (Value.string s.in__End), (vB s.in__Point), (vI .i64 s.from_), (vI .i64 s.till)] :: cl b2_ 44 [(Value.string s.in__Begin), (Value.string s.in__End), (vB s.in__Point), (vI .i64 s.from_), (vI .i64 s.till)] :: F) ∧ Same w w1__) ?_ ?_
 ·rintro _ w177_ ⟨b28_, b33_, h, rfl, H178_, S179_⟩
  refine A_ready (i := 6) (rs := []) (by kernel_rfl) ?_
  refine AllR.cons ?_ AllR.nil
  refine A_op0 (ls' := #[true, true, true, true, true, true, true, false]) rfl (by kernel_rfl) (T_storeN (vs := [(Value.string s.in__Begin), (Value.string s.in__End), (vB s.in__Point), (vI .i64 s.from_), (vI .i64 s.till)]) rfl rfl z44 rfl (by simp [Value.oneCell']) H178_ 1 rfl (Nat.le_of_ble_eq_true (by rfl)) ?_)
  intro w180_ S182_ H181_
  have S183_ := Same.trans S179_ S182_
  refine ⟨⟨Holds.rd H181_ 3 rfl, Holds.rd H181_ 4 rfl, (Holds.ro_at H181_ 2 rfl)⟩, ?_⟩
  exact hJ143 _ _ ⟨b28_, b33_, _, congrArg (fun e => mkA 47 e []) (ch (ch (ch (ch (ch rfl rfl) rfl) rfl) rfl) rfl), H181_, S183_⟩
 intro hJ142
 refine A_cut #[true, true, true, true, true, false, false, false] 3 (fun a__ w1__ => ∃ b28_ : Nat, ∃ h : Env, a__ = mkA 47 (upd (upd (upd (upd (upd h 0 (vI .i64 1)) 6 (vB false)) 7 (vQ b28_)) 11 (vA #[(Value.string s.in__Begin), (Value.string s.in__End), (vB s.in__Point), (vI .i64 s.from_), (vI .i64 s.till)])) 13 (vA #[(Value.string s.in__Begin), (Value.string s.in__End), (vB s.in__Point), (vI .i64 s.from_), (vI .i64 s.till)])) [] ∧ Holds w1__ (cl b28_ 44 [(Value.string ByteArray.empty), (Value.string ByteArray.empty), (vB false), (vI .i64 0), (vI .i64 0)] :: ro R :: cl b7_ 44 [(Value.string s.in__Begin), (Value.string s.in__End), (vB s.in__Point), (vI .i64 s.from_), (vI .i64 s.till)] :: cl b2_ 44 [(Value.string s.in__Begin), (Value.string s.in__End), (vB s.in__Point), (vI .i64 s.from_), (vI .i64 s.till)] :: F) ∧ Same w w1__) ?_ ?_
 ·rintro _ w184_ ⟨b28_, h, rfl, H185_, S186_⟩
  refine A_ready (i := 5) (rs := []) (by kernel_rfl) ?_
  refine AllR.cons ?_ AllR.nil
  refine A_op (ls' := #[true, true, true, true, true, true, false, false]) rfl (by kernel_rfl) (T_alloc z44 H185_ ?_)
  intro b187_ w188_ S190_ H189_
  have S191_ := Same.trans S186_ S190_
  refine ⟨⟨Holds.rd H189_ 3 rfl, Holds.rd H189_ 4 rfl, (Holds.ro_at H189_ 2 rfl)⟩, ?_⟩
  exact hJ142 _ _ ⟨b28_, b187_, _, congrArg (fun e => mkA 47 e []) (ch (ch (ch (ch (ch (ch rfl rfl) rfl) rfl) rfl) rfl) rfl), H189_, S191_⟩
 intro hJ141
 refine A_cut #[true, true, true, true, false, true, false, false] 3 (fun a__ w1__ => ∃ b46_ : Nat, ∃ h : Env, a__ = mkA 47 (upd (upd (upd (upd (upd h 0 (vI .i64 1)) 6 (vB false)) 8 (vQ b46_)) 11 (vA #[(Value.string s.in__Begin), (Value.string s.in__End), (vB s.in__Point), (vI .i64 s.from_), (vI .i64 s.till)])) 13 (vA #[(Value.string s.in__Begin), (Value.string s.in__End), (vB s.in__Point), (vI .i64 s.from_), (vI .i64 s.till)])) [] ∧ Holds w1__ (cl b46_ 44 [(Value.string ByteArray.empty), (Value.string ByteArray.empty), (vB false), (vI .i64 0), (vI .i64 0)] :: ro R :: cl b7_ 44 [(Value.string s.in__Begin), (Value.string s.in__End), (vB s.in__Point), (vI .i64 s.from_), (vI .i64 s.till)] :: cl b2_ 44 [(Value.string s.in__Begin), (Value.string s.in__End), (vB s.in__Point), (vI .i64 s.from_), (vI .i64 s.till)] :: F) ∧ Same w w1__) ?_ ?_
 ·rintro _ w192_ ⟨b46_, h, rfl, H193_, S194_⟩
  refine A_ready (i := 4) (rs := []) (by kernel_rfl) ?_
  refine AllR.cons ?_ AllR.nil
  refine A_op (ls' := #[true, true, true, true, true, true, false, false]) rfl (by kernel_rfl) (T_alloc z44 H193_ ?_)
  intro b195_ w196_ S198_ H197_
  have S199_ := Same.trans S194_ S198_
  refine ⟨⟨Holds.rd H197_ 3 rfl, Holds.rd H197_ 4 rfl, (Holds.ro_at H197_ 2 rfl)⟩, ?_⟩
  have H200_ := Holds.pkF H197_ [1, 0, 0, 0, 0] 0
  exact hJ142 _ _ ⟨b195_, b46_, _, congrArg (fun e => mkA 47 e []) (ch (ch (ch (ch (ch (ch rfl rfl) rfl) rfl) rfl) rfl) rfl), H200_, S199_⟩
 intro hJ144
 refine A_cut #[true, true, true, false, true, true, false, false] 3 (fun a__ w1__ => ∃ b56_ : Nat, ∃ b68_ : Nat, ∃ h : Env, a__ = mkA 47 (upd (upd (upd (upd (upd (upd h 0 (vI .i64 1)) 6 (vB false)) 7 (vQ b56_)) 8 (vQ b68_)) 11 (vA #[(Value.string s.in__Begin), (Value.string s.in__End), (vB s.in__Point), (vI .i64 s.from_), (vI .i64 s.till)])) 12 (vA #[(Value.string s.in__Begin), (Value.string s.in__End), (vB s.in__Point), (vI .i64 s.from_), (vI .i64 s.till)])) [] ∧ Holds w1__ (cl b68_ 44 [(Value.string ByteArray.empty), (Value.string ByteArray.empty), (vB false), (vI .i64 0), (vI .i64 0)] :: cl b56_ 44 [(Value.string ByteArray.empty), (Value.string ByteArray.empty), (vB false), (vI .i64 0), (vI .i64 0)] :: ro R :: cl b7_ 44 [(Value.string s.in__Begin), (Value.string s.in__End), (vB s.in__Point), (vI .i64 s.from_), (vI .i64 s.till)] :: cl b2_ 44 [(Value.string s.in__Begin), (Value.string s.in__End), (vB s.in__Point), (vI .i64 s.from_), (vI .i64 s.till)] :: F) ∧ Same w w1__) ?_ ?_
 ·rintro _ w201_ ⟨b56_, b68_, h, rfl, H202_, S203_⟩
  refine A_ready (i := 3) (rs := []) (by kernel_rfl) ?_
  refine AllR.cons ?_ AllR.nil
  have H205_ := ((Holds.bring H202_ 2 rfl) :)
  refine A_op (ls' := #[true, true, true, true, true, true, false, false]) rfl (by kernel_rfl) (T_call (al := [(vA #[(Value.string s.in__Begin), (Value.string s.in__End), (vB s.in__Point), (vI .i64 s.from_), (vI .i64 s.till)])]) (pre := []) rfl rfl cb76 (ovPlain R s (hpt)) H205_ ?_)
  rintro v204_ p209_ w206_ ⟨rfl, rfl⟩ S208_ H207_
  have S210_ := Same.trans S203_ S208_
  refine ⟨⟨Holds.rd H207_ 3 rfl, Holds.rd H207_ 4 rfl, (Holds.ro_at H207_ 0 rfl)⟩, ?_⟩
  have H211_ := Holds.pkF H207_ [1, 1, 0, 0, 0] 0
  exact hJ142 _ _ ⟨b56_, b68_, _, congrArg (fun e => mkA 47 e []) (ch (ch (ch (ch (ch (ch rfl rfl) rfl) rfl) rfl) rfl) rfl), H211_, S210_⟩
 intro hJ146
 refine A_cut #[true, true, true, true, false, false, false, false] 4 (fun a__ w1__ => ∃ h : Env, a__ = mkA 47 (upd (upd (upd (upd h 0 (vI .i64 1)) 6 (vB false)) 11 (vA #[(Value.string s.in__Begin), (Value.string s.in__End), (vB s.in__Point), (vI .i64 s.from_), (vI .i64 s.till)])) 13 (vA #[(Value.string s.in__Begin), (Value.string s.in__End), (vB s.in__Point), (vI .i64 s.from_), (vI .i64 s.till)])) [] ∧ Holds w1__ (ro R :: cl b7_ 44 [(Value.string s.in__Begin), (Value.string s.in__End), (vB s.in__Point), (vI .i64 s.from_), (vI .i64 s.till)] :: cl b2_ 44 [(Value.string s.in__Begin), (Value.string s.in__End), (vB s.in__Point), (vI .i64 s.from_), (vI .i64 s.till)] :: F) ∧ Same w w1__) ?_ ?_
 ·rintro _ w212_ ⟨h, rfl, H213_, S214_⟩
  refine A_ready (i := 4) (rs := [5]) (by kernel_rfl) ?_
  refine AllR.cons ?_ ?_
  ·skip
   refine A_op (ls' := #[true, true, true, true, true, false, false, false]) rfl (by kernel_rfl) (T_alloc z44 H213_ ?_)
   intro b215_ w216_ S218_ H217_
   have S219_ := Same.trans S214_ S218_
   refine ⟨⟨Holds.rd H217_ 2 rfl, Holds.rd H217_ 3 rfl, (Holds.ro_at H217_ 1 rfl)⟩, ?_⟩
   exact hJ141 _ _ ⟨b215_, _, congrArg (fun e => mkA 47 e []) (ch (ch (ch (ch (ch rfl rfl) rfl) rfl) rfl) rfl), H217_, S219_⟩
  refine AllR.cons ?_ AllR.nil
  refine A_op (ls' := #[true, true, true, true, false, true, false, false]) rfl (by kernel_rfl) (T_alloc z44 H213_ ?_)
  intro b220_ w221_ S223_ H222_
  have S224_ := Same.trans S214_ S223_
  refine ⟨⟨Holds.rd H222_ 2 rfl, Holds.rd H222_ 3 rfl, (Holds.ro_at H222_ 1 rfl)⟩, ?_⟩
  exact hJ144 _ _ ⟨b220_, _, congrArg (fun e => mkA 47 e []) (ch (ch (ch (ch (ch rfl rfl) rfl) rfl) rfl) rfl), H222_, S224_⟩
 intro hJ140
 refine A_cut #[true, true, true, false, true, false, false, false] 4 (fun a__ w1__ => ∃ b56_ : Nat, ∃ h : Env, a__ = mkA 47 (upd (upd (upd (upd (upd h 0 (vI .i64 1)) 6 (vB false)) 7 (vQ b56_)) 11 (vA #[(Value.string s.in__Begin), (Value.string s.in__End), (vB s.in__Point), (vI .i64 s.from_), (vI .i64 s.till)])) 12 (vA #[(Value.string s.in__Begin), (Value.string s.in__End), (vB s.in__Point), (vI .i64 s.from_), (vI .i64 s.till)])) [] ∧ Holds w1__ (cl b56_ 44 [(Value.string ByteArray.empty), (Value.string ByteArray.empty), (vB false), (vI .i64 0), (vI .i64 0)] :: ro R :: cl b7_ 44 [(Value.string s.in__Begin), (Value.string s.in__End), (vB s.in__Point), (vI .i64 s.from_), (vI .i64 s.till)] :: cl b2_ 44 [(Value.string s.in__Begin), (Value.string s.in__End), (vB s.in__Point), (vI .i64 s.from_), (vI .i64 s.till)] :: F) ∧ Same w w1__) ?_ ?_
 ·rintro _ w225_ ⟨b56_, h, rfl, H226_, S227_⟩
  refine A_ready (i := 3) (rs := [5]) (by kernel_rfl) ?_
  refine AllR.cons ?_ ?_
  ·skip
   have H229_ := ((Holds.bring H226_ 1 rfl) :)
   refine A_op (ls' := #[true, true, true, true, true, false, false, false]) rfl (by kernel_rfl) (T_call (al := [(vA #[(Value.string s.in__Begin), (Value.string s.in__End), (vB s.in__Point), (vI .i64 s.from_), (vI .i64 s.till)])]) (pre := []) rfl rfl cb76 (ovPlain R s (hpt)) H229_ ?_)
   rintro v228_ p233_ w230_ ⟨rfl, rfl⟩ S232_ H231_
   have S234_ := Same.trans S227_ S232_
   refine ⟨⟨Holds.rd H231_ 2 rfl, Holds.rd H231_ 3 rfl, (Holds.ro_at H231_ 0 rfl)⟩, ?_⟩
   have H235_ := Holds.pkF H231_ [1, 0, 0, 0] 0
   exact hJ141 _ _ ⟨b56_, _, congrArg (fun e => mkA 47 e []) (ch (ch (ch (ch (ch rfl rfl) rfl) rfl) rfl) rfl), H235_, S234_⟩
  refine AllR.cons ?_ AllR.nil
  refine A_op (ls' := #[true, true, true, false, true, true, false, false]) rfl (by kernel_rfl) (T_alloc z44 H226_ ?_)
  intro b236_ w237_ S239_ H238_
  have S240_ := Same.trans S227_ S239_
  refine ⟨⟨Holds.rd H238_ 3 rfl, Holds.rd H238_ 4 rfl, (Holds.ro_at H238_ 2 rfl)⟩, ?_⟩
  exact hJ146 _ _ ⟨b56_, b236_, _, congrArg (fun e => mkA 47 e []) (ch (ch (ch (ch (ch (ch rfl rfl) rfl) rfl) rfl) rfl) rfl), H238_, S240_⟩
 intro hJ145
 refine A_cut #[true, true, true, false, false, true, false, false] 4 (fun a__ w1__ => ∃ b80_ : Nat, ∃ h : Env, a__ = mkA 47 (upd (upd (upd (upd (upd h 0 (vI .i64 1)) 6 (vB false)) 8 (vQ b80_)) 11 (vA #[(Value.string s.in__Begin), (Value.string s.in__End), (vB s.in__Point), (vI .i64 s.from_), (vI .i64 s.till)])) 12 (vA #[(Value.string s.in__Begin), (Value.string s.in__End), (vB s.in__Point), (vI .i64 s.from_), (vI .i64 s.till)])) [] ∧ Holds w1__ (cl b80_ 44 [(Value.string ByteArray.empty), (Value.string ByteArray.empty), (vB false), (vI .i64 0), (vI .i64 0)] :: ro R :: cl b7_ 44 [(Value.string s.in__Begin), (Value.string s.in__End), (vB s.in__Point), (vI .i64 s.from_), (vI .i64 s.till)] :: cl b2_ 44 [(Value.string s.in__Begin), (Value.string s.in__End), (vB s.in__Point), (vI .i64 s.from_), (vI .i64 s.till)] :: F) ∧ Same w w1__) ?_ ?_
 ·rintro _ w241_ ⟨b80_, h, rfl, H242_, S243_⟩
  refine A_ready (i := 3) (rs := [4]) (by kernel_rfl) ?_
  refine AllR.cons ?_ ?_
  ·skip
   have H245_ := ((Holds.bring H242_ 1 rfl) :)
   refine A_op (ls' := #[true, true, true, true, false, true, false, false]) rfl (by kernel_rfl) (T_call (al := [(vA #[(Value.string s.in__Begin), (Value.string s.in__End), (vB s.in__Point), (vI .i64 s.from_), (vI .i64 s.till)])]) (pre := []) rfl rfl cb76 (ovPlain R s (hpt)) H245_ ?_)
   rintro v244_ p249_ w246_ ⟨rfl, rfl⟩ S248_ H247_
   have S250_ := Same.trans S243_ S248_
   refine ⟨⟨Holds.rd H247_ 2 rfl, Holds.rd H247_ 3 rfl, (Holds.ro_at H247_ 0 rfl)⟩, ?_⟩
   have H251_ := Holds.pkF H247_ [1, 0, 0, 0] 0
   exact hJ144 _ _ ⟨b80_, _, congrArg (fun e => mkA 47 e []) (ch (ch (ch (ch (ch rfl rfl) rfl) rfl) rfl) rfl), H251_, S250_⟩
  refine AllR.cons ?_ AllR.nil
  refine A_op (ls' := #[true, true, true, false, true, true, false, false]) rfl (by kernel_rfl) (T_alloc z44 H242_ ?_)
  intro b252_ w253_ S255_ H254_
  have S256_ := Same.trans S243_ S255_
  refine ⟨⟨Holds.rd H254_ 3 rfl, Holds.rd H254_ 4 rfl, (Holds.ro_at H254_ 2 rfl)⟩, ?_⟩
  have H257_ := Holds.pkF H254_ [1, 0, 0, 0, 0] 0
  exact hJ146 _ _ ⟨b252_, b80_, _, congrArg (fun e => mkA 47 e []) (ch (ch (ch (ch (ch (ch rfl rfl) rfl) rfl) rfl) rfl) rfl), H257_, S256_⟩
 intro hJ147
 refine A_cut #[true, false, true, false, true, true, false, false] 4 (fun a__ w1__ => ∃ b97_ : Nat, ∃ b109_ : Nat, ∃ h : Env, a__ = mkA 47 (upd (upd (upd (upd (upd (upd h 0 (vI .i64 1)) 6 (vB false)) 7 (vQ b97_)) 8 (vQ b109_)) 10 (vA #[(Value.string s.in__Begin), (Value.string s.in__End), (vB s.in__Point), (vI .i64 s.from_), (vI .i64 s.till)])) 12 (vA #[(Value.string s.in__Begin), (Value.string s.in__End), (vB s.in__Point), (vI .i64 s.from_), (vI .i64 s.till)])) [] ∧ Holds w1__ (cl b109_ 44 [(Value.string ByteArray.empty), (Value.string ByteArray.empty), (vB false), (vI .i64 0), (vI .i64 0)] :: cl b97_ 44 [(Value.string ByteArray.empty), (Value.string ByteArray.empty), (vB false), (vI .i64 0), (vI .i64 0)] :: cl b7_ 44 [(Value.string s.in__Begin), (Value.string s.in__End), (vB s.in__Point), (vI .i64 s.from_), (vI .i64 s.till)] :: cl b2_ 44 [(Value.string s.in__Begin), (Value.string s.in__End), (vB s.in__Point), (vI .i64 s.from_), (vI .i64 s.till)] :: ro R :: F) ∧ Same w w1__) ?_ ?_
 ·rintro _ w258_ ⟨b97_, b109_, h, rfl, H259_, S260_⟩
  refine A_ready (i := 1) (rs := []) (by kernel_rfl) ?_
  refine AllR.cons ?_ AllR.nil
  have H262_ := ((Holds.bring H259_ 4 rfl) :)
  refine A_op (ls' := #[true, true, true, false, true, true, false, false]) rfl (by kernel_rfl) (T_call (al := [(vA #[(Value.string s.in__Begin), (Value.string s.in__End), (vB s.in__Point), (vI .i64 s.from_), (vI .i64 s.till)])]) (pre := []) rfl rfl cb76 (ovPlain R s (hpt)) H262_ ?_)
  rintro v261_ p266_ w263_ ⟨rfl, rfl⟩ S265_ H264_
  have S267_ := Same.trans S260_ S265_
  refine ⟨⟨Holds.rd H264_ 3 rfl, Holds.rd H264_ 4 rfl, (Holds.ro_at H264_ 0 rfl)⟩, ?_⟩
  have H268_ := Holds.pkF H264_ [1, 1, 0, 0, 0] 0
  exact hJ146 _ _ ⟨b97_, b109_, _, congrArg (fun e => mkA 47 e []) (ch (ch (ch (ch (ch (ch rfl rfl) rfl) rfl) rfl) rfl) rfl), H268_, S267_⟩
 intro hJ149
 refine A_cut #[true, true, true, false, false, false, false, false] 5 (fun a__ w1__ => ∃ h : Env, a__ = mkA 47 (upd (upd (upd (upd h 0 (vI .i64 1)) 6 (vB false)) 11 (vA #[(Value.string s.in__Begin), (Value.string s.in__End), (vB s.in__Point), (vI .i64 s.from_), (vI .i64 s.till)])) 12 (vA #[(Value.string s.in__Begin), (Value.string s.in__End), (vB s.in__Point), (vI .i64 s.from_), (vI .i64 s.till)])) [] ∧ Holds w1__ (ro R :: cl b7_ 44 [(Value.string s.in__Begin), (Value.string s.in__End), (vB s.in__Point), (vI .i64 s.from_), (vI .i64 s.till)] :: cl b2_ 44 [(Value.string s.in__Begin), (Value.string s.in__End), (vB s.in__Point), (vI .i64 s.from_), (vI .i64 s.till)] :: F) ∧ Same w w1__) ?_ ?_
 ·rintro _ w269_ ⟨h, rfl, H270_, S271_⟩
  refine A_ready (i := 3) (rs := [4, 5]) (by kernel_rfl) ?_
  refine AllR.cons ?_ ?_
  ·skip
   refine A_op (ls' := #[true, true, true, true, false, false, false, false]) rfl (by kernel_rfl) (T_call (al := [(vA #[(Value.string s.in__Begin), (Value.string s.in__End), (vB s.in__Point), (vI .i64 s.from_), (vI .i64 s.till)])]) (pre := []) rfl rfl cb76 (ovPlain R s (hpt)) H270_ ?_)
   rintro v272_ p276_ w273_ ⟨rfl, rfl⟩ S275_ H274_
   have S277_ := Same.trans S271_ S275_
   refine ⟨⟨Holds.rd H274_ 1 rfl, Holds.rd H274_ 2 rfl, (Holds.ro_at H274_ 0 rfl)⟩, ?_⟩
   exact hJ140 _ _ ⟨_, congrArg (fun e => mkA 47 e []) (ch (ch (ch (ch rfl rfl) rfl) rfl) rfl), H274_, S277_⟩
  refine AllR.cons ?_ ?_
  ·skip
   refine A_op (ls' := #[true, true, true, false, true, false, false, false]) rfl (by kernel_rfl) (T_alloc z44 H270_ ?_)
   intro b278_ w279_ S281_ H280_
   have S282_ := Same.trans S271_ S281_
   refine ⟨⟨Holds.rd H280_ 2 rfl, Holds.rd H280_ 3 rfl, (Holds.ro_at H280_ 1 rfl)⟩, ?_⟩
   exact hJ145 _ _ ⟨b278_, _, congrArg (fun e => mkA 47 e []) (ch (ch (ch (ch (ch rfl rfl) rfl) rfl) rfl) rfl), H280_, S282_⟩
  refine AllR.cons ?_ AllR.nil
  refine A_op (ls' := #[true, true, true, false, false, true, false, false]) rfl (by kernel_rfl) (T_alloc z44 H270_ ?_)
  intro b283_ w284_ S286_ H285_
  have S287_ := Same.trans S271_ S286_
  refine ⟨⟨Holds.rd H285_ 2 rfl, Holds.rd H285_ 3 rfl, (Holds.ro_at H285_ 1 rfl)⟩, ?_⟩
  exact hJ147 _ _ ⟨b283_, _, congrArg (fun e => mkA 47 e []) (ch (ch (ch (ch (ch rfl rfl) rfl) rfl) rfl) rfl), H285_, S287_⟩
 intro hJ139
 refine A_cut #[true, false, true, false, true, false, false, false] 5 (fun a__ w1__ => ∃ b97_ : Nat, ∃ h : Env, a__ = mkA 47 (upd (upd (upd (upd (upd h 0 (vI .i64 1)) 6 (vB false)) 7 (vQ b97_)) 10 (vA #[(Value.string s.in__Begin), (Value.string s.in__End), (vB s.in__Point), (vI .i64 s.from_), (vI .i64 s.till)])) 12 (vA #[(Value.string s.in__Begin), (Value.string s.in__End), (vB s.in__Point), (vI .i64 s.from_), (vI .i64 s.till)])) [] ∧ Holds w1__ (cl b97_ 44 [(Value.string ByteArray.empty), (Value.string ByteArray.empty), (vB false), (vI .i64 0), (vI .i64 0)] :: cl b7_ 44 [(Value.string s.in__Begin), (Value.string s.in__End), (vB s.in__Point), (vI .i64 s.from_), (vI .i64 s.till)] :: cl b2_ 44 [(Value.string s.in__Begin), (Value.string s.in__End), (vB s.in__Point), (vI .i64 s.from_), (vI .i64 s.till)] :: ro R :: F) ∧ Same w w1__) ?_ ?_
 ·rintro _ w288_ ⟨b97_, h, rfl, H289_, S290_⟩
  refine A_ready (i := 1) (rs := [5]) (by kernel_rfl) ?_
  refine AllR.cons ?_ ?_
  ·skip
   have H292_ := ((Holds.bring H289_ 3 rfl) :)
   refine A_op (ls' := #[true, true, true, false, true, false, false, false]) rfl (by kernel_rfl) (T_call (al := [(vA #[(Value.string s.in__Begin), (Value.string s.in__End), (vB s.in__Point), (vI .i64 s.from_), (vI .i64 s.till)])]) (pre := []) rfl rfl cb76 (ovPlain R s (hpt)) H292_ ?_)
   rintro v291_ p296_ w293_ ⟨rfl, rfl⟩ S295_ H294_
   have S297_ := Same.trans S290_ S295_
   refine ⟨⟨Holds.rd H294_ 2 rfl, Holds.rd H294_ 3 rfl, (Holds.ro_at H294_ 0 rfl)⟩, ?_⟩
   have H298_ := Holds.pkF H294_ [1, 0, 0, 0] 0
   exact hJ145 _ _ ⟨b97_, _, congrArg (fun e => mkA 47 e []) (ch (ch (ch (ch (ch rfl rfl) rfl) rfl) rfl) rfl), H298_, S297_⟩
  refine AllR.cons ?_ AllR.nil
  refine A_op (ls' := #[true, false, true, false, true, true, false, false]) rfl (by kernel_rfl) (T_alloc z44 H289_ ?_)
  intro b299_ w300_ S302_ H301_
  have S303_ := Same.trans S290_ S302_
  refine ⟨⟨Holds.rd H301_ 2 rfl, Holds.rd H301_ 3 rfl, (Holds.ro_at H301_ 4 rfl)⟩, ?_⟩
  exact hJ149 _ _ ⟨b97_, b299_, _, congrArg (fun e => mkA 47 e []) (ch (ch (ch (ch (ch (ch rfl rfl) rfl) rfl) rfl) rfl) rfl), H301_, S303_⟩
 intro hJ148
 refine A_cut #[true, false, true, false, false, true, false, false] 5 (fun a__ w1__ => ∃ b121_ : Nat, ∃ h : Env, a__ = mkA 47 (upd (upd (upd (upd (upd h 0 (vI .i64 1)) 6 (vB false)) 8 (vQ b121_)) 10 (vA #[(Value.string s.in__Begin), (Value.string s.in__End), (vB s.in__Point), (vI .i64 s.from_), (vI .i64 s.till)])) 12 (vA #[(Value.string s.in__Begin), (Value.string s.in__End), (vB s.in__Point), (vI .i64 s.from_), (vI .i64 s.till)])) [] ∧ Holds w1__ (cl b121_ 44 [(Value.string ByteArray.empty), (Value.string ByteArray.empty), (vB false), (vI .i64 0), (vI .i64 0)] :: cl b7_ 44 [(Value.string s.in__Begin), (Value.string s.in__End), (vB s.in__Point), (vI .i64 s.from_), (vI .i64 s.till)] :: cl b2_ 44 [(Value.string s.in__Begin), (Value.string s.in__End), (vB s.in__Point), (vI .i64 s.from_), (vI .i64 s.till)] :: ro R :: F) ∧ Same w w1__) ?_ ?_
 ·rintro _ w304_ ⟨b121_, h, rfl, H305_, S306_⟩
  refine A_ready (i := 1) (rs := [4]) (by kernel_rfl) ?_
  refine AllR.cons ?_ ?_
  ·skip
   have H308_ := ((Holds.bring H305_ 3 rfl) :)
   refine A_op (ls' := #[true, true, true, false, false, true, false, false]) rfl (by kernel_rfl) (T_call (al := [(vA #[(Value.string s.in__Begin), (Value.string s.in__End), (vB s.in__Point), (vI .i64 s.from_), (vI .i64 s.till)])]) (pre := []) rfl rfl cb76 (ovPlain R s (hpt)) H308_ ?_)
   rintro v307_ p312_ w309_ ⟨rfl, rfl⟩ S311_ H310_
   have S313_ := Same.trans S306_ S311_
   refine ⟨⟨Holds.rd H310_ 2 rfl, Holds.rd H310_ 3 rfl, (Holds.ro_at H310_ 0 rfl)⟩, ?_⟩
   have H314_ := Holds.pkF H310_ [1, 0, 0, 0] 0
   exact hJ147 _ _ ⟨b121_, _, congrArg (fun e => mkA 47 e []) (ch (ch (ch (ch (ch rfl rfl) rfl) rfl) rfl) rfl), H314_, S313_⟩
  refine AllR.cons ?_ AllR.nil
  refine A_op (ls' := #[true, false, true, false, true, true, false, false]) rfl (by kernel_rfl) (T_alloc z44 H305_ ?_)
  intro b315_ w316_ S318_ H317_
  have S319_ := Same.trans S306_ S318_
  refine ⟨⟨Holds.rd H317_ 2 rfl, Holds.rd H317_ 3 rfl, (Holds.ro_at H317_ 4 rfl)⟩, ?_⟩
  have H320_ := Holds.pkF H317_ [1, 0, 0, 0, 0] 0
  exact hJ149 _ _ ⟨b315_, b121_, _, congrArg (fun e => mkA 47 e []) (ch (ch (ch (ch (ch (ch rfl rfl) rfl) rfl) rfl) rfl) rfl), H320_, S319_⟩
 intro hJ150
 have hq321_ := And.intro (Holds.rd H13_ 0 rfl) (And.intro (Holds.rd H13_ 1 rfl) ((Holds.ro_at H13_ 2 rfl)))
 refine A_tk 0 (v := (vA #[(Value.string s.in__Begin), (Value.string s.in__End), (vB s.in__Point), (vI .i64 s.from_), (vI .i64 s.till)])) rfl (by kernel_rfl) (fun w hS => x_loadN (vs := [(Value.string s.in__Begin), (Value.string s.in__End), (vB s.in__Point), (vI .i64 s.from_), (vI .i64 s.till)]) rfl underlying44 rfl z44 rfl (Rd.cells hS.2.1 0 rfl)) hq321_ ?_
 refine A_tk 2 (v := (vA #[(Value.string s.in__Begin), (Value.string s.in__End), (vB s.in__Point), (vI .i64 s.from_), (vI .i64 s.till)])) rfl (by kernel_rfl) (fun w hS => x_loadN (vs := [(Value.string s.in__Begin), (Value.string s.in__End), (vB s.in__Point), (vI .i64 s.from_), (vI .i64 s.till)]) rfl underlying44 rfl z44 rfl (Rd.cells hS.1 0 rfl)) hq321_ ?_
 refine A_ready (i := 1) (rs := [4, 5]) (by kernel_rfl) ?_
 refine AllR.cons ?_ ?_
 ·skip
  have H323_ := ((Holds.bring H13_ 2 rfl) :)
  refine A_op (ls' := #[true, true, true, false, false, false, false, false]) rfl (by kernel_rfl) (T_call (al := [(vA #[(Value.string s.in__Begin), (Value.string s.in__End), (vB s.in__Point), (vI .i64 s.from_), (vI .i64 s.till)])]) (pre := []) rfl rfl cb76 (ovPlain R s (hpt)) H323_ ?_)
  rintro v322_ p327_ w324_ ⟨rfl, rfl⟩ S326_ H325_
  have S328_ := Same.trans (Same.trans S11_ (Same.drew _)) S326_
  refine ⟨⟨Holds.rd H325_ 1 rfl, Holds.rd H325_ 2 rfl, (Holds.ro_at H325_ 0 rfl)⟩, ?_⟩
  exact hJ139 _ _ ⟨_, congrArg (fun e => mkA 47 e []) (ch (ch (ch (ch rfl rfl) rfl) rfl) rfl), H325_, S328_⟩
 refine AllR.cons ?_ ?_
 ·skip
  refine A_op (ls' := #[true, false, true, false, true, false, false, false]) rfl (by kernel_rfl) (T_alloc z44 H13_ ?_)
  intro b329_ w330_ S332_ H331_
  have S333_ := Same.trans (Same.trans S11_ (Same.drew _)) S332_
  refine ⟨⟨Holds.rd H331_ 1 rfl, Holds.rd H331_ 2 rfl, (Holds.ro_at H331_ 3 rfl)⟩, ?_⟩
  exact hJ148 _ _ ⟨b329_, _, congrArg (fun e => mkA 47 e []) (ch (ch (ch (ch (ch rfl rfl) rfl) rfl) rfl) rfl), H331_, S333_⟩
 refine AllR.cons ?_ AllR.nil
 refine A_op (ls' := #[true, false, true, false, false, true, false, false]) rfl (by kernel_rfl) (T_alloc z44 H13_ ?_)
 intro b334_ w335_ S337_ H336_
 have S338_ := Same.trans (Same.trans S11_ (Same.drew _)) S337_
 refine ⟨⟨Holds.rd H336_ 1 rfl, Holds.rd H336_ 2 rfl, (Holds.ro_at H336_ 3 rfl)⟩, ?_⟩
 exact hJ150 _ _ ⟨b334_, _, congrArg (fun e => mkA 47 e []) (ch (ch (ch (ch (ch rfl rfl) rfl) rfl) rfl) rfl), H336_, S338_⟩

set_option maxHeartbeats 1600000 in
theorem ovSameSpan (R : HP) (s : SN) (hpt : s.in__Point = false) :
    Tri Try.prog 20 #[(vI .i64 1), (vA #[(Value.string s.in__Begin), (Value.string s.in__End), (vB s.in__Point), (vI .i64 s.from_), (vI .i64 s.till)]), (vA #[(Value.string s.in__Begin), (Value.string s.in__End), (vB s.in__Point), (vI .i64 s.from_), (vI .i64 s.till)])] R [] (fun v__ post__ => v__ = (vB true) ∧ post__ = []) := by
 refine Tri.into (n := 19) (al := [(vI .i64 1), (vA #[(Value.string s.in__Begin), (Value.string s.in__End), (vB s.in__Point), (vI .i64 s.from_), (vI .i64 s.till)]), (vA #[(Value.string s.in__Begin), (Value.string s.in__End), (vB s.in__Point), (vI .i64 s.from_), (vI .i64 s.till)])]) func20 rfl ntmps20 rfl rfl fun w F H => ?_
 refine cr fun _ hK1_ => ?_
 refine S_list (T_box (v := (vA #[(Value.string s.in__Begin), (Value.string s.in__End), (vB s.in__Point), (vI .i64 s.from_), (vI .i64 s.till)])) rfl H ?_)
 intro b2_ w3_ S5_ H4_
 have S6_ := Same.trans (Same.refl w) S5_
 refine S_list (T_box (v := (vA #[(Value.string s.in__Begin), (Value.string s.in__End), (vB s.in__Point), (vI .i64 s.from_), (vI .i64 s.till)])) rfl H4_ ?_)
 intro b7_ w8_ S10_ H9_
 have S11_ := Same.trans S6_ S10_
 refine sv (v := (vB false)) (x_assign rfl) ?_
 refine wn (hK1_ _ _ ?_)
 refine cr fun _ hK12_ => ?_
 refine sm (vI .i64 1) ?_
 refine sv (v := (vA #[(Value.string s.in__Begin), (Value.string s.in__End), (vB s.in__Point), (vI .i64 s.from_), (vI .i64 s.till)])) (x_loadN (vs := [(Value.string s.in__Begin), (Value.string s.in__End), (vB s.in__Point), (vI .i64 s.from_), (vI .i64 s.till)]) rfl underlying44 rfl z44 rfl (Rd.cells (Holds.rd H9_ 1 rfl) 0 rfl)) ?_
 refine sv (v := (vA #[(Value.string s.in__Begin), (Value.string s.in__End), (vB s.in__Point), (vI .i64 s.from_), (vI .i64 s.till)])) (x_loadN (vs := [(Value.string s.in__Begin), (Value.string s.in__End), (vB s.in__Point), (vI .i64 s.from_), (vI .i64 s.till)]) rfl underlying44 rfl z44 rfl (Rd.cells (Holds.rd H9_ 0 rfl) 0 rfl)) ?_
 have H14_ := ((Holds.bring H9_ 2 rfl) :)
 refine S_list (T_call (al := [(vI .i64 1), (vA #[(Value.string s.in__Begin), (Value.string s.in__End), (vB s.in__Point), (vI .i64 s.from_), (vI .i64 s.till)]), (vA #[(Value.string s.in__Begin), (Value.string s.in__End), (vB s.in__Point), (vI .i64 s.from_), (vI .i64 s.till)])]) (pre := []) rfl rfl cb55 (ovAhead R s (hpt)) H14_ ?_)
 rintro v13_ p18_ w15_ ⟨rfl, rfl⟩ S17_ H16_
 have S19_ := Same.trans S11_ S17_
 refine sv (v := (vB true)) (x_cast (x_not (b := false) rfl) rfl) ?_
 refine sm (vB true) ?_
 refine S_yes (j := 5) (dj := 12) (b := true) rfl rfl rfl (T_val (v := (vI .i64 1)) (x_move rfl) ?_)
 refine S_yes (j := 5) (dj := 12) (b := true) rfl rfl rfl (T_val (v := (vA #[(Value.string s.in__Begin), (Value.string s.in__End), (vB s.in__Point), (vI .i64 s.from_), (vI .i64 s.till)])) (x_loadN (vs := [(Value.string s.in__Begin), (Value.string s.in__End), (vB s.in__Point), (vI .i64 s.from_), (vI .i64 s.till)]) rfl underlying44 rfl z44 rfl (Rd.cells (Holds.rd H16_ 1 rfl) 0 rfl)) ?_)
 refine S_yes (j := 5) (dj := 12) (b := true) rfl rfl rfl (T_val (v := (vA #[(Value.string s.in__Begin), (Value.string s.in__End), (vB s.in__Point), (vI .i64 s.from_), (vI .i64 s.till)])) (x_loadN (vs := [(Value.string s.in__Begin), (Value.string s.in__End), (vB s.in__Point), (vI .i64 s.from_), (vI .i64 s.till)]) rfl underlying44 rfl z44 rfl (Rd.cells (Holds.rd H16_ 2 rfl) 0 rfl)) ?_)
 refine S_yes (j := 5) (dj := 12) (b := true) rfl rfl rfl (T_call (al := [(vI .i64 1), (vA #[(Value.string s.in__Begin), (Value.string s.in__End), (vB s.in__Point), (vI .i64 s.from_), (vI .i64 s.till)]), (vA #[(Value.string s.in__Begin), (Value.string s.in__End), (vB s.in__Point), (vI .i64 s.from_), (vI .i64 s.till)])]) (pre := []) rfl rfl cb55 (ovAhead R s (hpt)) H16_ ?_)
 rintro v20_ p24_ w21_ ⟨rfl, rfl⟩ S23_ H22_
 have S25_ := Same.trans S19_ S23_
 refine S_yes (j := 5) (dj := 12) (b := true) rfl rfl rfl (T_val (v := (vB true)) (x_cast (x_not (b := false) rfl) rfl) ?_)
 refine S_list (T_pickT (v := (vB true)) rfl rfl ?_)
 refine sv (v := (vB true)) (x_assign rfl) ?_
 refine wn (hK12_ _ _ ?_)
 refine C_ret ?_
 refine R_any (v := (vB true)) (run_results1 rfl rfl) ?_
 have H26_ := Holds.pkF H22_ [0] 2
 exact ⟨_, _, rfl, ⟨rfl, rfl⟩, S25_, H26_⟩

theorem ovSameSpan2 (R : HP) (s t : SN) (hpt : s.in__Point = false) (hst : t = s) :
    Tri Try.prog 20 #[(vI .i64 1), (vA #[(Value.string s.in__Begin), (Value.string s.in__End), (vB s.in__Point), (vI .i64 s.from_), (vI .i64 s.till)]), (vA #[(Value.string t.in__Begin), (Value.string t.in__End), (vB t.in__Point), (vI .i64 t.from_), (vI .i64 t.till)])] R [] (fun v__ post__ => v__ = (vB true) ∧ post__ = []) := by
  subst hst
  exact ovSameSpan R t hpt
end Go.Proofs.Ytlnihndjepjagaa
set_option linter.unusedVariables false
set_option linter.unusedSimpArgs false
namespace Go.Proofs.Ytlnihndjepjagaa
open Go Go.RowKit Gw Try
open Go.Value renaming int → vI, bool → vB, slice → vS, pointer → vP, agg → vA, tuple → vT

set_option maxHeartbeats 1600000 in
theorem ovLive (R : HP) :
    Tri Try.prog 14 #[] R [] (fun v__ post__ => v__ = (vB true) ∧ post__ = []) := by
 refine Tri.into (n := 9) (al := []) func14 rfl ntmps14 rfl rfl fun w F H => ?_
 refine cr fun _ hK1_ => ?_
 refine sv (v := (vB false)) (x_assign rfl) ?_
 refine wn (hK1_ _ _ ?_)
 refine cr fun _ hK2_ => ?_
 refine sv (v := (vA #[(vI .i64 2), (Value.string ByteArray.empty), (Value.string ByteArray.empty), (Value.string ByteArray.empty), (vI .i64 0), (vI .i64 0), (vI .i64 0), (vI .i64 0), (vI .i64 0), (vI .i64 0), (vI .i64 0), (vI .i64 0), (vI .i64 0), (vB false), (vB false), (vB false), (vB false), (vB false), (vS none 0 0), (vS none 0 0), (vS none 0 0)])) (by kernel_rfl) ?_
 refine S_list (T_callW (al := [(vA #[(vI .i64 2), (Value.string ByteArray.empty), (Value.string ByteArray.empty), (Value.string ByteArray.empty), (vI .i64 0), (vI .i64 0), (vI .i64 0), (vI .i64 0), (vI .i64 0), (vI .i64 0), (vI .i64 0), (vI .i64 0), (vI .i64 0), (vB false), (vB false), (vB false), (vB false), (vB false), (vS none 0 0), (vS none 0 0), (vS none 0 0)]), (vI .i64 3)]) rfl rfl cb15 (Calls.into (n := 32) func15 rfl ntmps15 rfl rfl ?_))
 refine cr fun _ hK3_ => ?_
 refine S_list (T_box (v := (vA #[(vI .i64 2), (Value.string ByteArray.empty), (Value.string ByteArray.empty), (Value.string ByteArray.empty), (vI .i64 0), (vI .i64 0), (vI .i64 0), (vI .i64 0), (vI .i64 0), (vI .i64 0), (vI .i64 0), (vI .i64 0), (vI .i64 0), (vB false), (vB false), (vB false), (vB false), (vB false), (vS none 0 0), (vS none 0 0), (vS none 0 0)])) rfl H ?_)
 intro b4_ w5_ S7_ H6_
 have S8_ := Same.trans (Same.refl w) S7_
 refine sv (v := (vI .i64 0)) (x_assign rfl) ?_
 refine wn (hK3_ _ _ ?_)
 refine C_seq (fun _ hK9_ => ?_)
 refine cr fun _ hK10_ => ?_
 refine sv (v := (vQ b4_)) (by kernel_rfl) ?_
 refine sv (v := (vI .i64 2)) (x_load1 rfl underlying3 rfl ((Holds.rd H6_ 0 rfl) 0 (vI .i64 2) rfl)) ?_
 refine wn (hK10_ _ _ ?_)
 refine C_block ?_
 refine cr fun _ hK11_ => ?_
 refine sv (v := (vB false)) (x_bin rfl rfl rfl) ?_
 refine sv (v := (vB false)) (x_assign rfl) ?_
 refine wn (hK11_ _ _ ?_)
 refine C_condF rfl ?_
 refine cr fun _ hK12_ => ?_
 refine sv (v := (vB true)) (x_bin rfl rfl rfl) ?_
 refine sv (v := (vB true)) (x_assign rfl) ?_
 refine wn (hK12_ _ _ ?_)
 refine C_condT rfl ?_
 refine cr fun _ hK13_ => ?_
 refine sv (v := (vA #[(vI .i64 2), (Value.string ByteArray.empty), (Value.string ByteArray.empty), (Value.string ByteArray.empty), (vI .i64 0), (vI .i64 0), (vI .i64 0), (vI .i64 0), (vI .i64 0), (vI .i64 0), (vI .i64 0), (vI .i64 0), (vI .i64 0), (vB false), (vB false), (vB false), (vB false), (vB false), (vS none 0 0), (vS none 0 0), (vS none 0 0)])) (x_loadN (vs := [(vI .i64 2), (Value.string ByteArray.empty), (Value.string ByteArray.empty), (Value.string ByteArray.empty), (vI .i64 0), (vI .i64 0), (vI .i64 0), (vI .i64 0), (vI .i64 0), (vI .i64 0), (vI .i64 0), (vI .i64 0), (vI .i64 0), (vB false), (vB false), (vB false), (vB false), (vB false), (vS none 0 0), (vS none 0 0), (vS none 0 0)]) rfl underlying25 rfl z25 rfl (Rd.cells (Holds.rd H6_ 0 rfl) 0 rfl)) ?_
 refine S_list (T_callW (al := [(vA #[(vI .i64 2), (Value.string ByteArray.empty), (Value.string ByteArray.empty), (Value.string ByteArray.empty), (vI .i64 0), (vI .i64 0), (vI .i64 0), (vI .i64 0), (vI .i64 0), (vI .i64 0), (vI .i64 0), (vI .i64 0), (vI .i64 0), (vB false), (vB false), (vB false), (vB false), (vB false), (vS none 0 0), (vS none 0 0), (vS none 0 0)])]) rfl rfl cb44 (Calls.into (n := 19) func44 rfl ntmps44 rfl rfl ?_))
 refine cr fun _ hK14_ => ?_
 refine S_list (T_box (v := (vA #[(vI .i64 2), (Value.string ByteArray.empty), (Value.string ByteArray.empty), (Value.string ByteArray.empty), (vI .i64 0), (vI .i64 0), (vI .i64 0), (vI .i64 0), (vI .i64 0), (vI .i64 0), (vI .i64 0), (vI .i64 0), (vI .i64 0), (vB false), (vB false), (vB false), (vB false), (vB false), (vS none 0 0), (vS none 0 0), (vS none 0 0)])) rfl H6_ ?_)
 intro b15_ w16_ S18_ H17_
 have S19_ := Same.trans S8_ S18_
 refine sv (v := (vP none)) (x_assign rfl) ?_
 refine wn (hK14_ _ _ ?_)
 refine cr fun _ hK20_ => ?_
 refine sv (v := (vP (some ⟨b15_, 1, none⟩))) (by kernel_rfl) ?_
 refine sv (v := (Value.string ByteArray.empty)) (x_load1 rfl underlying9 rfl ((Holds.rd H17_ 0 rfl) 1 (Value.string ByteArray.empty) rfl)) ?_
 refine S_list (T_s2b rfl underlying9 underlying122 underlying5 H17_ ?_)
 intro b21_ cp22_ w23_ S25_ hc26_ H24_
 have S27_ := Same.trans S19_ S25_
 have H28_ := Holds.resl H24_ 0 rfl (byteCells_bytesV _ : byteCells ByteArray.empty = bytesV (ints ByteArray.empty)) rfl
 have H29_ := Holds.resl H28_ 0 rfl (rfl : bytesV (ints ByteArray.empty) = bytesV (ints ByteArray.empty)) ((ints_length _).symm : ByteArray.empty.size = (List.length (ints ByteArray.empty)))
 refine sv (v := (vP (some ⟨b15_, 3, none⟩))) (by kernel_rfl) ?_
 refine sv (v := (Value.string ByteArray.empty)) (x_load1 rfl underlying9 rfl ((Holds.rd H29_ 1 rfl) 3 (Value.string ByteArray.empty) rfl)) ?_
 refine S_list (T_s2b rfl underlying9 underlying122 underlying5 H29_ ?_)
 intro b30_ cp31_ w32_ S34_ hc35_ H33_
 have S36_ := Same.trans S27_ S34_
 have H37_ := Holds.resl H33_ 0 rfl (byteCells_bytesV _ : byteCells ByteArray.empty = bytesV (ints ByteArray.empty)) rfl
 have H38_ := Holds.resl H37_ 0 rfl (rfl : bytesV (ints ByteArray.empty) = bytesV (ints ByteArray.empty)) ((ints_length _).symm : ByteArray.empty.size = (List.length (ints ByteArray.empty)))
 refine sv (v := (vP (some ⟨b15_, 4, none⟩))) (by kernel_rfl) ?_
 refine sv (v := (vI .i64 0)) (x_load1 rfl underlying2 rfl ((Holds.rd H38_ 2 rfl) 4 (vI .i64 0) rfl)) ?_
 refine sv (v := (vP (some ⟨b15_, 15, none⟩))) (by kernel_rfl) ?_
 refine sv (v := (vB false)) (x_load1 rfl underlying4 rfl ((Holds.rd H38_ 2 rfl) 15 (vB false) rfl)) ?_
 refine sv (v := (vP (some ⟨b15_, 16, none⟩))) (by kernel_rfl) ?_
 refine sv (v := (vB false)) (x_load1 rfl underlying4 rfl ((Holds.rd H38_ 2 rfl) 16 (vB false) rfl)) ?_
 refine sv (v := (vP (some ⟨b15_, 17, none⟩))) (by kernel_rfl) ?_
 refine sv (v := (vB false)) (x_load1 rfl underlying4 rfl ((Holds.rd H38_ 2 rfl) 17 (vB false) rfl)) ?_
 refine sv (v := (vA #[(vS (some ⟨b21_, 0, none⟩) ByteArray.empty.size cp22_), (vS (some ⟨b30_, 0, none⟩) ByteArray.empty.size cp31_), (vI .i64 0), (vB false), (vB false), (vB false)])) (by kernel_rfl) ?_
 refine S_list (T_box (v := (vA #[(vS (some ⟨b21_, 0, none⟩) ByteArray.empty.size cp22_), (vS (some ⟨b30_, 0, none⟩) ByteArray.empty.size cp31_), (vI .i64 0), (vB false), (vB false), (vB false)])) rfl H38_ ?_)
 intro b39_ w40_ S42_ H41_
 have S43_ := Same.trans S36_ S42_
 refine sv (v := (vQ b39_)) (x_assign rfl) ?_
 refine wn (hK20_ _ _ ?_)
 refine C_ret ?_
 refine R_any (v := (vQ b39_)) (run_results1 rfl rfl) ⟨_, rfl, ?_⟩
 refine S_list (T_callW (al := [(vQ b39_)]) rfl rfl cb43 (Calls.into (n := 5) func43 rfl ntmps43 rfl rfl ?_))
 refine cr fun _ hK44_ => ?_
 refine sv (v := (Value.nilIface)) (x_assign rfl) ?_
 refine wn (hK44_ _ _ ?_)
 refine cr fun _ hK45_ => ?_
 refine sm (vQ b39_) ?_
 refine S_list (T_callW (al := [(vQ b39_)]) rfl rfl cb69 (Calls.into (n := 35) func69 rfl ntmps69 rfl rfl ?_))
 refine cr fun _ hK46_ => ?_
 refine sv (v := (Value.nilIface)) (x_assign rfl) ?_
 refine wn (hK46_ _ _ ?_)
 refine C_seq (fun _ hK47_ => ?_)
 refine cr fun _ hK48_ => ?_
 refine sm (vQ b39_) ?_
 refine sv (v := (vQ b39_)) (by kernel_rfl) ?_
 refine sv (v := (vQ b39_)) (by kernel_rfl) ?_
 refine sv (v := (vS (some ⟨b21_, 0, none⟩) ByteArray.empty.size cp22_)) (x_load1 rfl underlying122 rfl ((Holds.rd H41_ 0 rfl) 0 (vS (some ⟨b21_, 0, none⟩) ByteArray.empty.size cp22_) rfl)) ?_
 refine sv (v := (vI .i64 (ByteArray.empty.size : Int))) (x_lenS rfl underlying122) ?_
 refine sv (v := (vB (decide ((ByteArray.empty.size : Int) = 0)))) (x_bin rfl rfl rfl) ?_
 refine wn (hK48_ _ _ ?_)
 refine C_cond (b := decide ((ByteArray.empty.size : Int) = 0)) rfl (fun c49_t => ?_) (fun c49_f => ?_)
 ·have c49_tp : (ByteArray.empty.size : Int) = 0 := of_decide_eq_true c49_t
  refine cr fun _ hK50_ => ?_
  refine sv (v := (Value.iface 133 (Value.string (ByteArray.mk #[101, 116, 99, 100, 115, 101, 114, 118, 101, 114, 58, 32, 107, 101, 121, 32, 105, 115, 32, 110, 111, 116, 32, 112, 114, 111, 118, 105, 100, 101, 100])))) (by kernel_rfl) ?_
  refine sv (v := (Value.iface 133 (Value.string (ByteArray.mk #[101, 116, 99, 100, 115, 101, 114, 118, 101, 114, 58, 32, 107, 101, 121, 32, 105, 115, 32, 110, 111, 116, 32, 112, 114, 111, 118, 105, 100, 101, 100])))) (x_assign rfl) ?_
  refine wn (hK50_ _ _ ?_)
  refine C_ret (X_thenR ?_)
  refine R_any (v := (Value.iface 133 (Value.string (ByteArray.mk #[101, 116, 99, 100, 115, 101, 114, 118, 101, 114, 58, 32, 107, 101, 121, 32, 105, 115, 32, 110, 111, 116, 32, 112, 114, 111, 118, 105, 100, 101, 100])))) (run_results1 rfl rfl) ⟨_, rfl, ?_⟩
  refine sv (v := (Value.iface 133 (Value.string (ByteArray.mk #[101, 116, 99, 100, 115, 101, 114, 118, 101, 114, 58, 32, 107, 101, 121, 32, 105, 115, 32, 110, 111, 116, 32, 112, 114, 111, 118, 105, 100, 101, 100])))) (x_assign rfl) ?_
  refine wn (hK45_ _ _ ?_)
  refine C_ret ?_
  refine R_any (v := (Value.iface 133 (Value.string (ByteArray.mk #[101, 116, 99, 100, 115, 101, 114, 118, 101, 114, 58, 32, 107, 101, 121, 32, 105, 115, 32, 110, 111, 116, 32, 112, 114, 111, 118, 105, 100, 101, 100])))) (run_results1 rfl rfl) ⟨_, rfl, ?_⟩
  refine S_list (T_callW (al := [(Value.iface 133 (Value.string (ByteArray.mk #[101, 116, 99, 100, 115, 101, 114, 118, 101, 114, 58, 32, 107, 101, 121, 32, 105, 115, 32, 110, 111, 116, 32, 112, 114, 111, 118, 105, 100, 101, 100])))]) rfl rfl cb40 (Calls.into (n := 27) func40 rfl ntmps40 rfl rfl ?_))
  refine cr fun _ hK51_ => ?_
  refine sv (v := (vI .i64 0)) (x_assign rfl) ?_
  refine wn (hK51_ _ _ ?_)
  refine C_seq (fun _ hK52_ => ?_)
  refine cr fun _ hK53_ => ?_
  refine sm (Value.iface 133 (Value.string (ByteArray.mk #[101, 116, 99, 100, 115, 101, 114, 118, 101, 114, 58, 32, 107, 101, 121, 32, 105, 115, 32, 110, 111, 116, 32, 112, 114, 111, 118, 105, 100, 101, 100]))) ?_
  refine wn (hK53_ _ _ ?_)
  refine C_block ?_
  refine cr fun _ hK54_ => ?_
  refine sv (v := (vB false)) (by kernel_rfl) ?_
  refine sv (v := (vB false)) (x_assign rfl) ?_
  refine wn (hK54_ _ _ ?_)
  refine C_condF rfl ?_
  refine cr fun _ hK55_ => ?_
  refine sv (v := (Value.iface 133 (Value.string (ByteArray.mk #[101, 116, 99, 100, 115, 101, 114, 118, 101, 114, 58, 32, 107, 101, 121, 32, 105, 115, 32, 110, 111, 116, 32, 112, 114, 111, 118, 105, 100, 101, 100])))) (by kernel_rfl) ?_
  refine sv (v := (vB true)) (x_cast (x_eqK rfl rfl underlying84 (by kernel_rfl) underlying133) (congrArg vB (by simp only [toList_data]; decide))) ?_
  refine sv (v := (vB true)) (x_assign rfl) ?_
  refine wn (hK55_ _ _ ?_)
  refine C_condT rfl ?_
  refine cr fun _ hK56_ => ?_
  refine sv (v := (vI .i64 1)) (x_assign rfl) ?_
  refine wn (hK56_ _ _ ?_)
  refine C_ret (X_blkR (X_thenR ?_))
  refine R_any (v := (vI .i64 1)) (run_results1 rfl rfl) ⟨_, rfl, ?_⟩
  refine sv (v := (vI .i64 1)) (x_assign rfl) ?_
  refine wn (hK13_ _ _ ?_)
  refine C_ret (X_blkR (X_thenR ?_))
  refine R_any (v := (vI .i64 1)) (run_results1 rfl rfl) ⟨_, rfl, ?_⟩
  refine sv (v := (vB true)) (x_bin rfl rfl rfl) ?_
  refine sm (vB true) ?_
  refine S_yes (j := 3) (dj := 4) (b := true) rfl rfl rfl (T_val (v := (vA #[(vI .i64 2), (Value.string (ByteArray.mk #[107])), (Value.string ByteArray.empty), (Value.string ByteArray.empty), (vI .i64 0), (vI .i64 0), (vI .i64 0), (vI .i64 0), (vI .i64 0), (vI .i64 0), (vI .i64 0), (vI .i64 0), (vI .i64 0), (vB false), (vB false), (vB false), (vB false), (vB false), (vS none 0 0), (vS none 0 0), (vS none 0 0)])) (by kernel_rfl) ?_)
  refine S_yes (j := 3) (dj := 4) (b := true) rfl rfl rfl (T_callW (al := [(vA #[(vI .i64 2), (Value.string (ByteArray.mk #[107])), (Value.string ByteArray.empty), (Value.string ByteArray.empty), (vI .i64 0), (vI .i64 0), (vI .i64 0), (vI .i64 0), (vI .i64 0), (vI .i64 0), (vI .i64 0), (vI .i64 0), (vI .i64 0), (vB false), (vB false), (vB false), (vB false), (vB false), (vS none 0 0), (vS none 0 0), (vS none 0 0)]), (vI .i64 3)]) rfl rfl cb15 (Calls.into (n := 32) func15 rfl ntmps15 rfl rfl ?_))
  refine cr fun _ hK57_ => ?_
  refine S_list (T_box (v := (vA #[(vI .i64 2), (Value.string (ByteArray.mk #[107])), (Value.string ByteArray.empty), (Value.string ByteArray.empty), (vI .i64 0), (vI .i64 0), (vI .i64 0), (vI .i64 0), (vI .i64 0), (vI .i64 0), (vI .i64 0), (vI .i64 0), (vI .i64 0), (vB false), (vB false), (vB false), (vB false), (vB false), (vS none 0 0), (vS none 0 0), (vS none 0 0)])) rfl H41_ ?_)
  intro b58_ w59_ S61_ H60_
  have S62_ := Same.trans S43_ S61_
  refine sv (v := (vI .i64 0)) (x_assign rfl) ?_
  refine wn (hK57_ _ _ ?_)
  refine C_seq (fun _ hK63_ => ?_)
  refine cr fun _ hK64_ => ?_
  refine sv (v := (vQ b58_)) (by kernel_rfl) ?_
  refine sv (v := (vI .i64 2)) (x_load1 rfl underlying3 rfl ((Holds.rd H60_ 0 rfl) 0 (vI .i64 2) rfl)) ?_
  refine wn (hK64_ _ _ ?_)
  refine C_block ?_
  refine cr fun _ hK65_ => ?_
  refine sv (v := (vB false)) (x_bin rfl rfl rfl) ?_
  refine sv (v := (vB false)) (x_assign rfl) ?_
  refine wn (hK65_ _ _ ?_)
  refine C_condF rfl ?_
  refine cr fun _ hK66_ => ?_
  refine sv (v := (vB true)) (x_bin rfl rfl rfl) ?_
  refine sv (v := (vB true)) (x_assign rfl) ?_
  refine wn (hK66_ _ _ ?_)
  refine C_condT rfl ?_
  refine cr fun _ hK67_ => ?_
  refine sv (v := (vA #[(vI .i64 2), (Value.string (ByteArray.mk #[107])), (Value.string ByteArray.empty), (Value.string ByteArray.empty), (vI .i64 0), (vI .i64 0), (vI .i64 0), (vI .i64 0), (vI .i64 0), (vI .i64 0), (vI .i64 0), (vI .i64 0), (vI .i64 0), (vB false), (vB false), (vB false), (vB false), (vB false), (vS none 0 0), (vS none 0 0), (vS none 0 0)])) (x_loadN (vs := [(vI .i64 2), (Value.string (ByteArray.mk #[107])), (Value.string ByteArray.empty), (Value.string ByteArray.empty), (vI .i64 0), (vI .i64 0), (vI .i64 0), (vI .i64 0), (vI .i64 0), (vI .i64 0), (vI .i64 0), (vI .i64 0), (vI .i64 0), (vB false), (vB false), (vB false), (vB false), (vB false), (vS none 0 0), (vS none 0 0), (vS none 0 0)]) rfl underlying25 rfl z25 rfl (Rd.cells (Holds.rd H60_ 0 rfl) 0 rfl)) ?_
  refine S_list (T_callW (al := [(vA #[(vI .i64 2), (Value.string (ByteArray.mk #[107])), (Value.string ByteArray.empty), (Value.string ByteArray.empty), (vI .i64 0), (vI .i64 0), (vI .i64 0), (vI .i64 0), (vI .i64 0), (vI .i64 0), (vI .i64 0), (vI .i64 0), (vI .i64 0), (vB false), (vB false), (vB false), (vB false), (vB false), (vS none 0 0), (vS none 0 0), (vS none 0 0)])]) rfl rfl cb44 (Calls.into (n := 19) func44 rfl ntmps44 rfl rfl ?_))
  refine cr fun _ hK68_ => ?_
  refine S_list (T_box (v := (vA #[(vI .i64 2), (Value.string (ByteArray.mk #[107])), (Value.string ByteArray.empty), (Value.string ByteArray.empty), (vI .i64 0), (vI .i64 0), (vI .i64 0), (vI .i64 0), (vI .i64 0), (vI .i64 0), (vI .i64 0), (vI .i64 0), (vI .i64 0), (vB false), (vB false), (vB false), (vB false), (vB false), (vS none 0 0), (vS none 0 0), (vS none 0 0)])) rfl H60_ ?_)
  intro b69_ w70_ S72_ H71_
  have S73_ := Same.trans S62_ S72_
  refine sv (v := (vP none)) (x_assign rfl) ?_
  refine wn (hK68_ _ _ ?_)
  refine cr fun _ hK74_ => ?_
  refine sv (v := (vP (some ⟨b69_, 1, none⟩))) (by kernel_rfl) ?_
  refine sv (v := (Value.string (ByteArray.mk #[107]))) (x_load1 rfl underlying9 rfl ((Holds.rd H71_ 0 rfl) 1 (Value.string (ByteArray.mk #[107])) rfl)) ?_
  refine S_list (T_s2b rfl underlying9 underlying122 underlying5 H71_ ?_)
  intro b75_ cp76_ w77_ S79_ hc80_ H78_
  have S81_ := Same.trans S73_ S79_
  have H82_ := Holds.resl H78_ 0 rfl (byteCells_bytesV _ : byteCells (ByteArray.mk #[107]) = bytesV (ints (ByteArray.mk #[107]))) rfl
  have H83_ := Holds.resl H82_ 0 rfl (rfl : bytesV (ints (ByteArray.mk #[107])) = bytesV (ints (ByteArray.mk #[107]))) ((ints_length _).symm : (ByteArray.mk #[107]).size = (List.length (ints (ByteArray.mk #[107]))))
  refine sv (v := (vP (some ⟨b69_, 3, none⟩))) (by kernel_rfl) ?_
  refine sv (v := (Value.string ByteArray.empty)) (x_load1 rfl underlying9 rfl ((Holds.rd H83_ 1 rfl) 3 (Value.string ByteArray.empty) rfl)) ?_
  refine S_list (T_s2b rfl underlying9 underlying122 underlying5 H83_ ?_)
  intro b84_ cp85_ w86_ S88_ hc89_ H87_
  have S90_ := Same.trans S81_ S88_
  have H91_ := Holds.resl H87_ 0 rfl (byteCells_bytesV _ : byteCells ByteArray.empty = bytesV (ints ByteArray.empty)) rfl
  have H92_ := Holds.resl H91_ 0 rfl (rfl : bytesV (ints ByteArray.empty) = bytesV (ints ByteArray.empty)) ((ints_length _).symm : ByteArray.empty.size = (List.length (ints ByteArray.empty)))
  refine sv (v := (vP (some ⟨b69_, 4, none⟩))) (by kernel_rfl) ?_
  refine sv (v := (vI .i64 0)) (x_load1 rfl underlying2 rfl ((Holds.rd H92_ 2 rfl) 4 (vI .i64 0) rfl)) ?_
  refine sv (v := (vP (some ⟨b69_, 15, none⟩))) (by kernel_rfl) ?_
  refine sv (v := (vB false)) (x_load1 rfl underlying4 rfl ((Holds.rd H92_ 2 rfl) 15 (vB false) rfl)) ?_
  refine sv (v := (vP (some ⟨b69_, 16, none⟩))) (by kernel_rfl) ?_
  refine sv (v := (vB false)) (x_load1 rfl underlying4 rfl ((Holds.rd H92_ 2 rfl) 16 (vB false) rfl)) ?_
  refine sv (v := (vP (some ⟨b69_, 17, none⟩))) (by kernel_rfl) ?_
  refine sv (v := (vB false)) (x_load1 rfl underlying4 rfl ((Holds.rd H92_ 2 rfl) 17 (vB false) rfl)) ?_
  refine sv (v := (vA #[(vS (some ⟨b75_, 0, none⟩) ((ByteArray.mk #[107]).size) cp76_), (vS (some ⟨b84_, 0, none⟩) ByteArray.empty.size cp85_), (vI .i64 0), (vB false), (vB false), (vB false)])) (by kernel_rfl) ?_
  refine S_list (T_box (v := (vA #[(vS (some ⟨b75_, 0, none⟩) ((ByteArray.mk #[107]).size) cp76_), (vS (some ⟨b84_, 0, none⟩) ByteArray.empty.size cp85_), (vI .i64 0), (vB false), (vB false), (vB false)])) rfl H92_ ?_)
  intro b93_ w94_ S96_ H95_
  have S97_ := Same.trans S90_ S96_
  refine sv (v := (vQ b93_)) (x_assign rfl) ?_
  refine wn (hK74_ _ _ ?_)
  refine C_ret ?_
  refine R_any (v := (vQ b93_)) (run_results1 rfl rfl) ⟨_, rfl, ?_⟩
  refine S_list (T_callW (al := [(vQ b93_)]) rfl rfl cb43 (Calls.into (n := 5) func43 rfl ntmps43 rfl rfl ?_))
  refine cr fun _ hK98_ => ?_
  refine sv (v := (Value.nilIface)) (x_assign rfl) ?_
  refine wn (hK98_ _ _ ?_)
  refine cr fun _ hK99_ => ?_
  refine sm (vQ b93_) ?_
  refine S_list (T_callW (al := [(vQ b93_)]) rfl rfl cb69 (Calls.into (n := 35) func69 rfl ntmps69 rfl rfl ?_))
  refine cr fun _ hK100_ => ?_
  refine sv (v := (Value.nilIface)) (x_assign rfl) ?_
  refine wn (hK100_ _ _ ?_)
  refine C_seq (fun _ hK101_ => ?_)
  refine cr fun _ hK102_ => ?_
  refine sm (vQ b93_) ?_
  refine sv (v := (vQ b93_)) (by kernel_rfl) ?_
  refine sv (v := (vQ b93_)) (by kernel_rfl) ?_
  refine sv (v := (vS (some ⟨b75_, 0, none⟩) ((ByteArray.mk #[107]).size) cp76_)) (x_load1 rfl underlying122 rfl ((Holds.rd H95_ 0 rfl) 0 (vS (some ⟨b75_, 0, none⟩) ((ByteArray.mk #[107]).size) cp76_) rfl)) ?_
  refine sv (v := (vI .i64 ((ByteArray.mk #[107]).size : Int))) (x_lenS rfl underlying122) ?_
  refine sv (v := (vB (decide (((ByteArray.mk #[107]).size : Int) = 0)))) (x_bin rfl rfl rfl) ?_
  refine wn (hK102_ _ _ ?_)
  refine C_cond (b := decide (((ByteArray.mk #[107]).size : Int) = 0)) rfl (fun c103_t => ?_) (fun c103_f => ?_)
  ·have c103_tp : ((ByteArray.mk #[107]).size : Int) = 0 := of_decide_eq_true c103_t
   exact absurd c103_tp (by decide)
  ·have c103_fp : ¬ (((ByteArray.mk #[107]).size : Int) = 0) := of_decide_eq_false c103_f
   refine C_skip (X_then (hK101_ _ _ ?_))
   refine C_seq (fun _ hK104_ => ?_)
   refine cr fun _ hK105_ => ?_
   refine sm (vQ b93_) ?_
   refine sv (v := (vQ b93_)) (by kernel_rfl) ?_
   refine sv (v := (vP (some ⟨b93_, 4, none⟩))) (by kernel_rfl) ?_
   refine sv (v := (vB false)) (x_load1 rfl underlying4 rfl ((Holds.rd H95_ 0 rfl) 4 (vB false) rfl)) ?_
   refine sm (vB false) ?_
   refine S_no (j := 4) (dj := 14) (b := false) rfl rfl rfl (by decide) ?_
   refine S_no (j := 4) (dj := 14) (b := false) rfl rfl rfl (by decide) ?_
   refine S_no (j := 4) (dj := 14) (b := false) rfl rfl rfl (by decide) ?_
   refine S_no (j := 4) (dj := 14) (b := false) rfl rfl rfl (by decide) ?_
   refine S_no (j := 4) (dj := 14) (b := false) rfl rfl rfl (by decide) ?_
   refine S_no (j := 4) (dj := 14) (b := false) rfl rfl rfl (by decide) ?_
   refine S_list (T_pickF (v := (vB false)) rfl rfl ?_)
   refine wn (hK105_ _ _ ?_)
   refine C_condF rfl ?_
   refine C_skip (X_then (hK104_ _ _ ?_))
   refine C_seq (fun _ hK106_ => ?_)
   refine cr fun _ hK107_ => ?_
   refine sm (vQ b93_) ?_
   refine sv (v := (vQ b93_)) (by kernel_rfl) ?_
   refine sv (v := (vP (some ⟨b93_, 5, none⟩))) (by kernel_rfl) ?_
   refine sv (v := (vB false)) (x_load1 rfl underlying4 rfl ((Holds.rd H95_ 0 rfl) 5 (vB false) rfl)) ?_
   refine sm (vB false) ?_
   refine S_no (j := 4) (dj := 27) (b := false) rfl rfl rfl (by decide) ?_
   refine S_no (j := 4) (dj := 27) (b := false) rfl rfl rfl (by decide) ?_
   refine S_no (j := 4) (dj := 27) (b := false) rfl rfl rfl (by decide) ?_
   refine S_no (j := 4) (dj := 27) (b := false) rfl rfl rfl (by decide) ?_
   refine S_no (j := 4) (dj := 27) (b := false) rfl rfl rfl (by decide) ?_
   refine S_list (T_pickF (v := (vB false)) rfl rfl ?_)
   refine wn (hK107_ _ _ ?_)
   refine C_condF rfl ?_
   refine C_skip (X_then (hK106_ _ _ ?_))
   refine cr fun _ hK108_ => ?_
   refine sv (v := (Value.nilIface)) (x_assign rfl) ?_
   refine wn (hK108_ _ _ ?_)
   refine C_ret ?_
   refine R_any (v := (Value.nilIface)) (run_results1 rfl rfl) ⟨_, rfl, ?_⟩
   refine sv (v := (Value.nilIface)) (x_assign rfl) ?_
   refine wn (hK99_ _ _ ?_)
   refine C_ret ?_
   refine R_any (v := (Value.nilIface)) (run_results1 rfl rfl) ⟨_, rfl, ?_⟩
   refine S_list (T_callW (al := [(Value.nilIface)]) rfl rfl cb40 (Calls.into (n := 27) func40 rfl ntmps40 rfl rfl ?_))
   refine cr fun _ hK109_ => ?_
   refine sv (v := (vI .i64 0)) (x_assign rfl) ?_
   refine wn (hK109_ _ _ ?_)
   refine C_seq (fun _ hK110_ => ?_)
   refine cr fun _ hK111_ => ?_
   refine sm (Value.nilIface) ?_
   refine wn (hK111_ _ _ ?_)
   refine C_block ?_
   refine cr fun _ hK112_ => ?_
   refine sv (v := (vB true)) (by kernel_rfl) ?_
   refine sv (v := (vB true)) (x_assign rfl) ?_
   refine wn (hK112_ _ _ ?_)
   refine C_condT rfl ?_
   refine cr fun _ hK113_ => ?_
   refine sv (v := (vI .i64 0)) (x_assign rfl) ?_
   refine wn (hK113_ _ _ ?_)
   refine C_ret (X_blkR (X_thenR ?_))
   refine R_any (v := (vI .i64 0)) (run_results1 rfl rfl) ⟨_, rfl, ?_⟩
   refine sv (v := (vI .i64 0)) (x_assign rfl) ?_
   refine wn (hK67_ _ _ ?_)
   refine C_ret (X_blkR (X_thenR ?_))
   refine R_any (v := (vI .i64 0)) (run_results1 rfl rfl) ⟨_, rfl, ?_⟩
   refine S_yes (j := 3) (dj := 4) (b := true) rfl rfl rfl (T_val (v := (vB true)) (x_bin rfl rfl rfl) ?_)
   refine S_list (T_pickT (v := (vB true)) rfl rfl ?_)
   refine sv (v := (vB true)) (x_assign rfl) ?_
   refine wn (hK2_ _ _ ?_)
   refine C_ret ?_
   refine R_any (v := (vB true)) (run_results1 rfl rfl) ?_
   have H114_ := Holds.pkF H95_ [10] 10
   exact ⟨_, _, rfl, ⟨rfl, rfl⟩, S97_, H114_⟩
 ·have c49_fp : ¬ ((ByteArray.empty.size : Int) = 0) := of_decide_eq_false c49_f
  exact absurd (by decide) c49_fp
end Go.Proofs.Ytlnihndjepjagaa
set_option linter.unusedVariables false
set_option linter.unusedSimpArgs false
namespace Go.Proofs.Ytlnihndjepjagaa
open Go Go.RowKit Gw Try
open Go.Value renaming int → vI, bool → vB, slice → vS, pointer → vP, agg → vA, tuple → vT

set_option maxHeartbeats 16000000 in
theorem fnOverlapsFlat (R : HP) (v u : Value) (L : List RT) (Bs : List Int) (hL : RS R 21 v (List.length L) (L.flatMap RT.cells)) (hB : RS R 1 u (List.length Bs) (Bs.map (vI .i64))) (hR : RAts R L) (hl : L.length ≤ 1000000000000000) (hsz : ∀ x ∈ L, x.q.key.size ≤ 1000000000000000) :
    Tri Try.prog 4 #[v, u] R [] (fun v__ post__ => v__ = (vB true) ∧ post__ = []) := by
 refine Tri.into (n := 137) (al := [v, u]) func4 rfl ntmps4 rfl rfl fun w F H => ?_
 refine cr fun _ hK1_ => ?_
 refine sv (v := (vB false)) (x_assign rfl) ?_
 refine wn (hK1_ _ _ ?_)
 refine C_seq (fun _ hK2_ => ?_)
 refine cr fun _ hK3_ => ?_
 refine sv (v := v) (x_move rfl) ?_
 refine sv (v := (vI .i64 ((List.length L) : Int))) (x_lenRS rfl hL underlying23) ?_
 refine sv (v := (vB (decide (2147483647 < ((List.length L) : Int))))) (x_bin rfl rfl rfl) ?_
 refine sv (v := (vB (decide (2147483647 < ((List.length L) : Int))))) (x_move rfl) ?_
 rcases Bool.eq_false_or_eq_true (decide (2147483647 < ((List.length L) : Int))) with c4_t | c4_f
 ·have c4_tp : 2147483647 < ((List.length L) : Int) := of_decide_eq_true c4_t
  refine S_no (j := 3) (dj := 21) (b := true) rfl rfl (congrArg vB c4_t) (by decide) ?_
  refine S_no (j := 3) (dj := 21) (b := true) rfl rfl (congrArg vB c4_t) (by decide) ?_
  refine S_no (j := 3) (dj := 21) (b := true) rfl rfl (congrArg vB c4_t) (by decide) ?_
  refine S_list (T_pickT (v := (vB true)) (congrArg vB c4_t) rfl ?_)
  refine wn (hK3_ _ _ ?_)
  refine C_condT rfl ?_
  refine cr fun _ hK5_ => ?_
  refine sv (v := (vB true)) (x_assign rfl) ?_
  refine wn (hK5_ _ _ ?_)
  refine C_ret (X_thenR ?_)
  refine R_any (v := (vB true)) (run_results1 rfl rfl) ?_
  exact ⟨_, _, rfl, ⟨rfl, rfl⟩, (Same.refl w), H⟩
 ·have c4_fp : ¬ (2147483647 < ((List.length L) : Int)) := of_decide_eq_false c4_f
  refine S_yes (j := 3) (dj := 21) (b := false) rfl rfl (congrArg vB c4_f) (T_val (v := u) (x_move rfl) ?_)
  refine S_yes (j := 3) (dj := 21) (b := false) rfl rfl (congrArg vB c4_f) (T_val (v := (vI .i64 ((List.length Bs) : Int))) (x_lenRS rfl hB underlying35) ?_)
  refine S_yes (j := 3) (dj := 21) (b := false) rfl rfl (congrArg vB c4_f) (T_val (v := (vB (decide (2147483647 < ((List.length Bs) : Int))))) (x_bin rfl rfl rfl) ?_)
  refine S_list (T_pickF (v := (vB (decide (2147483647 < ((List.length Bs) : Int))))) (congrArg vB c4_f) rfl ?_)
  refine wn (hK3_ _ _ ?_)
  refine C_cond (b := decide (2147483647 < ((List.length Bs) : Int))) rfl (fun c6_t => ?_) (fun c6_f => ?_)
  ·have c6_tp : 2147483647 < ((List.length Bs) : Int) := of_decide_eq_true c6_t
   refine cr fun _ hK7_ => ?_
   refine sv (v := (vB true)) (x_assign rfl) ?_
   refine wn (hK7_ _ _ ?_)
   refine C_ret (X_thenR ?_)
   refine R_any (v := (vB true)) (run_results1 rfl rfl) ?_
   exact ⟨_, _, rfl, ⟨rfl, rfl⟩, (Same.refl w), H⟩
  ·have c6_fp : ¬ (2147483647 < ((List.length Bs) : Int)) := of_decide_eq_false c6_f
   refine C_skip (X_then (hK2_ _ _ ?_))
   refine C_seq (fun _ hK8_ => ?_)
   refine cr fun _ hK9_ => ?_
   refine sv (v := v) (x_move rfl) ?_
   refine S_list (T_call (al := [v]) (pre := []) rfl rfl cb11 (ckFew R v L hL (hR) (hl)) H ?_)
   rintro v10_ p14_ w11_ ⟨rfl, rfl⟩ S13_ H12_
   have S15_ := Same.trans (Same.refl w) S13_
   refine sv (v := (vB (decide (¬ (0 ≤ manyL L 3 0 ∧ manyL L 3 0 ≤ 200))))) (x_notP rfl) ?_
   refine sv (v := (vB (decide (¬ (0 ≤ manyL L 3 0 ∧ manyL L 3 0 ≤ 200))))) (x_move rfl) ?_
   rcases Bool.eq_false_or_eq_true (decide (¬ (0 ≤ manyL L 3 0 ∧ manyL L 3 0 ≤ 200))) with c16_t | c16_f
   ·have c16_tp : ¬ (0 ≤ manyL L 3 0 ∧ manyL L 3 0 ≤ 200) := of_decide_eq_true c16_t
    refine S_no (j := 3) (dj := 29) (b := true) rfl rfl (congrArg vB c16_t) (by decide) ?_
    refine S_no (j := 3) (dj := 29) (b := true) rfl rfl (congrArg vB c16_t) (by decide) ?_
    refine S_no (j := 3) (dj := 29) (b := true) rfl rfl (congrArg vB c16_t) (by decide) ?_
    refine S_list (T_pickT (v := (vB true)) (congrArg vB c16_t) rfl ?_)
    refine sm (vB true) ?_
    refine S_no (j := 8) (dj := 34) (b := true) rfl rfl rfl (by decide) ?_
    refine S_no (j := 8) (dj := 34) (b := true) rfl rfl rfl (by decide) ?_
    refine S_no (j := 8) (dj := 34) (b := true) rfl rfl rfl (by decide) ?_
    refine S_no (j := 8) (dj := 34) (b := true) rfl rfl rfl (by decide) ?_
    refine S_no (j := 8) (dj := 34) (b := true) rfl rfl rfl (by decide) ?_
    refine S_list (T_pickT (v := (vB true)) rfl rfl ?_)
    refine wn (hK9_ _ _ ?_)
    refine C_condT rfl ?_
    refine cr fun _ hK17_ => ?_
    refine S_list (T_call (al := []) (pre := []) rfl rfl cb14 (ovLive R) H12_ ?_)
    rintro v18_ p22_ w19_ ⟨rfl, rfl⟩ S21_ H20_
    have S23_ := Same.trans S15_ S21_
    refine sv (v := (vB true)) (x_assign rfl) ?_
    refine wn (hK17_ _ _ ?_)
    refine C_ret (X_thenR ?_)
    refine R_any (v := (vB true)) (run_results1 rfl rfl) ?_
    exact ⟨_, _, rfl, ⟨rfl, rfl⟩, S23_, H20_⟩
   ·have c16_fp : ¬ (¬ (0 ≤ manyL L 3 0 ∧ manyL L 3 0 ≤ 200)) := of_decide_eq_false c16_f
    refine S_yes (j := 3) (dj := 29) (b := false) rfl rfl (congrArg vB c16_f) (T_val (v := v) (x_move rfl) ?_)
    refine S_yes (j := 3) (dj := 29) (b := false) rfl rfl (congrArg vB c16_f) (T_call (al := [v]) (pre := []) rfl rfl cb17 (ovProper R v L hL (hR) (hl)) H12_ ?_)
    rintro v24_ p30_ w27_ ⟨b25_, rfl, rfl, he26_⟩ S29_ H28_
    have S31_ := Same.trans S15_ S29_
    refine S_yes (j := 3) (dj := 29) (b := false) rfl rfl (congrArg vB c16_f) (T_val (v := (vB (!b25_))) (x_not rfl) ?_)
    refine S_list (T_pickF (v := (vB (!b25_))) (congrArg vB c16_f) rfl ?_)
    refine sm (vB (!b25_)) ?_
    rcases Bool.eq_false_or_eq_true (!b25_) with c32_t | c32_f
    ·skip
     refine S_no (j := 8) (dj := 34) (b := true) rfl rfl (congrArg vB c32_t) (by decide) ?_
     refine S_no (j := 8) (dj := 34) (b := true) rfl rfl (congrArg vB c32_t) (by decide) ?_
     refine S_no (j := 8) (dj := 34) (b := true) rfl rfl (congrArg vB c32_t) (by decide) ?_
     refine S_no (j := 8) (dj := 34) (b := true) rfl rfl (congrArg vB c32_t) (by decide) ?_
     refine S_no (j := 8) (dj := 34) (b := true) rfl rfl (congrArg vB c32_t) (by decide) ?_
     refine S_list (T_pickT (v := (vB true)) (congrArg vB c32_t) rfl ?_)
     refine wn (hK9_ _ _ ?_)
     refine C_condT rfl ?_
     refine cr fun _ hK33_ => ?_
     refine S_list (T_call (al := []) (pre := []) rfl rfl cb14 (ovLive R) H28_ ?_)
     rintro v34_ p38_ w35_ ⟨rfl, rfl⟩ S37_ H36_
     have S39_ := Same.trans S31_ S37_
     refine sv (v := (vB true)) (x_assign rfl) ?_
     refine wn (hK33_ _ _ ?_)
     refine C_ret (X_thenR ?_)
     refine R_any (v := (vB true)) (run_results1 rfl rfl) ?_
     exact ⟨_, _, rfl, ⟨rfl, rfl⟩, S39_, H36_⟩
    ·skip
     refine S_yes (j := 8) (dj := 34) (b := false) rfl rfl (congrArg vB c32_f) (T_val (v := u) (x_move rfl) ?_)
     refine S_yes (j := 8) (dj := 34) (b := false) rfl rfl (congrArg vB c32_f) (T_val (v := (vI .i64 ((List.length Bs) : Int))) (x_lenRS rfl hB underlying35) ?_)
     refine S_yes (j := 8) (dj := 34) (b := false) rfl rfl (congrArg vB c32_f) (T_val (v := v) (x_move rfl) ?_)
     refine S_yes (j := 8) (dj := 34) (b := false) rfl rfl (congrArg vB c32_f) (T_val (v := (vI .i64 ((List.length L) : Int))) (x_lenRS rfl hL underlying23) ?_)
     refine S_yes (j := 8) (dj := 34) (b := false) rfl rfl (congrArg vB c32_f) (T_val (v := (vB (decide (((List.length L) : Int) < ((List.length Bs) : Int))))) (x_bin rfl rfl rfl) ?_)
     refine S_list (T_pickF (v := (vB (decide (((List.length L) : Int) < ((List.length Bs) : Int))))) (congrArg vB c32_f) rfl ?_)
     refine wn (hK9_ _ _ ?_)
     refine C_cond (b := decide (((List.length L) : Int) < ((List.length Bs) : Int))) rfl (fun c40_t => ?_) (fun c40_f => ?_)
     ·have c40_tp : ((List.length L) : Int) < ((List.length Bs) : Int) := of_decide_eq_true c40_t
      refine cr fun _ hK41_ => ?_
      refine S_list (T_call (al := []) (pre := []) rfl rfl cb14 (ovLive R) H28_ ?_)
      rintro v42_ p46_ w43_ ⟨rfl, rfl⟩ S45_ H44_
      have S47_ := Same.trans S31_ S45_
      refine sv (v := (vB true)) (x_assign rfl) ?_
      refine wn (hK41_ _ _ ?_)
      refine C_ret (X_thenR ?_)
      refine R_any (v := (vB true)) (run_results1 rfl rfl) ?_
      exact ⟨_, _, rfl, ⟨rfl, rfl⟩, S47_, H44_⟩
     ·have c40_fp : ¬ (((List.length L) : Int) < ((List.length Bs) : Int)) := of_decide_eq_false c40_f
      refine C_skip (X_then (hK8_ _ _ ?_))
      refine cr fun _ hK48_ => ?_
      refine S_list (T_new (obj := .cells #[] 25) (f := fun b__ => .slice (some ⟨b__, 0, none⟩) 0 0) (A := fun b__ => cl b__ 25 []) (by kernel_rfl) (fun l h => h.alloc _ _) H28_ ?_)
      intro b49_ w50_ S52_ H51_
      have S53_ := Same.trans S31_ S52_
      refine sv (v := v) (x_move rfl) ?_
      have H54_ : Holds w50_ (cl b49_ 25 ([] ++ [] ++ []) :: ro R :: F) := cast1 (P := fun (c__ : List Value) => Holds w50_ (cl b49_ 25 c__ :: ro R :: F)) (by kernel_rfl : [] = [] ++ [] ++ []) H51_
      have H55_ : Holds w50_ (sl 25 21 (vS (some ⟨b49_, 0, none⟩) 0 0) 0 [] :: ro R :: F) := Holds.to_sl H54_ 0 [] [] (xs := []) (m := 0) (cap := 0) (sz := 21) rfl (by kernel_rfl) (by kernel_rfl) (by omega)
      refine S_list (T_append rfl rfl underlying23 z25 rfl (by decide) H55_ 0 rfl (RS.src hL (Holds.ro_at H55_ 1 rfl) underlying23 (ones_RTo hR)) (by first | omega | (simp only [List.length_append, List.length_cons, List.length_nil]; omega)) ?_)
      intro v56_ w57_ S59_ H58_
      have S60_ := Same.trans S53_ S59_
      refine sv (v := v56_) (x_assign rfl) ?_
      refine wn (hK48_ _ _ ?_)
      refine C_seq (fun _ hK61_ => ?_)
      refine cr fun _ hK62_ => ?_
      refine sv (v := u) (x_move rfl) ?_
      refine sv (v := (vI .i64 ((List.length Bs) : Int))) (x_lenRS rfl hB underlying35) ?_
      refine sm (vI .i64 0) ?_
      refine wn (hK62_ _ _ ?_)
      refine C_block ?_
      obtain ⟨hl2_, hk4_⟩ := few_kinds (L := L) (by omega)
      have hpp_ : ∀ x ∈ L, PrpR x := he26_ (by simpa using c32_f)
      have H63_ := Holds.resl H58_ 0 rfl ((by first | rfl | (simp [RQ.cells, CM.cells, RT.cells, SN.cells]; done)) : [] ++ (L.flatMap RT.cells) = L.flatMap RT.cells) ((by first | rfl | omega | (simp; done) | (simp; omega)) : 0 + (List.length L) = (List.length L))
      refine C_loop (γ := Nat × (List RT) × Bool) (fun x__ a__ w1__ => match x__ with | ⟨i, M, t4_v⟩ => ∃ h : Env, a__ = mkA 137 (upd (upd (upd (upd (upd (upd h 0 v) 4 (vB t4_v)) 5 v56_) 45 u) 46 (vI .i64 ((List.length Bs) : Int))) 47 (vI .i64 (i : Int))) [] ∧ Holds w1__ (sl 25 21 v56_ (List.length M) (M.flatMap RT.cells) :: ro R :: F) ∧ Same w w1__ ∧ (i ≤ Bs.length) ∧ (M.length = L.length) ∧ (M.Perm L)) (fun x__ => match x__ with | ⟨i, M, t4_v⟩ => Bs.length - i) (⟨0, L, false⟩) ⟨_, congrArg (fun e => mkA 137 e []) (ch (ch (ch (ch (ch (ch rfl rfl) rfl) rfl) rfl) rfl) (congrArg (vI .i64) ((by first | rfl | omega | (simp; done) | (simp; omega)) : 0 = (0 : Int)))), H63_, S60_, (by first | assumption | omega | exact rfl), (rfl), (List.Perm.refl _)⟩ ?_
      rintro ⟨i, M, t4_v⟩ _ w64_ ⟨h, rfl, H65_, S66_, hii, hMl, hMp⟩
      refine cr fun _ hK67_ => ?_
      refine sv (v := (vB (decide ((i : Int) < ((List.length Bs) : Int))))) (x_bin rfl rfl rfl) ?_
      refine wn (hK67_ _ _ ?_)
      refine C_seq (fun _ hK68_ => ?_)
      refine C_cond (b := decide ((i : Int) < ((List.length Bs) : Int))) rfl (fun c69_t => ?_) (fun c69_f => ?_)
      ·have c69_tp : (i : Int) < ((List.length Bs) : Int) := of_decide_eq_true c69_t
       refine C_skip (X_then (hK68_ _ _ ?_))
       refine C_seq (fun _ hK70_ => ?_)
       refine C_block ?_
       refine cr fun _ hK71_ => ?_
       refine sm (vI .i64 (i : Int)) ?_
       obtain ⟨x72_, hx73_, hm74_⟩ := elem_at Bs i (by first | omega | (simp only [List.length_set]; omega))
       refine sv (v := (vP (some ⟨(sb u), so u + i, none⟩))) (x_idxRS (v := u) rfl hB rfl underlying35 z3 (by omega) (by omega) (by omega : _ = i) (by rw [Nat.mul_one])) ?_
       refine sv (v := (vI .i64 x72_)) (x_load1 rfl underlying3 rfl (RC.cell (RS.rc hB) (Holds.ro_at H65_ 1 rfl) (j := i) (u := (vI .i64 x72_)) ((map_at hx73_)))) ?_
       refine sv (v := (vI .i64 (i : Int))) (x_assign rfl) ?_
       refine sv (v := (vI .i64 x72_)) (x_assign rfl) ?_
       refine wn (hK71_ _ _ ?_)
       refine C_seq (fun _ hK75_ => ?_)
       refine cr fun _ hK76_ => ?_
       refine sv (v := v56_) (x_move rfl) ?_
       refine sm (vI .i64 (i : Int)) ?_
       have hr77_ := Holds.sl_RSw H65_ 0 rfl
       refine sv (v := (vP (some ⟨(sb v56_), so v56_ + (i * 21 + 0), none⟩))) (x_idxSlR (v := v56_) rfl hr77_ rfl underlying23 z25 (by omega) (by first | omega | (simp only [List.length_set]; omega)) (by omega : _ = i) rfl) ?_
       refine sv (v := (vP (some ⟨(sb v56_), so v56_ + (i * 21 + 0), none⟩))) (by kernel_rfl) ?_
       obtain ⟨x78_, hx79_, hm80_⟩ := elem_at M i (by omega)
       have hra81_ := hR x78_ (hMp.mem_iff.1 hm80_)
       refine sv (v := (vI .i64 x78_.q.kind)) (x_load1 rfl underlying3 rfl ((Holds.slrd H65_ 0 rfl) _ _ (fm_cell RT.len hx79_ (i := 0) rfl))) ?_
       refine sv (v := (vB (decide (x78_.q.kind = 4)))) (x_bin rfl rfl rfl) ?_
       refine wn (hK76_ _ _ ?_)
       refine C_cond (b := decide (x78_.q.kind = 4)) rfl (fun c82_t => ?_) (fun c82_f => ?_)
       ·have c82_tp : x78_.q.kind = 4 := of_decide_eq_true c82_t
        refine cr fun _ hK83_ => ?_
        have H85_ := ((Holds.bring H65_ 1 rfl) :)
        refine S_list (T_call (al := []) (pre := []) rfl rfl cb14 (ovLive R) H85_ ?_)
        rintro v84_ p89_ w86_ ⟨rfl, rfl⟩ S88_ H87_
        have S90_ := Same.trans S66_ S88_
        refine sv (v := (vB true)) (x_assign rfl) ?_
        refine wn (hK83_ _ _ ?_)
        refine C_ret (X_thenR (X_blkR (X_thenR (X_thenR (X_blkR (X_thenR ?_))))))
        refine R_any (v := (vB true)) (run_results1 rfl rfl) ?_
        have H91_ := Holds.pkF H87_ [0] 1
        exact ⟨_, _, rfl, ⟨rfl, rfl⟩, S90_, H91_⟩
       ·have c82_fp : ¬ (x78_.q.kind = 4) := of_decide_eq_false c82_f
        refine C_skip (X_then (hK75_ _ _ ?_))
        refine cr fun _ hK92_ => ?_
        refine sm (vI .i64 x72_) ?_
        refine sv (v := (vI .u64 (IntKind.u64.wrap x72_))) (x_convI rfl underlying3 underlying36 rfl) ?_
        refine sv (v := v56_) (x_move rfl) ?_
        refine sv (v := (vI .i64 ((List.length M) : Int))) (x_lenSl rfl H65_ 0 rfl underlying23) ?_
        refine sv (v := (vI .u64 (List.length M : Int))) (x_convI rfl underlying3 underlying36 (IntWalk.u64_in _ (by omega))) ?_
        obtain ⟨kk93_, hk94_l, hk94_e⟩ := @ib_remU x72_ (List.length M) (by omega)
        refine sv (v := (vI .u64 (kk93_ : Int))) (x_bin rfl rfl (hk94_e)) ?_
        refine sv (v := (vI .i64 (kk93_ : Int))) (x_convI rfl underlying36 underlying3 (IntWalk.i64_in _ (by omega))) ?_
        refine sv (v := (vI .i64 (kk93_ : Int))) (x_assign rfl) ?_
        refine wn (hK92_ _ _ ?_)
        refine A_start (S := fun w => Sub R (hp w)) (N := 16) foll rfl rfl ?_
        have H95_ := Holds.drew_ H65_
        have hq96_ := ((Holds.ro_at H95_ 1 rfl))
        refine A_tk 0 (v := v56_) rfl (by kernel_rfl) (fun w hS => x_move rfl) hq96_ ?_
        refine A_tk 1 (v := (vI .i64 (i : Int))) rfl (by kernel_rfl) (fun w hS => x_move rfl) hq96_ ?_
        refine A_tk 2 (v := v56_) rfl (by kernel_rfl) (fun w hS => x_move rfl) hq96_ ?_
        refine A_tk 3 (v := (vI .i64 (kk93_ : Int))) rfl (by kernel_rfl) (fun w hS => x_move rfl) hq96_ ?_
        refine A_tk 4 (v := v56_) rfl (by kernel_rfl) (fun w hS => x_move rfl) hq96_ ?_
        refine A_tk 5 (v := (vI .i64 (kk93_ : Int))) rfl (by kernel_rfl) (fun w hS => x_move rfl) hq96_ ?_
        refine A_tk 6 (v := (vP (some ⟨(sb v56_), so v56_ + (kk93_ * 21 + 0), none⟩))) rfl (by kernel_rfl) (fun w hS => x_idxSlR (v := v56_) rfl hr77_ rfl underlying23 z25 (by omega) (by first | omega | (simp only [List.length_set]; omega)) (by omega : _ = kk93_) rfl) hq96_ ?_
        obtain ⟨x97_, hx98_, hm99_⟩ := elem_at M kk93_ (by omega)
        have hra100_ := hR x97_ (hMp.mem_iff.1 hm99_)
        refine A_tk 8 (v := v56_) rfl (by kernel_rfl) (fun w hS => x_move rfl) hq96_ ?_
        refine A_tk 9 (v := (vI .i64 (i : Int))) rfl (by kernel_rfl) (fun w hS => x_move rfl) hq96_ ?_
        refine A_tk 10 (v := (vP (some ⟨(sb v56_), so v56_ + (i * 21 + 0), none⟩))) rfl (by kernel_rfl) (fun w hS => x_idxSlR (v := v56_) rfl hr77_ rfl underlying23 z25 (by omega) (by first | omega | (simp only [List.length_set]; omega)) (by omega : _ = i) rfl) hq96_ ?_
        refine A_ready (i := 7) (rs := [11]) (by kernel_rfl) ?_
        refine AllR.cons ?_ ?_
        ·skip
         refine A_op (ls' := #[true, true, true, true, true, true, true, true, true, true, true, false, false, false, false, false]) rfl (by kernel_rfl) (T_val (v := (vA #[(vI .i64 x97_.q.kind), (Value.string x97_.q.key), (Value.string x97_.q.end_), (Value.string x97_.q.value), (vI .i64 x97_.q.lease), (vI .i64 x97_.q.rev), (vI .i64 x97_.q.limit), (vI .i64 x97_.q.sortOrder), (vI .i64 x97_.q.sortTarget), (vI .i64 x97_.q.minMod), (vI .i64 x97_.q.maxMod), (vI .i64 x97_.q.minCreate), (vI .i64 x97_.q.maxCreate), (vB x97_.q.keysOnly), (vB x97_.q.countOnly), (vB x97_.q.prev), (vB x97_.q.ignoreValue), (vB x97_.q.ignoreLease), x97_.q.cmps, x97_.q.then_, x97_.q.else_])) (x_loadN (vs := [(vI .i64 x97_.q.kind), (Value.string x97_.q.key), (Value.string x97_.q.end_), (Value.string x97_.q.value), (vI .i64 x97_.q.lease), (vI .i64 x97_.q.rev), (vI .i64 x97_.q.limit), (vI .i64 x97_.q.sortOrder), (vI .i64 x97_.q.sortTarget), (vI .i64 x97_.q.minMod), (vI .i64 x97_.q.maxMod), (vI .i64 x97_.q.minCreate), (vI .i64 x97_.q.maxCreate), (vB x97_.q.keysOnly), (vB x97_.q.countOnly), (vB x97_.q.prev), (vB x97_.q.ignoreValue), (vB x97_.q.ignoreLease), x97_.q.cmps, x97_.q.then_, x97_.q.else_]) rfl underlying25 rfl z25 rfl (SlRd.cells (Holds.slrd H95_ 0 rfl) (kk93_ * 21 + 0) (fm_cells RT.len hx98_ (i := 0) rfl))) ?_)
         refine ⟨((Holds.ro_at H95_ 1 rfl)), ?_⟩
         refine A_ready (i := 11) (rs := []) (by kernel_rfl) ?_
         refine AllR.cons ?_ AllR.nil
         refine A_op (ls' := #[true, true, true, true, true, true, true, true, true, true, true, true, false, false, false, false]) rfl (by kernel_rfl) (T_val (v := (vA #[(vI .i64 x78_.q.kind), (Value.string x78_.q.key), (Value.string x78_.q.end_), (Value.string x78_.q.value), (vI .i64 x78_.q.lease), (vI .i64 x78_.q.rev), (vI .i64 x78_.q.limit), (vI .i64 x78_.q.sortOrder), (vI .i64 x78_.q.sortTarget), (vI .i64 x78_.q.minMod), (vI .i64 x78_.q.maxMod), (vI .i64 x78_.q.minCreate), (vI .i64 x78_.q.maxCreate), (vB x78_.q.keysOnly), (vB x78_.q.countOnly), (vB x78_.q.prev), (vB x78_.q.ignoreValue), (vB x78_.q.ignoreLease), x78_.q.cmps, x78_.q.then_, x78_.q.else_])) (x_loadN (vs := [(vI .i64 x78_.q.kind), (Value.string x78_.q.key), (Value.string x78_.q.end_), (Value.string x78_.q.value), (vI .i64 x78_.q.lease), (vI .i64 x78_.q.rev), (vI .i64 x78_.q.limit), (vI .i64 x78_.q.sortOrder), (vI .i64 x78_.q.sortTarget), (vI .i64 x78_.q.minMod), (vI .i64 x78_.q.maxMod), (vI .i64 x78_.q.minCreate), (vI .i64 x78_.q.maxCreate), (vB x78_.q.keysOnly), (vB x78_.q.countOnly), (vB x78_.q.prev), (vB x78_.q.ignoreValue), (vB x78_.q.ignoreLease), x78_.q.cmps, x78_.q.then_, x78_.q.else_]) rfl underlying25 rfl z25 rfl (SlRd.cells (Holds.slrd H95_ 0 rfl) (i * 21 + 0) (fm_cells RT.len hx79_ (i := 0) rfl))) ?_)
         refine ⟨((Holds.ro_at H95_ 1 rfl)), ?_⟩
         refine A_tk 12 (v := (vP (some ⟨(sb v56_), so v56_ + (i * 21 + 0), none⟩))) rfl (by kernel_rfl) (fun w hS => x_idxSlR (v := v56_) rfl hr77_ rfl underlying23 z25 (by omega) (by first | omega | (simp only [List.length_set]; omega)) (by omega : _ = i) rfl) hq96_ ?_
         refine A_ready (i := 13) (rs := []) (by kernel_rfl) ?_
         refine AllR.cons ?_ AllR.nil
         refine A_op0 (ls' := #[true, true, true, true, true, true, true, true, true, true, true, true, true, true, false, false]) rfl (by kernel_rfl) (T_storeSlN (vs := [(vI .i64 x97_.q.kind), (Value.string x97_.q.key), (Value.string x97_.q.end_), (Value.string x97_.q.value), (vI .i64 x97_.q.lease), (vI .i64 x97_.q.rev), (vI .i64 x97_.q.limit), (vI .i64 x97_.q.sortOrder), (vI .i64 x97_.q.sortTarget), (vI .i64 x97_.q.minMod), (vI .i64 x97_.q.maxMod), (vI .i64 x97_.q.minCreate), (vI .i64 x97_.q.maxCreate), (vB x97_.q.keysOnly), (vB x97_.q.countOnly), (vB x97_.q.prev), (vB x97_.q.ignoreValue), (vB x97_.q.ignoreLease), x97_.q.cmps, x97_.q.then_, x97_.q.else_]) (k := i * 21 + 0) rfl rfl z25 rfl (List.forall_mem_cons.2 ⟨rfl, (List.forall_mem_cons.2 ⟨rfl, (List.forall_mem_cons.2 ⟨rfl, (List.forall_mem_cons.2 ⟨rfl, (List.forall_mem_cons.2 ⟨rfl, (List.forall_mem_cons.2 ⟨rfl, (List.forall_mem_cons.2 ⟨rfl, (List.forall_mem_cons.2 ⟨rfl, (List.forall_mem_cons.2 ⟨rfl, (List.forall_mem_cons.2 ⟨rfl, (List.forall_mem_cons.2 ⟨rfl, (List.forall_mem_cons.2 ⟨rfl, (List.forall_mem_cons.2 ⟨rfl, (List.forall_mem_cons.2 ⟨rfl, (List.forall_mem_cons.2 ⟨rfl, (List.forall_mem_cons.2 ⟨rfl, (List.forall_mem_cons.2 ⟨rfl, (List.forall_mem_cons.2 ⟨rfl, (List.forall_mem_cons.2 ⟨(hra100_.c.one), (List.forall_mem_cons.2 ⟨(hra100_.t.one), (List.forall_mem_cons.2 ⟨(hra100_.e.one), (fun _ h__ => by cases h__)⟩)⟩)⟩)⟩)⟩)⟩)⟩)⟩)⟩)⟩)⟩)⟩)⟩)⟩)⟩)⟩)⟩)⟩)⟩)⟩)⟩) H95_ 0 rfl (by (rw [fm_len RT.len]; simp only [List.length_set, List.length_cons, List.length_nil]; omega)) (Nat.zero_lt_succ _) rfl rfl ?_)
         intro w101_ S103_ H102_
         have S104_ := Same.trans (Same.trans S66_ (Same.drew _)) S103_
         have H105_ := Holds.resl H102_ 0 rfl (fm_set RT.len M i x97_ (by omega) : List.take (i * 21 + 0) (M.flatMap RT.cells) ++ [(vI .i64 x97_.q.kind), (Value.string x97_.q.key), (Value.string x97_.q.end_), (Value.string x97_.q.value), (vI .i64 x97_.q.lease), (vI .i64 x97_.q.rev), (vI .i64 x97_.q.limit), (vI .i64 x97_.q.sortOrder), (vI .i64 x97_.q.sortTarget), (vI .i64 x97_.q.minMod), (vI .i64 x97_.q.maxMod), (vI .i64 x97_.q.minCreate), (vI .i64 x97_.q.maxCreate), (vB x97_.q.keysOnly), (vB x97_.q.countOnly), (vB x97_.q.prev), (vB x97_.q.ignoreValue), (vB x97_.q.ignoreLease), x97_.q.cmps, x97_.q.then_, x97_.q.else_] ++ List.drop (i * 21 + 0 + List.length [(vI .i64 x97_.q.kind), (Value.string x97_.q.key), (Value.string x97_.q.end_), (Value.string x97_.q.value), (vI .i64 x97_.q.lease), (vI .i64 x97_.q.rev), (vI .i64 x97_.q.limit), (vI .i64 x97_.q.sortOrder), (vI .i64 x97_.q.sortTarget), (vI .i64 x97_.q.minMod), (vI .i64 x97_.q.maxMod), (vI .i64 x97_.q.minCreate), (vI .i64 x97_.q.maxCreate), (vB x97_.q.keysOnly), (vB x97_.q.countOnly), (vB x97_.q.prev), (vB x97_.q.ignoreValue), (vB x97_.q.ignoreLease), x97_.q.cmps, x97_.q.then_, x97_.q.else_]) (M.flatMap RT.cells) = (List.set M i x97_).flatMap RT.cells) (by simp : (List.length M) = (List.length (List.set M i x97_)))
         refine ⟨((Holds.ro_at H105_ 1 rfl)), ?_⟩
         have hr106_ := Holds.sl_RSw H105_ 0 rfl
         have hq107_ := ((Holds.ro_at H105_ 1 rfl))
         refine A_tk 14 (v := (vP (some ⟨(sb v56_), so v56_ + (kk93_ * 21 + 0), none⟩))) rfl (by kernel_rfl) (fun w hS => x_idxSlR (v := v56_) rfl hr106_ rfl underlying23 z25 (by omega) (by first | omega | (simp only [List.length_set]; omega)) (by omega : _ = kk93_) rfl) hq107_ ?_
         refine A_ready (i := 15) (rs := []) (by kernel_rfl) ?_
         refine AllR.cons ?_ AllR.nil
         refine A_op0 (ls' := #[true, true, true, true, true, true, true, true, true, true, true, true, true, true, true, true]) rfl (by kernel_rfl) (T_storeSlN (vs := [(vI .i64 x78_.q.kind), (Value.string x78_.q.key), (Value.string x78_.q.end_), (Value.string x78_.q.value), (vI .i64 x78_.q.lease), (vI .i64 x78_.q.rev), (vI .i64 x78_.q.limit), (vI .i64 x78_.q.sortOrder), (vI .i64 x78_.q.sortTarget), (vI .i64 x78_.q.minMod), (vI .i64 x78_.q.maxMod), (vI .i64 x78_.q.minCreate), (vI .i64 x78_.q.maxCreate), (vB x78_.q.keysOnly), (vB x78_.q.countOnly), (vB x78_.q.prev), (vB x78_.q.ignoreValue), (vB x78_.q.ignoreLease), x78_.q.cmps, x78_.q.then_, x78_.q.else_]) (k := kk93_ * 21 + 0) rfl rfl z25 rfl (List.forall_mem_cons.2 ⟨rfl, (List.forall_mem_cons.2 ⟨rfl, (List.forall_mem_cons.2 ⟨rfl, (List.forall_mem_cons.2 ⟨rfl, (List.forall_mem_cons.2 ⟨rfl, (List.forall_mem_cons.2 ⟨rfl, (List.forall_mem_cons.2 ⟨rfl, (List.forall_mem_cons.2 ⟨rfl, (List.forall_mem_cons.2 ⟨rfl, (List.forall_mem_cons.2 ⟨rfl, (List.forall_mem_cons.2 ⟨rfl, (List.forall_mem_cons.2 ⟨rfl, (List.forall_mem_cons.2 ⟨rfl, (List.forall_mem_cons.2 ⟨rfl, (List.forall_mem_cons.2 ⟨rfl, (List.forall_mem_cons.2 ⟨rfl, (List.forall_mem_cons.2 ⟨rfl, (List.forall_mem_cons.2 ⟨rfl, (List.forall_mem_cons.2 ⟨(hra81_.c.one), (List.forall_mem_cons.2 ⟨(hra81_.t.one), (List.forall_mem_cons.2 ⟨(hra81_.e.one), (fun _ h__ => by cases h__)⟩)⟩)⟩)⟩)⟩)⟩)⟩)⟩)⟩)⟩)⟩)⟩)⟩)⟩)⟩)⟩)⟩)⟩)⟩)⟩)⟩) H105_ 0 rfl (by (rw [fm_len RT.len]; simp only [List.length_set, List.length_cons, List.length_nil]; omega)) (Nat.zero_lt_succ _) rfl rfl ?_)
         intro w108_ S110_ H109_
         have S111_ := Same.trans S104_ S110_
         have hsw_ := swap_perm hMp hx79_ hx98_
         have H112_ := Holds.resl H109_ 0 rfl (fm_set RT.len (List.set M i x97_) kk93_ x78_ (by rw [List.length_set]; omega) : List.take (kk93_ * 21 + 0) ((List.set M i x97_).flatMap RT.cells) ++ [(vI .i64 x78_.q.kind), (Value.string x78_.q.key), (Value.string x78_.q.end_), (Value.string x78_.q.value), (vI .i64 x78_.q.lease), (vI .i64 x78_.q.rev), (vI .i64 x78_.q.limit), (vI .i64 x78_.q.sortOrder), (vI .i64 x78_.q.sortTarget), (vI .i64 x78_.q.minMod), (vI .i64 x78_.q.maxMod), (vI .i64 x78_.q.minCreate), (vI .i64 x78_.q.maxCreate), (vB x78_.q.keysOnly), (vB x78_.q.countOnly), (vB x78_.q.prev), (vB x78_.q.ignoreValue), (vB x78_.q.ignoreLease), x78_.q.cmps, x78_.q.then_, x78_.q.else_] ++ List.drop (kk93_ * 21 + 0 + List.length [(vI .i64 x78_.q.kind), (Value.string x78_.q.key), (Value.string x78_.q.end_), (Value.string x78_.q.value), (vI .i64 x78_.q.lease), (vI .i64 x78_.q.rev), (vI .i64 x78_.q.limit), (vI .i64 x78_.q.sortOrder), (vI .i64 x78_.q.sortTarget), (vI .i64 x78_.q.minMod), (vI .i64 x78_.q.maxMod), (vI .i64 x78_.q.minCreate), (vI .i64 x78_.q.maxCreate), (vB x78_.q.keysOnly), (vB x78_.q.countOnly), (vB x78_.q.prev), (vB x78_.q.ignoreValue), (vB x78_.q.ignoreLease), x78_.q.cmps, x78_.q.then_, x78_.q.else_]) ((List.set M i x97_).flatMap RT.cells) = (List.set (List.set M i x97_) kk93_ x78_).flatMap RT.cells) (by simp : (List.length (List.set M i x97_)) = (List.length (List.set (List.set M i x97_) kk93_ x78_)))
         refine ⟨((Holds.ro_at H112_ 1 rfl)), ?_⟩
         refine A_done (by kernel_rfl) ?_
         refine (X_blkN (X_then (hK70_ _ _ ?_)))
         refine C_reg ?_
         refine sv (v := (vI .i64 ((i : Int) + 1))) (x_bin rfl rfl (ib_add (IntWalk.i64_in _ (by omega)))) ?_
         refine sm (vI .i64 ((i : Int) + 1)) ?_
         refine wpList_nil (X_then ?_)
         exact ⟨⟨i + 1, (List.set (List.set M i x97_) kk93_ x78_), t4_v⟩, ⟨_, congrArg (fun e => mkA 137 e []) (ch (ch (ch (ch (ch (ch rfl rfl) rfl) rfl) rfl) rfl) (congrArg (vI .i64) ((by first | rfl | omega | (simp; done) | (simp; omega)) : (i : Int) + 1 = ((i + 1 : Nat) : Int)))), H112_, S111_, (by first | assumption | omega | exact rfl), (by simp; omega), (hsw_)⟩, by first | omega | (dsimp only; omega) | (simp; omega)⟩
        refine AllR.cons ?_ AllR.nil
        refine A_op (ls' := #[true, true, true, true, true, true, true, false, true, true, true, true, false, false, false, false]) rfl (by kernel_rfl) (T_val (v := (vA #[(vI .i64 x78_.q.kind), (Value.string x78_.q.key), (Value.string x78_.q.end_), (Value.string x78_.q.value), (vI .i64 x78_.q.lease), (vI .i64 x78_.q.rev), (vI .i64 x78_.q.limit), (vI .i64 x78_.q.sortOrder), (vI .i64 x78_.q.sortTarget), (vI .i64 x78_.q.minMod), (vI .i64 x78_.q.maxMod), (vI .i64 x78_.q.minCreate), (vI .i64 x78_.q.maxCreate), (vB x78_.q.keysOnly), (vB x78_.q.countOnly), (vB x78_.q.prev), (vB x78_.q.ignoreValue), (vB x78_.q.ignoreLease), x78_.q.cmps, x78_.q.then_, x78_.q.else_])) (x_loadN (vs := [(vI .i64 x78_.q.kind), (Value.string x78_.q.key), (Value.string x78_.q.end_), (Value.string x78_.q.value), (vI .i64 x78_.q.lease), (vI .i64 x78_.q.rev), (vI .i64 x78_.q.limit), (vI .i64 x78_.q.sortOrder), (vI .i64 x78_.q.sortTarget), (vI .i64 x78_.q.minMod), (vI .i64 x78_.q.maxMod), (vI .i64 x78_.q.minCreate), (vI .i64 x78_.q.maxCreate), (vB x78_.q.keysOnly), (vB x78_.q.countOnly), (vB x78_.q.prev), (vB x78_.q.ignoreValue), (vB x78_.q.ignoreLease), x78_.q.cmps, x78_.q.then_, x78_.q.else_]) rfl underlying25 rfl z25 rfl (SlRd.cells (Holds.slrd H95_ 0 rfl) (i * 21 + 0) (fm_cells RT.len hx79_ (i := 0) rfl))) ?_)
        refine ⟨((Holds.ro_at H95_ 1 rfl)), ?_⟩
        refine A_ready (i := 7) (rs := []) (by kernel_rfl) ?_
        refine AllR.cons ?_ AllR.nil
        refine A_op (ls' := #[true, true, true, true, true, true, true, true, true, true, true, true, false, false, false, false]) rfl (by kernel_rfl) (T_val (v := (vA #[(vI .i64 x97_.q.kind), (Value.string x97_.q.key), (Value.string x97_.q.end_), (Value.string x97_.q.value), (vI .i64 x97_.q.lease), (vI .i64 x97_.q.rev), (vI .i64 x97_.q.limit), (vI .i64 x97_.q.sortOrder), (vI .i64 x97_.q.sortTarget), (vI .i64 x97_.q.minMod), (vI .i64 x97_.q.maxMod), (vI .i64 x97_.q.minCreate), (vI .i64 x97_.q.maxCreate), (vB x97_.q.keysOnly), (vB x97_.q.countOnly), (vB x97_.q.prev), (vB x97_.q.ignoreValue), (vB x97_.q.ignoreLease), x97_.q.cmps, x97_.q.then_, x97_.q.else_])) (x_loadN (vs := [(vI .i64 x97_.q.kind), (Value.string x97_.q.key), (Value.string x97_.q.end_), (Value.string x97_.q.value), (vI .i64 x97_.q.lease), (vI .i64 x97_.q.rev), (vI .i64 x97_.q.limit), (vI .i64 x97_.q.sortOrder), (vI .i64 x97_.q.sortTarget), (vI .i64 x97_.q.minMod), (vI .i64 x97_.q.maxMod), (vI .i64 x97_.q.minCreate), (vI .i64 x97_.q.maxCreate), (vB x97_.q.keysOnly), (vB x97_.q.countOnly), (vB x97_.q.prev), (vB x97_.q.ignoreValue), (vB x97_.q.ignoreLease), x97_.q.cmps, x97_.q.then_, x97_.q.else_]) rfl underlying25 rfl z25 rfl (SlRd.cells (Holds.slrd H95_ 0 rfl) (kk93_ * 21 + 0) (fm_cells RT.len hx98_ (i := 0) rfl))) ?_)
        refine ⟨((Holds.ro_at H95_ 1 rfl)), ?_⟩
        refine A_tk 12 (v := (vP (some ⟨(sb v56_), so v56_ + (i * 21 + 0), none⟩))) rfl (by kernel_rfl) (fun w hS => x_idxSlR (v := v56_) rfl hr77_ rfl underlying23 z25 (by omega) (by first | omega | (simp only [List.length_set]; omega)) (by omega : _ = i) rfl) hq96_ ?_
        refine A_ready (i := 13) (rs := []) (by kernel_rfl) ?_
        refine AllR.cons ?_ AllR.nil
        refine A_op0 (ls' := #[true, true, true, true, true, true, true, true, true, true, true, true, true, true, false, false]) rfl (by kernel_rfl) (T_storeSlN (vs := [(vI .i64 x97_.q.kind), (Value.string x97_.q.key), (Value.string x97_.q.end_), (Value.string x97_.q.value), (vI .i64 x97_.q.lease), (vI .i64 x97_.q.rev), (vI .i64 x97_.q.limit), (vI .i64 x97_.q.sortOrder), (vI .i64 x97_.q.sortTarget), (vI .i64 x97_.q.minMod), (vI .i64 x97_.q.maxMod), (vI .i64 x97_.q.minCreate), (vI .i64 x97_.q.maxCreate), (vB x97_.q.keysOnly), (vB x97_.q.countOnly), (vB x97_.q.prev), (vB x97_.q.ignoreValue), (vB x97_.q.ignoreLease), x97_.q.cmps, x97_.q.then_, x97_.q.else_]) (k := i * 21 + 0) rfl rfl z25 rfl (List.forall_mem_cons.2 ⟨rfl, (List.forall_mem_cons.2 ⟨rfl, (List.forall_mem_cons.2 ⟨rfl, (List.forall_mem_cons.2 ⟨rfl, (List.forall_mem_cons.2 ⟨rfl, (List.forall_mem_cons.2 ⟨rfl, (List.forall_mem_cons.2 ⟨rfl, (List.forall_mem_cons.2 ⟨rfl, (List.forall_mem_cons.2 ⟨rfl, (List.forall_mem_cons.2 ⟨rfl, (List.forall_mem_cons.2 ⟨rfl, (List.forall_mem_cons.2 ⟨rfl, (List.forall_mem_cons.2 ⟨rfl, (List.forall_mem_cons.2 ⟨rfl, (List.forall_mem_cons.2 ⟨rfl, (List.forall_mem_cons.2 ⟨rfl, (List.forall_mem_cons.2 ⟨rfl, (List.forall_mem_cons.2 ⟨rfl, (List.forall_mem_cons.2 ⟨(hra100_.c.one), (List.forall_mem_cons.2 ⟨(hra100_.t.one), (List.forall_mem_cons.2 ⟨(hra100_.e.one), (fun _ h__ => by cases h__)⟩)⟩)⟩)⟩)⟩)⟩)⟩)⟩)⟩)⟩)⟩)⟩)⟩)⟩)⟩)⟩)⟩)⟩)⟩)⟩)⟩) H95_ 0 rfl (by (rw [fm_len RT.len]; simp only [List.length_set, List.length_cons, List.length_nil]; omega)) (Nat.zero_lt_succ _) rfl rfl ?_)
        intro w113_ S115_ H114_
        have S116_ := Same.trans (Same.trans S66_ (Same.drew _)) S115_
        have H117_ := Holds.resl H114_ 0 rfl (fm_set RT.len M i x97_ (by omega) : List.take (i * 21 + 0) (M.flatMap RT.cells) ++ [(vI .i64 x97_.q.kind), (Value.string x97_.q.key), (Value.string x97_.q.end_), (Value.string x97_.q.value), (vI .i64 x97_.q.lease), (vI .i64 x97_.q.rev), (vI .i64 x97_.q.limit), (vI .i64 x97_.q.sortOrder), (vI .i64 x97_.q.sortTarget), (vI .i64 x97_.q.minMod), (vI .i64 x97_.q.maxMod), (vI .i64 x97_.q.minCreate), (vI .i64 x97_.q.maxCreate), (vB x97_.q.keysOnly), (vB x97_.q.countOnly), (vB x97_.q.prev), (vB x97_.q.ignoreValue), (vB x97_.q.ignoreLease), x97_.q.cmps, x97_.q.then_, x97_.q.else_] ++ List.drop (i * 21 + 0 + List.length [(vI .i64 x97_.q.kind), (Value.string x97_.q.key), (Value.string x97_.q.end_), (Value.string x97_.q.value), (vI .i64 x97_.q.lease), (vI .i64 x97_.q.rev), (vI .i64 x97_.q.limit), (vI .i64 x97_.q.sortOrder), (vI .i64 x97_.q.sortTarget), (vI .i64 x97_.q.minMod), (vI .i64 x97_.q.maxMod), (vI .i64 x97_.q.minCreate), (vI .i64 x97_.q.maxCreate), (vB x97_.q.keysOnly), (vB x97_.q.countOnly), (vB x97_.q.prev), (vB x97_.q.ignoreValue), (vB x97_.q.ignoreLease), x97_.q.cmps, x97_.q.then_, x97_.q.else_]) (M.flatMap RT.cells) = (List.set M i x97_).flatMap RT.cells) (by simp : (List.length M) = (List.length (List.set M i x97_)))
        refine ⟨((Holds.ro_at H117_ 1 rfl)), ?_⟩
        have hr118_ := Holds.sl_RSw H117_ 0 rfl
        have hq119_ := ((Holds.ro_at H117_ 1 rfl))
        refine A_tk 14 (v := (vP (some ⟨(sb v56_), so v56_ + (kk93_ * 21 + 0), none⟩))) rfl (by kernel_rfl) (fun w hS => x_idxSlR (v := v56_) rfl hr118_ rfl underlying23 z25 (by omega) (by first | omega | (simp only [List.length_set]; omega)) (by omega : _ = kk93_) rfl) hq119_ ?_
        refine A_ready (i := 15) (rs := []) (by kernel_rfl) ?_
        refine AllR.cons ?_ AllR.nil
        refine A_op0 (ls' := #[true, true, true, true, true, true, true, true, true, true, true, true, true, true, true, true]) rfl (by kernel_rfl) (T_storeSlN (vs := [(vI .i64 x78_.q.kind), (Value.string x78_.q.key), (Value.string x78_.q.end_), (Value.string x78_.q.value), (vI .i64 x78_.q.lease), (vI .i64 x78_.q.rev), (vI .i64 x78_.q.limit), (vI .i64 x78_.q.sortOrder), (vI .i64 x78_.q.sortTarget), (vI .i64 x78_.q.minMod), (vI .i64 x78_.q.maxMod), (vI .i64 x78_.q.minCreate), (vI .i64 x78_.q.maxCreate), (vB x78_.q.keysOnly), (vB x78_.q.countOnly), (vB x78_.q.prev), (vB x78_.q.ignoreValue), (vB x78_.q.ignoreLease), x78_.q.cmps, x78_.q.then_, x78_.q.else_]) (k := kk93_ * 21 + 0) rfl rfl z25 rfl (List.forall_mem_cons.2 ⟨rfl, (List.forall_mem_cons.2 ⟨rfl, (List.forall_mem_cons.2 ⟨rfl, (List.forall_mem_cons.2 ⟨rfl, (List.forall_mem_cons.2 ⟨rfl, (List.forall_mem_cons.2 ⟨rfl, (List.forall_mem_cons.2 ⟨rfl, (List.forall_mem_cons.2 ⟨rfl, (List.forall_mem_cons.2 ⟨rfl, (List.forall_mem_cons.2 ⟨rfl, (List.forall_mem_cons.2 ⟨rfl, (List.forall_mem_cons.2 ⟨rfl, (List.forall_mem_cons.2 ⟨rfl, (List.forall_mem_cons.2 ⟨rfl, (List.forall_mem_cons.2 ⟨rfl, (List.forall_mem_cons.2 ⟨rfl, (List.forall_mem_cons.2 ⟨rfl, (List.forall_mem_cons.2 ⟨rfl, (List.forall_mem_cons.2 ⟨(hra81_.c.one), (List.forall_mem_cons.2 ⟨(hra81_.t.one), (List.forall_mem_cons.2 ⟨(hra81_.e.one), (fun _ h__ => by cases h__)⟩)⟩)⟩)⟩)⟩)⟩)⟩)⟩)⟩)⟩)⟩)⟩)⟩)⟩)⟩)⟩)⟩)⟩)⟩)⟩)⟩) H117_ 0 rfl (by (rw [fm_len RT.len]; simp only [List.length_set, List.length_cons, List.length_nil]; omega)) (Nat.zero_lt_succ _) rfl rfl ?_)
        intro w120_ S122_ H121_
        have S123_ := Same.trans S116_ S122_
        have hsw_ := swap_perm hMp hx79_ hx98_
        have H124_ := Holds.resl H121_ 0 rfl (fm_set RT.len (List.set M i x97_) kk93_ x78_ (by rw [List.length_set]; omega) : List.take (kk93_ * 21 + 0) ((List.set M i x97_).flatMap RT.cells) ++ [(vI .i64 x78_.q.kind), (Value.string x78_.q.key), (Value.string x78_.q.end_), (Value.string x78_.q.value), (vI .i64 x78_.q.lease), (vI .i64 x78_.q.rev), (vI .i64 x78_.q.limit), (vI .i64 x78_.q.sortOrder), (vI .i64 x78_.q.sortTarget), (vI .i64 x78_.q.minMod), (vI .i64 x78_.q.maxMod), (vI .i64 x78_.q.minCreate), (vI .i64 x78_.q.maxCreate), (vB x78_.q.keysOnly), (vB x78_.q.countOnly), (vB x78_.q.prev), (vB x78_.q.ignoreValue), (vB x78_.q.ignoreLease), x78_.q.cmps, x78_.q.then_, x78_.q.else_] ++ List.drop (kk93_ * 21 + 0 + List.length [(vI .i64 x78_.q.kind), (Value.string x78_.q.key), (Value.string x78_.q.end_), (Value.string x78_.q.value), (vI .i64 x78_.q.lease), (vI .i64 x78_.q.rev), (vI .i64 x78_.q.limit), (vI .i64 x78_.q.sortOrder), (vI .i64 x78_.q.sortTarget), (vI .i64 x78_.q.minMod), (vI .i64 x78_.q.maxMod), (vI .i64 x78_.q.minCreate), (vI .i64 x78_.q.maxCreate), (vB x78_.q.keysOnly), (vB x78_.q.countOnly), (vB x78_.q.prev), (vB x78_.q.ignoreValue), (vB x78_.q.ignoreLease), x78_.q.cmps, x78_.q.then_, x78_.q.else_]) ((List.set M i x97_).flatMap RT.cells) = (List.set (List.set M i x97_) kk93_ x78_).flatMap RT.cells) (by simp : (List.length (List.set M i x97_)) = (List.length (List.set (List.set M i x97_) kk93_ x78_)))
        refine ⟨((Holds.ro_at H124_ 1 rfl)), ?_⟩
        refine A_done (by kernel_rfl) ?_
        refine (X_blkN (X_then (hK70_ _ _ ?_)))
        refine C_reg ?_
        refine sv (v := (vI .i64 ((i : Int) + 1))) (x_bin rfl rfl (ib_add (IntWalk.i64_in _ (by omega)))) ?_
        refine sm (vI .i64 ((i : Int) + 1)) ?_
        refine wpList_nil (X_then ?_)
        exact ⟨⟨i + 1, (List.set (List.set M i x97_) kk93_ x78_), t4_v⟩, ⟨_, congrArg (fun e => mkA 137 e []) (ch (ch (ch (ch (ch (ch rfl rfl) rfl) rfl) rfl) rfl) (congrArg (vI .i64) ((by first | rfl | omega | (simp; done) | (simp; omega)) : (i : Int) + 1 = ((i + 1 : Nat) : Int)))), H124_, S123_, (by first | assumption | omega | exact rfl), (by simp; omega), (hsw_)⟩, by first | omega | (dsimp only; omega) | (simp; omega)⟩
      ·have c69_fp : ¬ ((i : Int) < ((List.length Bs) : Int)) := of_decide_eq_false c69_f
       refine C_exit (X_thenX (X_thenX (X_blkHit ?_)))
       refine (X_then (hK61_ _ _ ?_))
       refine C_seq (fun _ hK125_ => ?_)
       refine cr fun _ hK126_ => ?_
       refine sv (v := v56_) (x_move rfl) ?_
       refine sv (v := (vI .i64 ((List.length M) : Int))) (x_lenSl rfl H65_ 0 rfl underlying23) ?_
       refine sm (vI .i64 0) ?_
       refine wn (hK126_ _ _ ?_)
       refine C_block ?_
       refine C_loop (γ := Nat × Bool) (fun x__ a__ w1__ => match x__ with | ⟨j, t4_v⟩ => ∃ h : Env, a__ = mkA 137 (upd (upd (upd (upd (upd (upd h 0 v) 4 (vB t4_v)) 5 v56_) 81 v56_) 82 (vI .i64 ((List.length M) : Int))) 83 (vI .i64 (j : Int))) [] ∧ Holds w1__ (sl 25 21 v56_ (List.length M) (M.flatMap RT.cells) :: ro R :: F) ∧ Same w w1__ ∧ (j ≤ M.length) ∧ (∀ y ∈ M.take j, y.q.kind ≠ 4)) (fun x__ => match x__ with | ⟨j, t4_v⟩ => M.length - j) (⟨0, t4_v⟩) ⟨_, congrArg (fun e => mkA 137 e []) (ch (ch (ch (ch (ch (ch rfl rfl) rfl) rfl) rfl) rfl) (congrArg (vI .i64) ((by first | rfl | omega | (simp; done) | (simp; omega)) : 0 = (0 : Int)))), H65_, S66_, (by first | assumption | omega | exact rfl), (fun y hy => by simp at hy)⟩ ?_
       rintro ⟨j, t4_v⟩ _ w127_ ⟨h, rfl, H128_, S129_, hjj, hk4⟩
       refine cr fun _ hK130_ => ?_
       refine sv (v := (vB (decide ((j : Int) < ((List.length M) : Int))))) (x_bin rfl rfl rfl) ?_
       refine wn (hK130_ _ _ ?_)
       refine C_seq (fun _ hK131_ => ?_)
       refine C_cond (b := decide ((j : Int) < ((List.length M) : Int))) rfl (fun c132_t => ?_) (fun c132_f => ?_)
       ·have c132_tp : (j : Int) < ((List.length M) : Int) := of_decide_eq_true c132_t
        refine C_skip (X_then (hK131_ _ _ ?_))
        refine C_seq (fun _ hK133_ => ?_)
        refine C_block ?_
        refine cr fun _ hK134_ => ?_
        have hr135_ := Holds.sl_RSw H128_ 0 rfl
        refine sv (v := (vP (some ⟨(sb v56_), so v56_ + (j * 21 + 0), none⟩))) (x_idxSlR (v := v56_) rfl hr135_ rfl underlying23 z25 (by omega) (by first | omega | (simp only [List.length_set]; omega)) (by omega : _ = j) rfl) ?_
        obtain ⟨x136_, hx137_, hm138_⟩ := elem_at M j (by omega)
        have hra139_ := hR x136_ (hMp.mem_iff.1 hm138_)
        refine sv (v := (vA #[(vI .i64 x136_.q.kind), (Value.string x136_.q.key), (Value.string x136_.q.end_), (Value.string x136_.q.value), (vI .i64 x136_.q.lease), (vI .i64 x136_.q.rev), (vI .i64 x136_.q.limit), (vI .i64 x136_.q.sortOrder), (vI .i64 x136_.q.sortTarget), (vI .i64 x136_.q.minMod), (vI .i64 x136_.q.maxMod), (vI .i64 x136_.q.minCreate), (vI .i64 x136_.q.maxCreate), (vB x136_.q.keysOnly), (vB x136_.q.countOnly), (vB x136_.q.prev), (vB x136_.q.ignoreValue), (vB x136_.q.ignoreLease), x136_.q.cmps, x136_.q.then_, x136_.q.else_])) (x_loadN (vs := [(vI .i64 x136_.q.kind), (Value.string x136_.q.key), (Value.string x136_.q.end_), (Value.string x136_.q.value), (vI .i64 x136_.q.lease), (vI .i64 x136_.q.rev), (vI .i64 x136_.q.limit), (vI .i64 x136_.q.sortOrder), (vI .i64 x136_.q.sortTarget), (vI .i64 x136_.q.minMod), (vI .i64 x136_.q.maxMod), (vI .i64 x136_.q.minCreate), (vI .i64 x136_.q.maxCreate), (vB x136_.q.keysOnly), (vB x136_.q.countOnly), (vB x136_.q.prev), (vB x136_.q.ignoreValue), (vB x136_.q.ignoreLease), x136_.q.cmps, x136_.q.then_, x136_.q.else_]) rfl underlying25 rfl z25 rfl (SlRd.cells (Holds.slrd H128_ 0 rfl) (j * 21 + 0) (fm_cells RT.len hx137_ (i := 0) rfl))) ?_
        refine S_list (T_alloc z25 H128_ ?_)
        intro b140_ w141_ S143_ H142_
        have S144_ := Same.trans S129_ S143_
        refine S_list0 (T_storeN (vs := [(vI .i64 x136_.q.kind), (Value.string x136_.q.key), (Value.string x136_.q.end_), (Value.string x136_.q.value), (vI .i64 x136_.q.lease), (vI .i64 x136_.q.rev), (vI .i64 x136_.q.limit), (vI .i64 x136_.q.sortOrder), (vI .i64 x136_.q.sortTarget), (vI .i64 x136_.q.minMod), (vI .i64 x136_.q.maxMod), (vI .i64 x136_.q.minCreate), (vI .i64 x136_.q.maxCreate), (vB x136_.q.keysOnly), (vB x136_.q.countOnly), (vB x136_.q.prev), (vB x136_.q.ignoreValue), (vB x136_.q.ignoreLease), x136_.q.cmps, x136_.q.then_, x136_.q.else_]) rfl rfl z25 rfl (List.forall_mem_cons.2 ⟨rfl, (List.forall_mem_cons.2 ⟨rfl, (List.forall_mem_cons.2 ⟨rfl, (List.forall_mem_cons.2 ⟨rfl, (List.forall_mem_cons.2 ⟨rfl, (List.forall_mem_cons.2 ⟨rfl, (List.forall_mem_cons.2 ⟨rfl, (List.forall_mem_cons.2 ⟨rfl, (List.forall_mem_cons.2 ⟨rfl, (List.forall_mem_cons.2 ⟨rfl, (List.forall_mem_cons.2 ⟨rfl, (List.forall_mem_cons.2 ⟨rfl, (List.forall_mem_cons.2 ⟨rfl, (List.forall_mem_cons.2 ⟨rfl, (List.forall_mem_cons.2 ⟨rfl, (List.forall_mem_cons.2 ⟨rfl, (List.forall_mem_cons.2 ⟨rfl, (List.forall_mem_cons.2 ⟨rfl, (List.forall_mem_cons.2 ⟨(hra139_.c.one), (List.forall_mem_cons.2 ⟨(hra139_.t.one), (List.forall_mem_cons.2 ⟨(hra139_.e.one), (fun _ h__ => by cases h__)⟩)⟩)⟩)⟩)⟩)⟩)⟩)⟩)⟩)⟩)⟩)⟩)⟩)⟩)⟩)⟩)⟩)⟩)⟩)⟩)⟩) H142_ 0 rfl (Nat.le_of_ble_eq_true (by rfl)) ?_)
        intro w145_ S147_ H146_
        have S148_ := Same.trans S144_ S147_
        refine wn (hK134_ _ _ ?_)
        refine cr fun _ hK149_ => ?_
        refine sv (v := (vQ b140_)) (by kernel_rfl) ?_
        refine sv (v := (vI .i64 x136_.q.kind)) (x_load1 rfl underlying3 rfl ((Holds.rd H146_ 0 rfl) 0 (vI .i64 x136_.q.kind) rfl)) ?_
        refine sv (v := (vB (decide (x136_.q.kind = 4)))) (x_bin rfl rfl rfl) ?_
        refine wn (hK149_ _ _ ?_)
        refine C_cond (b := decide (x136_.q.kind = 4)) rfl (fun c150_t => ?_) (fun c150_f => ?_)
        ·have c150_tp : x136_.q.kind = 4 := of_decide_eq_true c150_t
         refine cr fun _ hK151_ => ?_
         have H153_ := ((Holds.bring H146_ 2 rfl) :)
         refine S_list (T_call (al := []) (pre := []) rfl rfl cb14 (ovLive R) H153_ ?_)
         rintro v152_ p157_ w154_ ⟨rfl, rfl⟩ S156_ H155_
         have S158_ := Same.trans S148_ S156_
         refine sv (v := (vB true)) (x_assign rfl) ?_
         refine wn (hK151_ _ _ ?_)
         refine C_ret (X_blkR (X_thenR (X_thenR (X_blkR (X_thenR ?_)))))
         refine R_any (v := (vB true)) (run_results1 rfl rfl) ?_
         have H159_ := Holds.pkF H155_ [0] 2
         exact ⟨_, _, rfl, ⟨rfl, rfl⟩, S158_, H159_⟩
        ·have c150_fp : ¬ (x136_.q.kind = 4) := of_decide_eq_false c150_f
         refine C_skip (X_blkN (X_then (hK133_ _ _ ?_)))
         refine C_reg ?_
         refine sv (v := (vI .i64 ((j : Int) + 1))) (x_bin rfl rfl (ib_add (IntWalk.i64_in _ (by omega)))) ?_
         refine sm (vI .i64 ((j : Int) + 1)) ?_
         refine wpList_nil (X_then ?_)
         have H160_ := Holds.pkF H146_ [1, 1] 1
         exact ⟨⟨j + 1, t4_v⟩, ⟨_, congrArg (fun e => mkA 137 e []) (ch (ch (ch (ch (ch (ch rfl rfl) rfl) rfl) rfl) rfl) (congrArg (vI .i64) ((by first | rfl | omega | (simp; done) | (simp; omega)) : (j : Int) + 1 = ((j + 1 : Nat) : Int)))), H160_, S148_, (by first | assumption | omega | exact rfl), (kinds_snoc hk4 hx137_ (by omega))⟩, by first | omega | (dsimp only; omega) | (simp; omega)⟩
       ·have c132_fp : ¬ ((j : Int) < ((List.length M) : Int)) := of_decide_eq_false c132_f
        refine C_exit (X_thenX (X_thenX (X_blkHit ?_)))
        refine (X_then (hK125_ _ _ ?_))
        refine cr fun _ hK161_ => ?_
        refine sv (v := v) (x_move rfl) ?_
        have hM4_ : ∀ y ∈ M, y.q.kind ≠ 4 := by rw [List.take_of_length_le (by omega)] at hk4; exact hk4
        have hKK_ : ∀ x ∈ L, 1 ≤ x.q.kind ∧ x.q.kind ≤ 3 := fun x hx => by have h1__ := hk4_ x hx; have h2__ := hM4_ x (hMp.mem_iff.2 hx); omega
        have H177_ := ((Holds.bring H128_ 1 rfl) :)
        refine S_list (T_callG (al := [v]) (pre := []) rfl rfl cb18 (ovOverlaps R v L (hL) (hl2_) (hKK_) (hpp_) (hsz)) H177_ ?_)
        rintro R163_ v164_ p181_ w178_ hs162_ hq182_ S180_ H179_
        rcases hq182_ with ⟨rfl, rfl, he165_⟩ | ⟨kv166_, sv167_, K168_, D169_, rfl, rfl, he170_, he171_, he172_, he173_, he174_, he175_, he176_⟩
        ·skip
         have S183_ := Same.trans S129_ S180_
         refine sm (vT #[(vS none 0 0), (vS none 0 0), (vI .i64 5)]) ?_
         refine sv (v := (vS none 0 0)) (by kernel_rfl) ?_
         refine sv (v := (vS none 0 0)) (by kernel_rfl) ?_
         refine sv (v := (vI .i64 5)) (by kernel_rfl) ?_
         refine sv (v := (vS none 0 0)) (x_assign rfl) ?_
         refine sv (v := (vS none 0 0)) (x_assign rfl) ?_
         refine sv (v := (vI .i64 5)) (x_assign rfl) ?_
         refine wn (hK161_ _ _ ?_)
         refine cr fun _ hK185_ => ?_
         refine sv (v := v56_) (x_move rfl) ?_
         obtain ⟨R186_, hs187_, ⟨R188_, ha189_, hs190_⟩, H191_⟩ := Holds.gift H179_
         have hz_R_R186_ := Sub.trans' hs162_ hs187_
         have hr192_ : RS R186_ 21 v56_ (List.length M) (M.flatMap RT.cells) := (sl_RS ha189_ (Sub.rfl' _)).mono hs190_
         refine S_list (T_callG (al := [v56_]) (pre := []) rfl rfl cb18 (ovOverlaps R186_ v56_ M hr192_ (by omega) ((all_perm hMp hKK_)) ((all_perm hMp hpp_)) ((all_perm hMp hsz))) H191_ ?_)
         rintro R194_ v195_ p211_ w208_ hs193_ hq212_ S210_ H209_
         rcases hq212_ with ⟨rfl, rfl, he196_⟩ | ⟨kv197_, sv198_, K199_, D200_, rfl, rfl, he201_, he202_, he203_, he204_, he205_, he206_, he207_⟩
         ·skip
          have S213_ := Same.trans S183_ S210_
          have hz_R_R194_ := Sub.trans' hz_R_R186_ hs193_
          have hz_R163__R194_ := Sub.trans' hs187_ hs193_
          refine sm (vT #[(vS none 0 0), (vS none 0 0), (vI .i64 5)]) ?_
          refine sv (v := (vS none 0 0)) (by kernel_rfl) ?_
          refine sv (v := (vS none 0 0)) (by kernel_rfl) ?_
          refine sv (v := (vI .i64 5)) (by kernel_rfl) ?_
          refine sv (v := (vS none 0 0)) (x_assign rfl) ?_
          refine sv (v := (vS none 0 0)) (x_assign rfl) ?_
          refine sv (v := (vI .i64 5)) (x_assign rfl) ?_
          refine wn (hK185_ _ _ ?_)
          refine C_seq (fun _ hK215_ => ?_)
          refine cr fun _ hK216_ => ?_
          ·skip
           refine sm (vI .i64 5) ?_
           refine sm (vI .i64 5) ?_
           refine sv (v := (vB false)) (x_bin rfl rfl rfl) ?_
           refine sm (vB false) ?_
           refine S_yes (j := 3) (dj := 107) (b := false) rfl rfl rfl (T_val (v := (vS none 0 0)) (x_move rfl) ?_)
           refine S_yes (j := 3) (dj := 107) (b := false) rfl rfl rfl (T_val (v := (vS none 0 0)) (x_move rfl) ?_)
           refine S_yes (j := 3) (dj := 107) (b := false) rfl rfl rfl (T_call (al := [((vS none 0 0)), ((vS none 0 0))]) (pre := []) rfl (lcons (rfl : (vS none 0 0) = ((vS none 0 0))) (lcons (rfl : (vS none 0 0) = ((vS none 0 0))) rfl)) cb19 (ovTexts R194_ (vS none 0 0) (vS none 0 0) ([] : List ByteArray) ([] : List ByteArray) (RS.set_ (RS.nil R194_ 1) (by first | rfl | (simp [RQ.cells, CM.cells, RT.cells, SN.cells]; done)) (by first | rfl | omega | (simp; done) | (simp; omega))) (RS.set_ (RS.nil R194_ 1) (by first | rfl | (simp [RQ.cells, CM.cells, RT.cells, SN.cells]; done)) (by first | rfl | omega | (simp; done) | (simp; omega))) (by decide) (rfl)) H209_ ?_)
           rintro v217_ p221_ w218_ ⟨rfl, rfl⟩ S220_ H219_
           have S222_ := Same.trans S213_ S220_
           refine S_yes (j := 3) (dj := 107) (b := false) rfl rfl rfl (T_val (v := (vB false)) (x_cast (x_not (b := true) rfl) rfl) ?_)
           refine S_list (T_pickF (v := (vB false)) rfl rfl ?_)
           refine sm (vB false) ?_
           refine S_yes (j := 9) (dj := 113) (b := false) rfl rfl rfl (T_val (v := (vS none 0 0)) (x_move rfl) ?_)
           refine S_yes (j := 9) (dj := 113) (b := false) rfl rfl rfl (T_val (v := (vI .i64 0)) (x_lenS rfl underlying30) ?_)
           refine S_yes (j := 9) (dj := 113) (b := false) rfl rfl rfl (T_val (v := (vS none 0 0)) (x_move rfl) ?_)
           refine S_yes (j := 9) (dj := 113) (b := false) rfl rfl rfl (T_val (v := (vI .i64 0)) (x_lenS rfl underlying30) ?_)
           refine S_yes (j := 9) (dj := 113) (b := false) rfl rfl rfl (T_val (v := (vB false)) (x_bin rfl rfl rfl) ?_)
           refine S_list (T_pickF (v := (vB false)) rfl rfl ?_)
           refine wn (hK216_ _ _ ?_)
           refine C_condF rfl ?_
           refine C_skip (X_then (hK215_ _ _ ?_))
           refine C_seq (fun _ hK223_ => ?_)
           refine cr fun _ hK224_ => ?_
           refine sm (vS none 0 0) ?_
           refine sv (v := (vI .i64 0)) (x_lenS rfl underlying30) ?_
           refine sm (vI .i64 0) ?_
           refine wn (hK224_ _ _ ?_)
           refine C_block ?_
           refine C_loop (γ := Nat × Bool) (fun x__ a__ w1__ => match x__ with | ⟨m, t4_v⟩ => ∃ h : Env, a__ = mkA 137 (upd (upd (upd (upd (upd h 4 (vB t4_v)) 12 (vS none 0 0)) 15 (vS none 0 0)) 121 (vI .i64 0)) 122 (vI .i64 (m : Int))) [] ∧ Holds w1__ (ro R194_ :: F) ∧ Same w w1__ ∧ (m ≤ 0)) (fun x__ => match x__ with | ⟨m, t4_v⟩ => 0 - m) (⟨0, t4_v⟩) ⟨_, congrArg (fun e => mkA 137 e []) (ch (ch (ch (ch (ch rfl rfl) rfl) rfl) rfl) (congrArg (vI .i64) ((by first | rfl | omega | (simp; done) | (simp; omega)) : 0 = (0 : Int)))), H219_, S222_, (by first | assumption | omega | exact rfl)⟩ ?_
           rintro ⟨m, t4_v⟩ _ w225_ ⟨h, rfl, H226_, S227_, hmm⟩
           refine cr fun _ hK228_ => ?_
           refine sv (v := (vB (decide ((m : Int) < 0)))) (x_bin rfl rfl rfl) ?_
           refine wn (hK228_ _ _ ?_)
           refine C_seq (fun _ hK229_ => ?_)
           refine C_cond (b := decide ((m : Int) < 0)) rfl (fun c230_t => ?_) (fun c230_f => ?_)
           ·have c230_tp : (m : Int) < 0 := of_decide_eq_true c230_t
            omega
           ·have c230_fp : ¬ ((m : Int) < 0) := of_decide_eq_false c230_f
            refine C_exit (X_thenX (X_thenX (X_blkHit ?_)))
            refine (X_then (hK223_ _ _ ?_))
            refine cr fun _ hK231_ => ?_
            refine S_list (T_call (al := []) (pre := []) rfl rfl cb14 (ovLive R194_) H226_ ?_)
            rintro v232_ p236_ w233_ ⟨rfl, rfl⟩ S235_ H234_
            have S237_ := Same.trans S227_ S235_
            refine sv (v := (vB true)) (x_assign rfl) ?_
            refine wn (hK231_ _ _ ?_)
            refine C_ret ?_
            refine R_any (v := (vB true)) (run_results1 rfl rfl) ?_
            have H238_ : Holds w233_ (ro R :: F) := Holds.ro_less H234_ hz_R_R194_
            exact ⟨_, _, rfl, ⟨rfl, rfl⟩, S237_, H238_⟩
         ·skip
          have S214_ := Same.trans S183_ S210_
          have hz_R_R194_ := Sub.trans' hz_R_R186_ hs193_
          have hz_R163__R194_ := Sub.trans' hs187_ hs193_
          refine sm (vT #[kv197_, sv198_, (vI .i64 0)]) ?_
          refine sv (v := kv197_) (by kernel_rfl) ?_
          refine sv (v := sv198_) (by kernel_rfl) ?_
          refine sv (v := (vI .i64 0)) (by kernel_rfl) ?_
          refine sv (v := kv197_) (x_assign rfl) ?_
          refine sv (v := sv198_) (x_assign rfl) ?_
          refine sv (v := (vI .i64 0)) (x_assign rfl) ?_
          refine wn (hK185_ _ _ ?_)
          refine C_seq (fun _ hK239_ => ?_)
          refine cr fun _ hK240_ => ?_
          exact absurd (okF_perm hMp he201_) he165_
        ·skip
         have S184_ := Same.trans S129_ S180_
         refine sm (vT #[kv166_, sv167_, (vI .i64 0)]) ?_
         refine sv (v := kv166_) (by kernel_rfl) ?_
         refine sv (v := sv167_) (by kernel_rfl) ?_
         refine sv (v := (vI .i64 0)) (by kernel_rfl) ?_
         refine sv (v := kv166_) (x_assign rfl) ?_
         refine sv (v := sv167_) (x_assign rfl) ?_
         refine sv (v := (vI .i64 0)) (x_assign rfl) ?_
         refine wn (hK161_ _ _ ?_)
         refine cr fun _ hK241_ => ?_
         refine sv (v := v56_) (x_move rfl) ?_
         obtain ⟨R242_, hs243_, ⟨R244_, ha245_, hs246_⟩, H247_⟩ := Holds.gift H179_
         have hz_R_R242_ := Sub.trans' hs162_ hs243_
         have hr248_ : RS R242_ 21 v56_ (List.length M) (M.flatMap RT.cells) := (sl_RS ha245_ (Sub.rfl' _)).mono hs246_
         refine S_list (T_callG (al := [v56_]) (pre := []) rfl rfl cb18 (ovOverlaps R242_ v56_ M hr248_ (by omega) ((all_perm hMp hKK_)) ((all_perm hMp hpp_)) ((all_perm hMp hsz))) H247_ ?_)
         rintro R250_ v251_ p267_ w264_ hs249_ hq268_ S266_ H265_
         rcases hq268_ with ⟨rfl, rfl, he252_⟩ | ⟨kv253_, sv254_, K255_, D256_, rfl, rfl, he257_, he258_, he259_, he260_, he261_, he262_, he263_⟩
         ·skip
          have S269_ := Same.trans S184_ S266_
          have hz_R_R250_ := Sub.trans' hz_R_R242_ hs249_
          have hz_R163__R250_ := Sub.trans' hs243_ hs249_
          refine sm (vT #[(vS none 0 0), (vS none 0 0), (vI .i64 5)]) ?_
          refine sv (v := (vS none 0 0)) (by kernel_rfl) ?_
          refine sv (v := (vS none 0 0)) (by kernel_rfl) ?_
          refine sv (v := (vI .i64 5)) (by kernel_rfl) ?_
          refine sv (v := (vS none 0 0)) (x_assign rfl) ?_
          refine sv (v := (vS none 0 0)) (x_assign rfl) ?_
          refine sv (v := (vI .i64 5)) (x_assign rfl) ?_
          refine wn (hK241_ _ _ ?_)
          refine C_seq (fun _ hK271_ => ?_)
          refine cr fun _ hK272_ => ?_
          exact absurd (okF_perm hMp.symm he170_) he252_
         ·skip
          have S270_ := Same.trans S184_ S266_
          have hz_R_R250_ := Sub.trans' hz_R_R242_ hs249_
          have hz_R163__R250_ := Sub.trans' hs243_ hs249_
          refine sm (vT #[kv253_, sv254_, (vI .i64 0)]) ?_
          refine sv (v := kv253_) (by kernel_rfl) ?_
          refine sv (v := sv254_) (by kernel_rfl) ?_
          refine sv (v := (vI .i64 0)) (by kernel_rfl) ?_
          refine sv (v := kv253_) (x_assign rfl) ?_
          refine sv (v := sv254_) (x_assign rfl) ?_
          refine sv (v := (vI .i64 0)) (x_assign rfl) ?_
          refine wn (hK241_ _ _ ?_)
          refine C_seq (fun _ hK273_ => ?_)
          refine cr fun _ hK274_ => ?_
          ·skip
           have hKe_ : K255_ = K168_ := srtK_eq he259_ he172_ ((he258_.trans (putsK_perm hMp)).trans he171_.symm)
           have hDe_ : D256_ = D169_ := srtD_eq he261_ he174_ ((he260_.trans (delsK_perm hMp)).trans he173_.symm)
           have hKl_ : K168_.length ≤ 200 := by have h1__ := he171_.length_eq; have h2__ := putsK_len L; omega
           have hDl_ : D169_.length ≤ 200 := by have h1__ := he173_.length_eq; have h2__ := delsK_len L; omega
           have hDm_ : (List.map spn D169_).length = D169_.length := List.length_map ..
           have hDm2_ : (List.map spn D256_).length = (List.map spn D169_).length := by rw [hDe_]
           refine sm (vI .i64 0) ?_
           refine sm (vI .i64 0) ?_
           refine sv (v := (vB false)) (x_bin rfl rfl rfl) ?_
           refine sm (vB false) ?_
           refine S_yes (j := 3) (dj := 107) (b := false) rfl rfl rfl (T_val (v := kv166_) (x_move rfl) ?_)
           refine S_yes (j := 3) (dj := 107) (b := false) rfl rfl rfl (T_val (v := kv253_) (x_move rfl) ?_)
           refine S_yes (j := 3) (dj := 107) (b := false) rfl rfl rfl (T_call (al := [kv166_, kv253_]) (pre := []) rfl rfl cb19 (ovTexts R250_ kv166_ kv253_ K168_ K255_ (RS.mono he175_ hz_R163__R250_) he262_ (by omega) (hKe_)) H265_ ?_)
           rintro v275_ p279_ w276_ ⟨rfl, rfl⟩ S278_ H277_
           have S280_ := Same.trans S270_ S278_
           refine S_yes (j := 3) (dj := 107) (b := false) rfl rfl rfl (T_val (v := (vB false)) (x_cast (x_not (b := true) rfl) rfl) ?_)
           refine S_list (T_pickF (v := (vB false)) rfl rfl ?_)
           refine sm (vB false) ?_
           refine S_yes (j := 9) (dj := 113) (b := false) rfl rfl rfl (T_val (v := sv167_) (x_move rfl) ?_)
           refine S_yes (j := 9) (dj := 113) (b := false) rfl rfl rfl (T_val (v := (vI .i64 ((List.length (List.map spn D169_)) : Int))) (x_lenRS rfl (RS.mono he176_ hz_R163__R250_) underlying30) ?_)
           refine S_yes (j := 9) (dj := 113) (b := false) rfl rfl rfl (T_val (v := sv254_) (x_move rfl) ?_)
           refine S_yes (j := 9) (dj := 113) (b := false) rfl rfl rfl (T_val (v := (vI .i64 ((List.length (List.map spn D256_)) : Int))) (x_lenRS rfl he263_ underlying30) ?_)
           refine S_yes (j := 9) (dj := 113) (b := false) rfl rfl rfl (T_val (v := (vB (decide (((List.length (List.map spn D169_)) : Int) ≠ ((List.length (List.map spn D256_)) : Int))))) (x_bin rfl rfl rfl) ?_)
           refine S_list (T_pickF (v := (vB (decide (((List.length (List.map spn D169_)) : Int) ≠ ((List.length (List.map spn D256_)) : Int))))) rfl rfl ?_)
           refine wn (hK274_ _ _ ?_)
           refine C_cond (b := decide (((List.length (List.map spn D169_)) : Int) ≠ ((List.length (List.map spn D256_)) : Int))) rfl (fun c281_t => ?_) (fun c281_f => ?_)
           ·have c281_tp : ((List.length (List.map spn D169_)) : Int) ≠ ((List.length (List.map spn D256_)) : Int) := of_decide_eq_true c281_t
            omega
           ·have c281_fp : ¬ (((List.length (List.map spn D169_)) : Int) ≠ ((List.length (List.map spn D256_)) : Int)) := of_decide_eq_false c281_f
            refine C_skip (X_then (hK273_ _ _ ?_))
            refine C_seq (fun _ hK282_ => ?_)
            refine cr fun _ hK283_ => ?_
            refine sv (v := sv167_) (x_move rfl) ?_
            refine sv (v := (vI .i64 ((List.length (List.map spn D169_)) : Int))) (x_lenRS rfl (RS.mono he176_ hz_R163__R250_) underlying30) ?_
            refine sm (vI .i64 0) ?_
            refine wn (hK283_ _ _ ?_)
            refine C_block ?_
            refine C_loop (γ := Nat × Bool) (fun x__ a__ w1__ => match x__ with | ⟨m, t4_v⟩ => ∃ h : Env, a__ = mkA 137 (upd (upd (upd (upd (upd h 4 (vB t4_v)) 12 sv167_) 15 sv254_) 121 (vI .i64 ((List.length (List.map spn D169_)) : Int))) 122 (vI .i64 (m : Int))) [] ∧ Holds w1__ (ro R250_ :: F) ∧ Same w w1__ ∧ (m ≤ ((List.map spn D169_)).length)) (fun x__ => match x__ with | ⟨m, t4_v⟩ => ((List.map spn D169_)).length - m) (⟨0, t4_v⟩) ⟨_, congrArg (fun e => mkA 137 e []) (ch (ch (ch (ch (ch rfl rfl) rfl) rfl) rfl) (congrArg (vI .i64) ((by first | rfl | omega | (simp; done) | (simp; omega)) : 0 = (0 : Int)))), H277_, S280_, (by first | assumption | omega | exact rfl)⟩ ?_
            rintro ⟨m, t4_v⟩ _ w284_ ⟨h, rfl, H285_, S286_, hmm⟩
            refine cr fun _ hK287_ => ?_
            refine sv (v := (vB (decide ((m : Int) < ((List.length (List.map spn D169_)) : Int))))) (x_bin rfl rfl rfl) ?_
            refine wn (hK287_ _ _ ?_)
            refine C_seq (fun _ hK288_ => ?_)
            refine C_cond (b := decide ((m : Int) < ((List.length (List.map spn D169_)) : Int))) rfl (fun c289_t => ?_) (fun c289_f => ?_)
            ·have c289_tp : (m : Int) < ((List.length (List.map spn D169_)) : Int) := of_decide_eq_true c289_t
             refine C_skip (X_then (hK288_ _ _ ?_))
             refine C_seq (fun _ hK290_ => ?_)
             refine C_block ?_
             refine cr fun _ hK291_ => ?_
             refine sm (vI .i64 (m : Int)) ?_
             refine sv (v := (vI .i64 (m : Int))) (x_assign rfl) ?_
             refine wn (hK291_ _ _ ?_)
             refine C_seq (fun _ hK292_ => ?_)
             refine A_start (S := fun w => Sub R250_ (hp w)) (N := 10) foll rfl rfl ?_
             have H293_ := Holds.drew_ H285_
             have hq294_ := ((Holds.ro_at H293_ 0 rfl))
             refine A_tk 0 (v := sv167_) rfl (by kernel_rfl) (fun w hS => x_move rfl) hq294_ ?_
             refine A_tk 1 (v := (vI .i64 (m : Int))) rfl (by kernel_rfl) (fun w hS => x_move rfl) hq294_ ?_
             obtain ⟨x295_, hx296_, hm297_⟩ := elem_at (List.map spn D169_) m (by first | omega | (simp only [List.length_set]; omega))
             have hxp298_ : x295_.in__Point = false := by obtain ⟨d__, _, rfl⟩ := List.mem_map.1 hm297_; rfl
             refine A_tk 2 (v := (vP (some ⟨(sb sv167_), so sv167_ + (m * 5 + 0), none⟩))) rfl (by kernel_rfl) (fun w hS => x_idxRS (v := sv167_) rfl (RS.mono he176_ hz_R163__R250_) rfl underlying30 z44 (by omega) (by omega) (by omega : _ = m) rfl) hq294_ ?_
             refine A_tk 3 (v := (vA #[(Value.string x295_.in__Begin), (Value.string x295_.in__End), (vB x295_.in__Point), (vI .i64 x295_.from_), (vI .i64 x295_.till)])) rfl (by kernel_rfl) (fun w hS => x_loadN (vs := [(Value.string x295_.in__Begin), (Value.string x295_.in__End), (vB x295_.in__Point), (vI .i64 x295_.from_), (vI .i64 x295_.till)]) rfl underlying44 rfl z44 rfl (RC.cells (RS.rc (RS.mono he176_ hz_R163__R250_)) hS (m * 5 + 0) (fm_cells SN.len hx296_ (i := 0) rfl))) hq294_ ?_
             refine A_tk 4 (v := sv254_) rfl (by kernel_rfl) (fun w hS => x_move rfl) hq294_ ?_
             refine A_tk 5 (v := (vI .i64 (m : Int))) rfl (by kernel_rfl) (fun w hS => x_move rfl) hq294_ ?_
             obtain ⟨x299_, hx300_, hm301_⟩ := elem_at (List.map spn D256_) m (by first | omega | (simp only [List.length_set]; omega))
             refine A_tk 6 (v := (vP (some ⟨(sb sv254_), so sv254_ + (m * 5 + 0), none⟩))) rfl (by kernel_rfl) (fun w hS => x_idxRS (v := sv254_) rfl he263_ rfl underlying30 z44 (by omega) (by omega) (by omega : _ = m) rfl) hq294_ ?_
             refine A_tk 7 (v := (vA #[(Value.string x299_.in__Begin), (Value.string x299_.in__End), (vB x299_.in__Point), (vI .i64 x299_.from_), (vI .i64 x299_.till)])) rfl (by kernel_rfl) (fun w hS => x_loadN (vs := [(Value.string x299_.in__Begin), (Value.string x299_.in__End), (vB x299_.in__Point), (vI .i64 x299_.from_), (vI .i64 x299_.till)]) rfl underlying44 rfl z44 rfl (RC.cells (RS.rc he263_) hS (m * 5 + 0) (fm_cells SN.len hx300_ (i := 0) rfl))) hq294_ ?_
             refine A_ready (i := 8) (rs := []) (by kernel_rfl) ?_
             refine AllR.cons ?_ AllR.nil
             refine A_op (ls' := #[true, true, true, true, true, true, true, true, true, false]) rfl (by kernel_rfl) (T_call (al := [(vI .i64 1), (vA #[(Value.string x295_.in__Begin), (Value.string x295_.in__End), (vB x295_.in__Point), (vI .i64 x295_.from_), (vI .i64 x295_.till)]), (vA #[(Value.string x299_.in__Begin), (Value.string x299_.in__End), (vB x299_.in__Point), (vI .i64 x299_.from_), (vI .i64 x299_.till)])]) (pre := []) rfl rfl cb20 (ovSameSpan2 R250_ x295_ x299_ (hxp298_) ((by have h__ := hx300_; rw [hDe_] at h__; exact Option.some.inj (h__.symm.trans hx296_)))) H293_ ?_)
             rintro v302_ p306_ w303_ ⟨rfl, rfl⟩ S305_ H304_
             have S307_ := Same.trans (Same.trans S286_ (Same.drew _)) S305_
             refine ⟨((Holds.ro_at H304_ 0 rfl)), ?_⟩
             have hq308_ := ((Holds.ro_at H304_ 0 rfl))
             refine A_tk 9 (v := (vB false)) rfl (by kernel_rfl) (fun w hS => x_cast (x_not (b := true) rfl) rfl) hq308_ ?_
             refine A_done (by kernel_rfl) ?_
             refine (X_then (hK292_ _ _ ?_))
             refine C_condF rfl ?_
             refine C_skip (X_blkN (X_then (hK290_ _ _ ?_)))
             refine C_reg ?_
             refine sv (v := (vI .i64 ((m : Int) + 1))) (x_bin rfl rfl (ib_add (IntWalk.i64_in _ (by omega)))) ?_
             refine sm (vI .i64 ((m : Int) + 1)) ?_
             refine wpList_nil (X_then ?_)
             exact ⟨⟨m + 1, t4_v⟩, ⟨_, congrArg (fun e => mkA 137 e []) (ch (ch (ch (ch (ch rfl rfl) rfl) rfl) rfl) (congrArg (vI .i64) ((by first | rfl | omega | (simp; done) | (simp; omega)) : (m : Int) + 1 = ((m + 1 : Nat) : Int)))), H304_, S307_, (by first | assumption | omega | exact rfl)⟩, by first | omega | (dsimp only; omega) | (simp; omega)⟩
            ·have c289_fp : ¬ ((m : Int) < ((List.length (List.map spn D169_)) : Int)) := of_decide_eq_false c289_f
             refine C_exit (X_thenX (X_thenX (X_blkHit ?_)))
             refine (X_then (hK282_ _ _ ?_))
             refine cr fun _ hK309_ => ?_
             refine S_list (T_call (al := []) (pre := []) rfl rfl cb14 (ovLive R250_) H285_ ?_)
             rintro v310_ p314_ w311_ ⟨rfl, rfl⟩ S313_ H312_
             have S315_ := Same.trans S286_ S313_
             refine sv (v := (vB true)) (x_assign rfl) ?_
             refine wn (hK309_ _ _ ?_)
             refine C_ret ?_
             refine R_any (v := (vB true)) (run_results1 rfl rfl) ?_
             have H316_ : Holds w311_ (ro R :: F) := Holds.ro_less H312_ hz_R_R250_
             exact ⟨_, _, rfl, ⟨rfl, rfl⟩, S315_, H316_⟩
end Go.Proofs.Ytlnihndjepjagaa
