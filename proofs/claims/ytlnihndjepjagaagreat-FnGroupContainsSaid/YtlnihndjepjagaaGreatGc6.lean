/- Words, and proved steps, on which the proof leans. -/
import Derived.Test.YtlnihndjepjagaaGreatGc5
set_option linter.unusedVariables false
set_option linter.unusedSimpArgs false
namespace Go.Proofs.YtlnihndjepjagaaGreat
open Go Go.RowKit Gw Tryz
open Go.Value renaming int → vI, bool → vB, slice → vS, pointer → vP, agg → vA, tuple → vT

/-! ### Watchers by rising numbers -/
def Ris (M : List GW) : Prop := M.Pairwise fun x y => x.iD < y.iD
theorem ris_ins {M : List GW} {i : Nat} {w : GW} (h : Ris M) (h1 : ∀ x ∈ M.take i, x.iD < w.iD) (h2 : ∀ x, M[i]? = some x → w.iD < x.iD) : Ris (M.take i ++ [w] ++ M.drop i) := by
  have hs : Ris (M.take i ++ M.drop i) := by rw [List.take_append_drop]; exact h
  unfold Ris at *
  rw [List.pairwise_append] at hs
  have hd : ∀ y ∈ M.drop i, w.iD < y.iD := fun y hy => by
    obtain ⟨j, hj⟩ := List.getElem?_of_mem hy
    rw [List.getElem?_drop] at hj
    cases hm : M[i]? with
    | none =>
      rw [List.getElem?_eq_none_iff] at hm
      rw [List.getElem?_eq_none (by omega)] at hj
      cases hj
    | some x =>
      have hx := h2 x hm
      by_cases h0 : j = 0
      · subst h0; rw [Nat.add_zero, hm] at hj; cases hj; exact hx
      · have hp := h
        rw [List.pairwise_iff_getElem] at hp
        obtain ⟨q1, e1⟩ := List.getElem?_eq_some_iff.1 hm
        obtain ⟨q2, e2⟩ := List.getElem?_eq_some_iff.1 hj
        have := hp i (i + j) q1 q2 (by omega)
        rw [e1, e2] at this
        omega
  rw [List.append_assoc, List.pairwise_append, List.singleton_append, List.pairwise_cons]
  refine ⟨hs.1, ⟨hd, hs.2.1⟩, fun a ha b hb => ?_⟩
  rcases List.mem_cons.1 hb with rfl | hb
  · exact h1 a ha
  · exact hs.2.2 a ha b hb
theorem ris_mem {M : List GW} {i : Nat} {w : GW} (y : GW) : y ∈ M.take i ++ [w] ++ M.drop i ↔ y ∈ M ∨ y = w := by
  have : y ∈ M ↔ y ∈ M.take i ∨ y ∈ M.drop i := by rw [← List.mem_append, List.take_append_drop]
  rw [this]
  simp only [List.mem_append, List.mem_singleton]
  constructor
  · rintro ((h | h) | h)
    · exact .inl (.inl h)
    · exact .inr h
    · exact .inl (.inr h)
  · rintro ((h | h) | h)
    · exact .inl (.inl h)
    · exact .inr h
    · exact .inl (.inr h)
theorem ris_no {M : List GW} {i : Nat} {q : Int} (h : Ris M) (h1 : ∀ x ∈ M.take i, x.iD < q) (h2 : ∀ x, M[i]? = some x → q < x.iD) : ∀ x ∈ M, x.iD ≠ q := by
  have := ris_ins (w := ⟨q, ⟨#[]⟩, ⟨#[]⟩, false, 0⟩) h h1 h2
  unfold Ris at this
  rw [List.pairwise_append] at this
  intro x hx
  have hx' : x ∈ M.take i ∨ x ∈ M.drop i := by rw [← List.mem_append, List.take_append_drop]; exact hx
  rcases hx' with hx | hx
  · have := h1 x hx; omega
  · have := this.2.2 _ (List.mem_append.2 (.inr (List.mem_singleton.2 rfl))) x hx
    have e : q < x.iD := this
    omega
theorem take_lt {M : List GW} {k : Nat} {x : GW} {q : Int} (h : ∀ y ∈ M.take k, y.iD < q) (hx : M[k]? = some x) (hq : x.iD < q) : ∀ y ∈ M.take (k + 1), y.iD < q := by
  rw [gtake hx]
  intro y hy
  rcases List.mem_append.1 hy with hy | hy
  · exact h y hy
  · rw [List.mem_singleton.1 hy]; exact hq
theorem ones_GW (l : List GW) : ∀ u ∈ l.flatMap GW.cells, u.oneCell' = true := by
  intro u hu
  obtain ⟨x, _, h⟩ := List.mem_flatMap.1 hu
  simp [GW.cells] at h
  rcases h with rfl | rfl | rfl | rfl | rfl <;> rfl
def seeN (M : List GW) (k : ByteArray) : List Int := (M.filter fun x => seesB x k).map (·.iD)
theorem seeN_snoc {M : List GW} {k : ByteArray} {j : Nat} {x : GW} (h : M[j]? = some x) : seeN (M.take (j + 1)) k = seeN (M.take j) k ++ (if seesB x k = true then [x.iD] else []) := by
  rw [gtake h]
  unfold seeN
  rw [List.filter_append, List.map_append]
  cases hs : seesB x k <;> simp [hs]
theorem seeN_any (M : List GW) (k : ByteArray) : decide ((0 : Int) < ((seeN M k).length : Int)) = M.any (fun x => seesB x k) := by
  rw [Bool.eq_iff_iff, decide_eq_true_eq, List.any_eq_true]
  unfold seeN
  rw [List.length_map]
  constructor
  · intro h
    have : 0 < (M.filter fun x => seesB x k).length := by omega
    obtain ⟨x, hx⟩ := List.exists_mem_of_length_pos this
    exact ⟨x, (List.mem_filter.1 hx).1, (List.mem_filter.1 hx).2⟩
  · rintro ⟨x, hx, hs⟩
    have : x ∈ M.filter fun x => seesB x k := List.mem_filter.2 ⟨hx, hs⟩
    have := List.length_pos_of_mem this
    omega
theorem seeN_len (M : List GW) (k : ByteArray) : (seeN M k).length ≤ M.length := by
  unfold seeN; rw [List.length_map]; exact List.length_filter_le _ _


set_option maxHeartbeats 1600000 in
theorem crSees (R : HP) (x : GW) (k : ByteArray) :
    Tri Tryz.prog 33 #[(vA #[(vI .i64 x.iD), (Value.string x.key), (Value.string x.end_), (vB x.hasEnd), (vI .i64 x.minRev)]), (Value.string k)] R [] (fun v__ post__ => v__ = (vB (seesB x k)) ∧ post__ = []) := by
 refine Tri.into (n := 13) (al := [(vA #[(vI .i64 x.iD), (Value.string x.key), (Value.string x.end_), (vB x.hasEnd), (vI .i64 x.minRev)]), (Value.string k)]) func33 rfl ntmps33 rfl rfl fun w F H => ?_
 refine cr fun _ hK1_ => ?_
 refine S_list (T_box (v := (vA #[(vI .i64 x.iD), (Value.string x.key), (Value.string x.end_), (vB x.hasEnd), (vI .i64 x.minRev)])) rfl H ?_)
 intro b2_ w3_ S5_ H4_
 have S6_ := Same.trans (Same.refl w) S5_
 refine sv (v := (vB false)) (x_assign rfl) ?_
 refine wn (hK1_ _ _ ?_)
 refine cr fun _ hK7_ => ?_
 refine sm (Value.string k) ?_
 refine sv (v := (vP (some ⟨b2_, 1, none⟩))) (by kernel_rfl) ?_
 refine sv (v := (Value.string x.key)) (x_load1 rfl underlying9 rfl ((Holds.rd H4_ 0 rfl) 1 (Value.string x.key) rfl)) ?_
 refine sv (v := (vP (some ⟨b2_, 2, none⟩))) (by kernel_rfl) ?_
 refine sv (v := (Value.string x.end_)) (x_load1 rfl underlying9 rfl ((Holds.rd H4_ 0 rfl) 2 (Value.string x.end_) rfl)) ?_
 refine sv (v := (vP (some ⟨b2_, 3, none⟩))) (by kernel_rfl) ?_
 refine sv (v := (vB x.hasEnd)) (x_load1 rfl underlying4 rfl ((Holds.rd H4_ 0 rfl) 3 (vB x.hasEnd) rfl)) ?_
 refine S_list (T_callW (al := [(Value.string k), (Value.string x.key), (Value.string x.end_), (vB x.hasEnd)]) rfl rfl cb62 (Calls.into (n := 29) func62 rfl ntmps62 rfl rfl ?_))
 refine cr fun _ hK8_ => ?_
 refine sv (v := (vB false)) (x_assign rfl) ?_
 refine wn (hK8_ _ _ ?_)
 refine C_seq (fun _ hK9_ => ?_)
 refine C_block ?_
 refine cr fun _ hK10_ => ?_
 refine sm (vB x.hasEnd) ?_
 refine sv (v := (vB (!x.hasEnd))) (x_not rfl) ?_
 refine sv (v := (vB (!x.hasEnd))) (x_assign rfl) ?_
 refine wn (hK10_ _ _ ?_)
 refine C_cond (b := !x.hasEnd) rfl (fun c11_t => ?_) (fun c11_f => ?_)
 ·skip
  refine cr fun _ hK12_ => ?_
  refine sm (Value.string k) ?_
  refine sm (Value.string x.key) ?_
  refine sv (v := (vB (k.toList == x.key.toList))) (x_str rfl rfl rfl (by decide)) ?_
  refine sv (v := (vB (k.toList == x.key.toList))) (x_assign rfl) ?_
  refine wn (hK12_ _ _ ?_)
  refine C_ret (X_blkR (X_thenR ?_))
  refine R_any (v := (vB (k.toList == x.key.toList))) (run_results1 rfl rfl) ⟨_, rfl, ?_⟩
  refine sv (v := (vB (k.toList == x.key.toList))) (x_assign rfl) ?_
  refine wn (hK7_ _ _ ?_)
  refine C_ret ?_
  refine R_any (v := (vB (k.toList == x.key.toList))) (run_results1 rfl rfl) ?_
  have H13_ := Holds.pkF H4_ [1] 1
  exact ⟨_, _, rfl, ⟨(congrArg vB ((by have h1__ : x.hasEnd = false := (by simpa using c11_t); unfold seesB; rw [if_neg (by rw [h1__]; decide)]) : (k.toList == x.key.toList) = (seesB x k))), rfl⟩, S6_, H13_⟩
 ·skip
  refine cr fun _ hK14_ => ?_
  refine sm (Value.string x.end_) ?_
  refine sv (v := (vB (x.end_.toList == (ByteArray.mk #[]).toList))) (x_str rfl rfl rfl (by decide)) ?_
  refine sv (v := (vB (x.end_.toList == (ByteArray.mk #[]).toList))) (x_assign rfl) ?_
  refine wn (hK14_ _ _ ?_)
  refine C_cond (b := x.end_.toList == (ByteArray.mk #[]).toList) rfl (fun c15_t => ?_) (fun c15_f => ?_)
  ·skip
   refine cr fun _ hK16_ => ?_
   refine sm (Value.string k) ?_
   refine sm (Value.string x.key) ?_
   refine sv (v := (vB (!Op.bytesLess k.toList x.key.toList))) (x_str rfl rfl rfl (by decide)) ?_
   refine sv (v := (vB (!Op.bytesLess k.toList x.key.toList))) (x_assign rfl) ?_
   refine wn (hK16_ _ _ ?_)
   refine C_ret (X_blkR (X_thenR ?_))
   refine R_any (v := (vB (!Op.bytesLess k.toList x.key.toList))) (run_results1 rfl rfl) ⟨_, rfl, ?_⟩
   refine sv (v := (vB (!Op.bytesLess k.toList x.key.toList))) (x_assign rfl) ?_
   refine wn (hK7_ _ _ ?_)
   refine C_ret ?_
   refine R_any (v := (vB (!Op.bytesLess k.toList x.key.toList))) (run_results1 rfl rfl) ?_
   have H17_ := Holds.pkF H4_ [1] 1
   exact ⟨_, _, rfl, ⟨(congrArg vB ((by have h1__ : x.hasEnd = true := (by simpa using c11_f); unfold seesB; rw [if_pos h1__]; rw [if_pos c15_t]) : (!Op.bytesLess k.toList x.key.toList) = (seesB x k))), rfl⟩, S6_, H17_⟩
  ·skip
   refine C_skip (X_blkN (X_then (hK9_ _ _ ?_)))
   refine cr fun _ hK18_ => ?_
   refine sm (Value.string k) ?_
   refine sm (Value.string x.key) ?_
   refine sv (v := (vB (!Op.bytesLess k.toList x.key.toList))) (x_str rfl rfl rfl (by decide)) ?_
   refine sm (vB (!Op.bytesLess k.toList x.key.toList)) ?_
   rcases Bool.eq_false_or_eq_true (!Op.bytesLess k.toList x.key.toList) with c19_t | c19_f
   ·skip
    refine S_yes (j := 3) (dj := 24) (b := true) rfl rfl (congrArg vB c19_t) (T_val (v := (Value.string k)) (x_move rfl) ?_)
    refine S_yes (j := 3) (dj := 24) (b := true) rfl rfl (congrArg vB c19_t) (T_val (v := (Value.string x.end_)) (x_move rfl) ?_)
    refine S_yes (j := 3) (dj := 24) (b := true) rfl rfl (congrArg vB c19_t) (T_val (v := (vB (Op.bytesLess k.toList x.end_.toList))) (x_str rfl rfl rfl (by decide)) ?_)
    refine S_list (T_pickT (v := (vB (Op.bytesLess k.toList x.end_.toList))) (congrArg vB c19_t) rfl ?_)
    refine sv (v := (vB (Op.bytesLess k.toList x.end_.toList))) (x_assign rfl) ?_
    refine wn (hK18_ _ _ ?_)
    refine C_ret ?_
    refine R_any (v := (vB (Op.bytesLess k.toList x.end_.toList))) (run_results1 rfl rfl) ⟨_, rfl, ?_⟩
    refine sv (v := (vB (Op.bytesLess k.toList x.end_.toList))) (x_assign rfl) ?_
    refine wn (hK7_ _ _ ?_)
    refine C_ret ?_
    refine R_any (v := (vB (Op.bytesLess k.toList x.end_.toList))) (run_results1 rfl rfl) ?_
    have H20_ := Holds.pkF H4_ [1] 1
    exact ⟨_, _, rfl, ⟨(congrArg vB ((by have h1__ : x.hasEnd = true := (by simpa using c11_f); unfold seesB; rw [if_pos h1__]; rw [if_neg (by rw [c15_f]; decide)]; rw [c19_t]; rfl) : (Op.bytesLess k.toList x.end_.toList) = (seesB x k))), rfl⟩, S6_, H20_⟩
   ·skip
    refine S_no (j := 3) (dj := 24) (b := false) rfl rfl (congrArg vB c19_f) (by decide) ?_
    refine S_no (j := 3) (dj := 24) (b := false) rfl rfl (congrArg vB c19_f) (by decide) ?_
    refine S_no (j := 3) (dj := 24) (b := false) rfl rfl (congrArg vB c19_f) (by decide) ?_
    refine S_list (T_pickF (v := (vB false)) (congrArg vB c19_f) rfl ?_)
    refine sv (v := (vB false)) (x_assign rfl) ?_
    refine wn (hK18_ _ _ ?_)
    refine C_ret ?_
    refine R_any (v := (vB false)) (run_results1 rfl rfl) ⟨_, rfl, ?_⟩
    refine sv (v := (vB false)) (x_assign rfl) ?_
    refine wn (hK7_ _ _ ?_)
    refine C_ret ?_
    refine R_any (v := (vB false)) (run_results1 rfl rfl) ?_
    have H21_ := Holds.pkF H4_ [1] 1
    exact ⟨_, _, rfl, ⟨(congrArg vB ((by have h1__ : x.hasEnd = true := (by simpa using c11_f); unfold seesB; rw [if_pos h1__]; rw [if_neg (by rw [c15_f]; decide)]; rw [c19_f]; rfl) : false = (seesB x k))), rfl⟩, S6_, H21_⟩

set_option maxHeartbeats 8000000 in
theorem crFind (R : HP) (cb : Nat) (pv : Value) (M : List GW) (q : Int) (hP : RS R 5 pv (List.length M) (M.flatMap GW.cells)) (hMl : M.length ≤ 100000) :
    Tri Tryz.prog 34 #[(vQ cb), (vI .i64 q)] R [cl cb 59 [pv]] (fun v__ post__ => ∃ (i : Nat) (b : Bool), v__ = (vT #[(vI .i64 (i : Int)), (vB b)]) ∧ post__ = [cl cb 59 [pv]] ∧ (i ≤ M.length) ∧ (∀ x ∈ M.take i, x.iD < q) ∧ (b = true → ∃ x, M[i]? = some x ∧ x.iD = q) ∧ (b = false → ∀ x, M[i]? = some x → q < x.iD)) := by
 refine Tri.into (n := 48) (al := [(vQ cb), (vI .i64 q)]) func34 rfl ntmps34 rfl rfl fun w F H => ?_
 refine cr fun _ hK1_ => ?_
 refine sv (v := (vI .i64 0)) (x_assign rfl) ?_
 refine sv (v := (vB false)) (x_assign rfl) ?_
 refine wn (hK1_ _ _ ?_)
 refine cr fun _ hK2_ => ?_
 refine sv (v := (vI .i64 0)) (x_assign rfl) ?_
 refine wn (hK2_ _ _ ?_)
 refine C_seq (fun _ hK3_ => ?_)
 refine C_block ?_
 refine C_loop (γ := Nat) (fun k a__ w1__ => ∃ h : Env, a__ = mkA 48 (upd (upd (upd (upd (upd h 0 (vQ cb)) 1 (vI .i64 q)) 4 (vI .i64 0)) 5 (vB false)) 6 (vI .i64 (k : Int))) [] ∧ Holds w1__ (ro R :: cl cb 59 [pv] :: F) ∧ Same w w1__ ∧ (k ≤ M.length) ∧ (∀ x ∈ M.take k, x.iD < q)) (fun k => M.length - k) (0) ⟨_, congrArg (fun e => mkA 48 e []) (ch (ch (ch (ch (ch rfl rfl) rfl) rfl) rfl) (congrArg (vI .i64) ((by first | rfl | omega | (simp; done) | (simp; omega)) : 0 = (0 : Int)))), H, (Same.refl w), (by first | assumption | omega | exact rfl), (fun x hx => by simp at hx)⟩ ?_
 rintro k _ w4_ ⟨h, rfl, H5_, S6_, hkk, hlt⟩
 refine C_seq (fun _ hK7_ => ?_)
 refine cr fun _ hK8_ => ?_
 refine sm (vI .i64 (k : Int)) ?_
 refine sm (vQ cb) ?_
 refine sv (v := (vQ cb)) (by kernel_rfl) ?_
 refine sv (v := (vQ cb)) (by kernel_rfl) ?_
 refine sv (v := pv) (x_load1 rfl underlying22 rfl ((Holds.rd H5_ 1 rfl) 0 pv rfl)) ?_
 refine sv (v := (vI .i64 ((List.length M) : Int))) (x_lenRS rfl hP underlying22) ?_
 refine sv (v := (vB (decide ((k : Int) < ((List.length M) : Int))))) (x_bin rfl rfl rfl) ?_
 refine sv (v := (vB (decide ((k : Int) < ((List.length M) : Int))))) (x_move rfl) ?_
 rcases Bool.eq_false_or_eq_true (decide ((k : Int) < ((List.length M) : Int))) with c9_t | c9_f
 ·have c9_tp : (k : Int) < ((List.length M) : Int) := of_decide_eq_true c9_t
  refine S_yes (j := 7) (dj := 14) (b := true) rfl rfl (congrArg vB c9_t) (T_val (v := (vQ cb)) (x_move rfl) ?_)
  refine S_yes (j := 7) (dj := 14) (b := true) rfl rfl (congrArg vB c9_t) (T_val (v := (vQ cb)) (by kernel_rfl) ?_)
  refine S_yes (j := 7) (dj := 14) (b := true) rfl rfl (congrArg vB c9_t) (T_val (v := (vQ cb)) (by kernel_rfl) ?_)
  refine S_yes (j := 7) (dj := 14) (b := true) rfl rfl (congrArg vB c9_t) (T_val (v := pv) (x_load1 rfl underlying22 rfl ((Holds.rd H5_ 1 rfl) 0 pv rfl)) ?_)
  refine S_yes (j := 7) (dj := 14) (b := true) rfl rfl (congrArg vB c9_t) (T_val (v := (vI .i64 (k : Int))) (x_move rfl) ?_)
  obtain ⟨x10_, hx11_, hm12_⟩ := elem_at M k (by omega)
  refine S_yes (j := 7) (dj := 14) (b := true) rfl rfl (congrArg vB c9_t) (T_val (v := (vP (some ⟨(sb pv), so pv + (k * 5 + 0), none⟩))) (x_idxRS (v := pv) rfl hP rfl underlying22 z26 (by omega) (by omega) (by omega : _ = k) rfl) ?_)
  refine S_yes (j := 7) (dj := 14) (b := true) rfl rfl (congrArg vB c9_t) (T_val (v := (vP (some ⟨(sb pv), so pv + (k * 5 + 0), none⟩))) (by kernel_rfl) ?_)
  refine S_yes (j := 7) (dj := 14) (b := true) rfl rfl (congrArg vB c9_t) (T_val (v := (vI .i64 x10_.iD)) (x_load1 rfl underlying2 rfl (RC.cell (RS.rc hP) (Holds.ro_at H5_ 0 rfl) (j := k * 5 + 0) (u := (vI .i64 x10_.iD)) (fm_cell GW.len hx11_ (i := 0) rfl))) ?_)
  refine S_yes (j := 7) (dj := 14) (b := true) rfl rfl (congrArg vB c9_t) (T_val (v := (vI .i64 q)) (x_move rfl) ?_)
  refine S_yes (j := 7) (dj := 14) (b := true) rfl rfl (congrArg vB c9_t) (T_val (v := (vB (decide (x10_.iD < q)))) (x_bin rfl rfl rfl) ?_)
  refine S_list (T_pickT (v := (vB (decide (x10_.iD < q)))) (congrArg vB c9_t) rfl ?_)
  refine wn (hK8_ _ _ ?_)
  refine C_cond (b := decide (x10_.iD < q)) rfl (fun c13_t => ?_) (fun c13_f => ?_)
  ·have c13_tp : x10_.iD < q := of_decide_eq_true c13_t
   refine C_skip (X_then (hK7_ _ _ ?_))
   refine C_block ?_
   refine C_reg ?_
   refine sm (vI .i64 (k : Int)) ?_
   refine sv (v := (vI .i64 ((k : Int) + 1))) (x_bin rfl rfl (ib_add (IntWalk.i64_in _ (by omega)))) ?_
   refine sv (v := (vI .i64 ((k : Int) + 1))) (x_assign rfl) ?_
   refine wpList_nil (X_blkN (X_then ?_))
   exact ⟨(k + 1), ⟨_, congrArg (fun e => mkA 48 e []) (ch (ch (ch (ch (ch rfl rfl) rfl) rfl) rfl) (congrArg (vI .i64) ((by first | rfl | omega | (simp; done) | (simp; omega)) : (k : Int) + 1 = ((k + 1 : Nat) : Int)))), H5_, S6_, (by first | assumption | omega | exact rfl), (take_lt hlt hx11_ (by omega))⟩, by first | omega | (dsimp only; omega) | (simp; omega)⟩
  ·have c13_fp : ¬ (x10_.iD < q) := of_decide_eq_false c13_f
   refine C_exit (X_thenX (X_thenX (X_blkHit ?_)))
   refine (X_then (hK3_ _ _ ?_))
   refine C_seq (fun _ hK14_ => ?_)
   refine A_start (S := fun w => Rd cb [pv] w ∧ Sub R (hp w)) (N := 22) foll rfl rfl ?_
   have H15_ := Holds.drew_ H5_
   have hq16_ := And.intro (Holds.rd H15_ 1 rfl) ((Holds.ro_at H15_ 0 rfl))
   refine A_tk 0 (v := (vI .i64 (k : Int))) rfl (by kernel_rfl) (fun w hS => x_move rfl) hq16_ ?_
   refine A_tk 1 (v := (vI .i64 (k : Int))) rfl (by kernel_rfl) (fun w hS => x_move rfl) hq16_ ?_
   refine A_tk 2 (v := (vQ cb)) rfl (by kernel_rfl) (fun w hS => x_move rfl) hq16_ ?_
   refine A_tk 3 (v := (vQ cb)) rfl (by kernel_rfl) (fun w hS => by kernel_rfl) hq16_ ?_
   refine A_tk 4 (v := (vQ cb)) rfl (by kernel_rfl) (fun w hS => by kernel_rfl) hq16_ ?_
   refine A_tk 5 (v := pv) rfl (by kernel_rfl) (fun w hS => x_load1 rfl underlying22 rfl (hS.1 0 pv rfl)) hq16_ ?_
   refine A_tk 6 (v := (vI .i64 ((List.length M) : Int))) rfl (by kernel_rfl) (fun w hS => x_lenRS rfl hP underlying22) hq16_ ?_
   refine A_tk 7 (v := (vB (decide ((k : Int) < ((List.length M) : Int))))) rfl (by kernel_rfl) (fun w hS => x_bin rfl rfl rfl) hq16_ ?_
   refine A_tk 8 (v := (vB (decide ((k : Int) < ((List.length M) : Int))))) rfl (by kernel_rfl) (fun w hS => x_move rfl) hq16_ ?_
   refine A_tkY 9 (j := 8) (dj := 36) (b := true) (v := (vQ cb)) rfl (by kernel_rfl) rfl rfl (congrArg vB c9_t) (fun w hS => x_move rfl) hq16_ ?_
   refine A_tkY 10 (j := 8) (dj := 36) (b := true) (v := (vQ cb)) rfl (by kernel_rfl) rfl rfl (congrArg vB c9_t) (fun w hS => by kernel_rfl) hq16_ ?_
   refine A_tkY 11 (j := 8) (dj := 36) (b := true) (v := (vQ cb)) rfl (by kernel_rfl) rfl rfl (congrArg vB c9_t) (fun w hS => by kernel_rfl) hq16_ ?_
   refine A_tkY 12 (j := 8) (dj := 36) (b := true) (v := pv) rfl (by kernel_rfl) rfl rfl (congrArg vB c9_t) (fun w hS => x_load1 rfl underlying22 rfl (hS.1 0 pv rfl)) hq16_ ?_
   refine A_tkY 13 (j := 8) (dj := 36) (b := true) (v := (vI .i64 (k : Int))) rfl (by kernel_rfl) rfl rfl (congrArg vB c9_t) (fun w hS => x_move rfl) hq16_ ?_
   refine A_tkY 14 (j := 8) (dj := 36) (b := true) (v := (vP (some ⟨(sb pv), so pv + (k * 5 + 0), none⟩))) rfl (by kernel_rfl) rfl rfl (congrArg vB c9_t) (fun w hS => x_idxRS (v := pv) rfl hP rfl underlying22 z26 (by omega) (by omega) (by omega : _ = k) rfl) hq16_ ?_
   refine A_tkY 15 (j := 8) (dj := 36) (b := true) (v := (vP (some ⟨(sb pv), so pv + (k * 5 + 0), none⟩))) rfl (by kernel_rfl) rfl rfl (congrArg vB c9_t) (fun w hS => by kernel_rfl) hq16_ ?_
   refine A_tkY 16 (j := 8) (dj := 36) (b := true) (v := (vI .i64 x10_.iD)) rfl (by kernel_rfl) rfl rfl (congrArg vB c9_t) (fun w hS => x_load1 rfl underlying2 rfl (RC.cell (RS.rc hP) hS.2 (j := k * 5 + 0) (u := (vI .i64 x10_.iD)) (fm_cell GW.len hx11_ (i := 0) rfl))) hq16_ ?_
   refine A_tkY 17 (j := 8) (dj := 36) (b := true) (v := (vI .i64 q)) rfl (by kernel_rfl) rfl rfl (congrArg vB c9_t) (fun w hS => x_move rfl) hq16_ ?_
   refine A_tkY 18 (j := 8) (dj := 36) (b := true) (v := (vB (decide (x10_.iD = q)))) rfl (by kernel_rfl) rfl rfl (congrArg vB c9_t) (fun w hS => x_bin rfl rfl rfl) hq16_ ?_
   refine A_tk 19 (v := (vB (decide (x10_.iD = q)))) rfl (by kernel_rfl) (fun w hS => (x_pickT (congrArg vB c9_t) rfl)) hq16_ ?_
   refine A_tk 20 (v := (vI .i64 (k : Int))) rfl (by kernel_rfl) (fun w hS => x_assign rfl) hq16_ ?_
   refine A_tk 21 (v := (vB (decide (x10_.iD = q)))) rfl (by kernel_rfl) (fun w hS => x_assign rfl) hq16_ ?_
   refine A_done (by kernel_rfl) ?_
   refine (X_then (hK14_ _ _ ?_))
   refine C_ret ?_
   refine R_any (v := (vT #[(vI .i64 (k : Int)), (vB (decide (x10_.iD = q)))])) (run_results2 rfl rfl rfl) ?_
   exact ⟨_, _, rfl, ⟨k, decide (x10_.iD = q), rfl, rfl, (by omega), (hlt), ((fun h => ⟨x10_, hx11_, of_decide_eq_true h⟩)), ((fun h y hy => by rw [hx11_] at hy; cases hy; have h__ := of_decide_eq_false h; omega))⟩, (Same.trans S6_ (Same.drew _)), H15_⟩
 ·have c9_fp : ¬ ((k : Int) < ((List.length M) : Int)) := of_decide_eq_false c9_f
  refine S_no (j := 7) (dj := 14) (b := false) rfl rfl (congrArg vB c9_f) (by decide) ?_
  refine S_no (j := 7) (dj := 14) (b := false) rfl rfl (congrArg vB c9_f) (by decide) ?_
  refine S_no (j := 7) (dj := 14) (b := false) rfl rfl (congrArg vB c9_f) (by decide) ?_
  refine S_no (j := 7) (dj := 14) (b := false) rfl rfl (congrArg vB c9_f) (by decide) ?_
  refine S_no (j := 7) (dj := 14) (b := false) rfl rfl (congrArg vB c9_f) (by decide) ?_
  refine S_no (j := 7) (dj := 14) (b := false) rfl rfl (congrArg vB c9_f) (by decide) ?_
  refine S_no (j := 7) (dj := 14) (b := false) rfl rfl (congrArg vB c9_f) (by decide) ?_
  refine S_no (j := 7) (dj := 14) (b := false) rfl rfl (congrArg vB c9_f) (by decide) ?_
  refine S_no (j := 7) (dj := 14) (b := false) rfl rfl (congrArg vB c9_f) (by decide) ?_
  refine S_no (j := 7) (dj := 14) (b := false) rfl rfl (congrArg vB c9_f) (by decide) ?_
  refine S_list (T_pickF (v := (vB false)) (congrArg vB c9_f) rfl ?_)
  refine wn (hK8_ _ _ ?_)
  refine C_condF rfl ?_
  refine C_exit (X_thenX (X_thenX (X_blkHit ?_)))
  refine (X_then (hK3_ _ _ ?_))
  refine C_seq (fun _ hK17_ => ?_)
  refine A_start (S := fun w => Rd cb [pv] w ∧ Sub R (hp w)) (N := 22) foll rfl rfl ?_
  have H18_ := Holds.drew_ H5_
  have hq19_ := And.intro (Holds.rd H18_ 1 rfl) ((Holds.ro_at H18_ 0 rfl))
  refine A_tk 0 (v := (vI .i64 (k : Int))) rfl (by kernel_rfl) (fun w hS => x_move rfl) hq19_ ?_
  refine A_tk 1 (v := (vI .i64 (k : Int))) rfl (by kernel_rfl) (fun w hS => x_move rfl) hq19_ ?_
  refine A_tk 2 (v := (vQ cb)) rfl (by kernel_rfl) (fun w hS => x_move rfl) hq19_ ?_
  refine A_tk 3 (v := (vQ cb)) rfl (by kernel_rfl) (fun w hS => by kernel_rfl) hq19_ ?_
  refine A_tk 4 (v := (vQ cb)) rfl (by kernel_rfl) (fun w hS => by kernel_rfl) hq19_ ?_
  refine A_tk 5 (v := pv) rfl (by kernel_rfl) (fun w hS => x_load1 rfl underlying22 rfl (hS.1 0 pv rfl)) hq19_ ?_
  refine A_tk 6 (v := (vI .i64 ((List.length M) : Int))) rfl (by kernel_rfl) (fun w hS => x_lenRS rfl hP underlying22) hq19_ ?_
  refine A_tk 7 (v := (vB (decide ((k : Int) < ((List.length M) : Int))))) rfl (by kernel_rfl) (fun w hS => x_bin rfl rfl rfl) hq19_ ?_
  refine A_tk 8 (v := (vB (decide ((k : Int) < ((List.length M) : Int))))) rfl (by kernel_rfl) (fun w hS => x_move rfl) hq19_ ?_
  refine A_tkN 9 (j := 8) (dj := 36) (b := false) rfl (by kernel_rfl) rfl rfl (congrArg vB c9_f) (by decide) hq19_ ?_
  refine A_tkN 10 (j := 8) (dj := 36) (b := false) rfl (by kernel_rfl) rfl rfl (congrArg vB c9_f) (by decide) hq19_ ?_
  refine A_tkN 11 (j := 8) (dj := 36) (b := false) rfl (by kernel_rfl) rfl rfl (congrArg vB c9_f) (by decide) hq19_ ?_
  refine A_tkN 12 (j := 8) (dj := 36) (b := false) rfl (by kernel_rfl) rfl rfl (congrArg vB c9_f) (by decide) hq19_ ?_
  refine A_tkN 13 (j := 8) (dj := 36) (b := false) rfl (by kernel_rfl) rfl rfl (congrArg vB c9_f) (by decide) hq19_ ?_
  refine A_tkN 14 (j := 8) (dj := 36) (b := false) rfl (by kernel_rfl) rfl rfl (congrArg vB c9_f) (by decide) hq19_ ?_
  refine A_tkN 15 (j := 8) (dj := 36) (b := false) rfl (by kernel_rfl) rfl rfl (congrArg vB c9_f) (by decide) hq19_ ?_
  refine A_tkN 16 (j := 8) (dj := 36) (b := false) rfl (by kernel_rfl) rfl rfl (congrArg vB c9_f) (by decide) hq19_ ?_
  refine A_tkN 17 (j := 8) (dj := 36) (b := false) rfl (by kernel_rfl) rfl rfl (congrArg vB c9_f) (by decide) hq19_ ?_
  refine A_tkN 18 (j := 8) (dj := 36) (b := false) rfl (by kernel_rfl) rfl rfl (congrArg vB c9_f) (by decide) hq19_ ?_
  refine A_tk 19 (v := (vB false)) rfl (by kernel_rfl) (fun w hS => (x_pickF (congrArg vB c9_f) rfl)) hq19_ ?_
  refine A_tk 20 (v := (vI .i64 (k : Int))) rfl (by kernel_rfl) (fun w hS => x_assign rfl) hq19_ ?_
  refine A_tk 21 (v := (vB false)) rfl (by kernel_rfl) (fun w hS => x_assign rfl) hq19_ ?_
  refine A_done (by kernel_rfl) ?_
  refine (X_then (hK17_ _ _ ?_))
  refine C_ret ?_
  refine R_any (v := (vT #[(vI .i64 (k : Int)), (vB false)])) (run_results2 rfl rfl rfl) ?_
  exact ⟨_, _, rfl, ⟨k, false, rfl, rfl, (by omega), (hlt), ((fun h => by cases h)), ((fun _ y hy => by have h__ := (List.getElem?_eq_some_iff.1 hy).1; omega))⟩, (Same.trans S6_ (Same.drew _)), H18_⟩
end Go.Proofs.YtlnihndjepjagaaGreat
set_option linter.unusedVariables false
set_option linter.unusedSimpArgs false
namespace Go.Proofs.YtlnihndjepjagaaGreat
open Go Go.RowKit Gw Tryz
open Go.Value renaming int → vI, bool → vB, slice → vS, pointer → vP, agg → vA, tuple → vT

set_option maxHeartbeats 16000000 in
theorem crAdd (R : HP) (cb : Nat) (pv : Value) (M : List GW) (o : GO) (hP : RS R 5 pv (List.length M) (M.flatMap GW.cells)) (hMl : M.length ≤ 100000) (hR : Ris M) (hk : o.kind = 1) (h5 : M.length < 500) :
    TriG Tryz.prog 22 #[(vQ cb), (vA #[(vI .i64 o.kind), (vI .i64 o.w_ID), (Value.string o.w_Key), (Value.string o.w_End), (vB o.w_HasEnd), (vI .i64 o.w_MinRev), (Value.string o.key), (vI .i64 o.cur), (vI .i64 o.compact), o.events])] R [cl cb 59 [pv]] (fun R' v__ post__ => (v__ = (vA #[(vB false), (vI .i64 0), (vS none 0 0), (vS none 0 0)]) ∧ post__ = [cl cb 59 [pv]] ∧ (∃ x ∈ M, x.iD = o.w_ID)) ∨ (∃ (pv' : Value) (M' : List GW), v__ = (vA #[(vB true), (vI .i64 0), (vS none 0 0), (vS none 0 0)]) ∧ post__ = [cl cb 59 [pv']] ∧ (RS R' 5 pv' (List.length M') (M'.flatMap GW.cells)) ∧ (Ris M') ∧ (∀ y, y ∈ M' ↔ y ∈ M ∨ y = wOf o) ∧ (∀ x ∈ M, x.iD ≠ o.w_ID) ∧ (M'.length = M.length + 1))) := by
 refine TriG.into (n := 162) (al := [(vQ cb), (vA #[(vI .i64 o.kind), (vI .i64 o.w_ID), (Value.string o.w_Key), (Value.string o.w_End), (vB o.w_HasEnd), (vI .i64 o.w_MinRev), (Value.string o.key), (vI .i64 o.cur), (vI .i64 o.compact), o.events])]) func22 rfl ntmps22 rfl rfl fun w F H => ?_
 refine cr fun _ hK1_ => ?_
 refine S_list (T_box (v := (vA #[(vI .i64 o.kind), (vI .i64 o.w_ID), (Value.string o.w_Key), (Value.string o.w_End), (vB o.w_HasEnd), (vI .i64 o.w_MinRev), (Value.string o.key), (vI .i64 o.cur), (vI .i64 o.compact), o.events])) rfl H ?_)
 intro b2_ w3_ S5_ H4_
 have S6_ := Same.trans (Same.refl w) S5_
 refine S_list (T_alloc z42 H4_ ?_)
 intro b7_ w8_ S10_ H9_
 have S11_ := Same.trans S6_ S10_
 refine wn (hK1_ _ _ ?_)
 refine cr fun _ hK12_ => ?_
 refine sm (vQ cb) ?_
 refine sv (v := (vP (some ⟨b2_, 1, none⟩))) (by kernel_rfl) ?_
 refine sv (v := (vP (some ⟨b2_, 1, none⟩))) (by kernel_rfl) ?_
 refine sv (v := (vI .i64 o.w_ID)) (x_load1 rfl underlying2 rfl ((Holds.rd H9_ 1 rfl) 1 (vI .i64 o.w_ID) rfl)) ?_
 have H20_ := ((Holds.bring (Holds.bring H9_ 3 rfl) 3 rfl) :)
 refine S_list (T_call (al := [(vQ cb), (vI .i64 o.w_ID)]) (pre := [cl cb 59 [pv]]) rfl rfl cb34 (crFind R cb pv M o.w_ID (hP) (hMl)) H20_ ?_)
 rintro v13_ p24_ w21_ ⟨i14_, b15_, rfl, rfl, he16_, he17_, he18_, he19_⟩ S23_ H22_
 have S25_ := Same.trans S11_ S23_
 have hil_ := he16_
 refine sm (vT #[(vI .i64 (i14_ : Int)), (vB b15_)]) ?_
 refine sv (v := (vI .i64 (i14_ : Int))) (by kernel_rfl) ?_
 refine sv (v := (vB b15_)) (by kernel_rfl) ?_
 refine sv (v := (vI .i64 (i14_ : Int))) (x_assign rfl) ?_
 refine sv (v := (vB b15_)) (x_assign rfl) ?_
 refine wn (hK12_ _ _ ?_)
 refine cr fun _ hK26_ => ?_
 refine S_list (T_alloc z42 H22_ ?_)
 intro b27_ w28_ S30_ H29_
 have S31_ := Same.trans S25_ S30_
 refine wn (hK26_ _ _ ?_)
 refine C_seq (fun _ hK32_ => ?_)
 refine cr fun _ hK33_ => ?_
 refine sv (v := (vQ b2_)) (by kernel_rfl) ?_
 refine sv (v := (vI .i64 o.kind)) (x_load1 rfl underlying3 rfl ((Holds.rd H29_ 4 rfl) 0 (vI .i64 o.kind) rfl)) ?_
 refine wn (hK33_ _ _ ?_)
 refine C_block ?_
 refine cr fun _ hK34_ => ?_
 refine sv (v := (vB (decide (o.kind = 1)))) (x_bin rfl rfl rfl) ?_
 refine sv (v := (vB (decide (o.kind = 1)))) (x_assign rfl) ?_
 refine wn (hK34_ _ _ ?_)
 refine C_cond (b := decide (o.kind = 1)) rfl (fun c35_t => ?_) (fun c35_f => ?_)
 ·have c35_tp : o.kind = 1 := of_decide_eq_true c35_t
  refine C_seq (fun _ hK36_ => ?_)
  refine cr fun _ hK37_ => ?_
  refine sm (vB b15_) ?_
  refine sm (vB b15_) ?_
  rcases Bool.eq_false_or_eq_true (b15_) with c38_t | c38_f
  ·skip
   refine S_no (j := 1) (dj := 27) (b := true) rfl rfl (congrArg vB c38_t) (by decide) ?_
   refine S_no (j := 1) (dj := 27) (b := true) rfl rfl (congrArg vB c38_t) (by decide) ?_
   refine S_no (j := 1) (dj := 27) (b := true) rfl rfl (congrArg vB c38_t) (by decide) ?_
   refine S_no (j := 1) (dj := 27) (b := true) rfl rfl (congrArg vB c38_t) (by decide) ?_
   refine S_no (j := 1) (dj := 27) (b := true) rfl rfl (congrArg vB c38_t) (by decide) ?_
   refine S_no (j := 1) (dj := 27) (b := true) rfl rfl (congrArg vB c38_t) (by decide) ?_
   refine S_list (T_pickT (v := (vB true)) (congrArg vB c38_t) rfl ?_)
   refine wn (hK37_ _ _ ?_)
   refine C_condT rfl ?_
   refine cr fun _ hK39_ => ?_
   refine sv (v := (vA #[(vB false), (vI .i64 0), (vS none 0 0), (vS none 0 0)])) (x_loadN (vs := [(vB false), (vI .i64 0), (vS none 0 0), (vS none 0 0)]) rfl underlying42 rfl z42 rfl (Rd.cells (Holds.rd H29_ 0 rfl) 0 rfl)) ?_
   refine S_list0 (T_storeN (vs := [(vB false), (vI .i64 0), (vS none 0 0), (vS none 0 0)]) rfl rfl z42 rfl (by simp [Value.oneCell']) H29_ 3 rfl (Nat.le_of_ble_eq_true (by rfl)) ?_)
   intro w40_ S42_ H41_
   have S43_ := Same.trans S31_ S42_
   refine wn (hK39_ _ _ ?_)
   refine C_ret (X_thenR (X_blkR (X_thenR ?_)))
   refine R_any (v := (vA #[(vB false), (vI .i64 0), (vS none 0 0), (vS none 0 0)])) (run_results1 rfl ⟨_, rfl, load_resN underlying42 rfl z42 rfl (vs := [(vB false), (vI .i64 0), (vS none 0 0), (vS none 0 0)]) (Holds.cl_cells H41_ 3 rfl 0 rfl)⟩) ?_
   have H44_ := Holds.pkF H41_ [1, 1] 3
   exact ⟨R, _, _, rfl, (Sub.rfl' _), (.inl ⟨rfl, rfl, ((by obtain ⟨x__, h1__, h2__⟩ := he18_ (by simpa using c38_t); exact ⟨x__, List.mem_of_getElem? h1__, h2__⟩))⟩), S43_, H44_⟩
  ·skip
   refine S_yes (j := 1) (dj := 27) (b := false) rfl rfl (congrArg vB c38_f) (T_val (v := (vQ cb)) (x_move rfl) ?_)
   refine S_yes (j := 1) (dj := 27) (b := false) rfl rfl (congrArg vB c38_f) (T_val (v := (vQ cb)) (by kernel_rfl) ?_)
   refine S_yes (j := 1) (dj := 27) (b := false) rfl rfl (congrArg vB c38_f) (T_val (v := (vQ cb)) (by kernel_rfl) ?_)
   refine S_yes (j := 1) (dj := 27) (b := false) rfl rfl (congrArg vB c38_f) (T_val (v := pv) (x_load1 rfl underlying22 rfl ((Holds.rd H29_ 2 rfl) 0 pv rfl)) ?_)
   refine S_yes (j := 1) (dj := 27) (b := false) rfl rfl (congrArg vB c38_f) (T_val (v := (vI .i64 ((List.length M) : Int))) (x_lenRS rfl hP underlying22) ?_)
   refine S_yes (j := 1) (dj := 27) (b := false) rfl rfl (congrArg vB c38_f) (T_val (v := (vB (decide (500 ≤ ((List.length M) : Int))))) (x_bin rfl rfl rfl) ?_)
   refine S_list (T_pickF (v := (vB (decide (500 ≤ ((List.length M) : Int))))) (congrArg vB c38_f) rfl ?_)
   refine wn (hK37_ _ _ ?_)
   refine C_cond (b := decide (500 ≤ ((List.length M) : Int))) rfl (fun c45_t => ?_) (fun c45_f => ?_)
   ·have c45_tp : 500 ≤ ((List.length M) : Int) := of_decide_eq_true c45_t
    omega
   ·have c45_fp : ¬ (500 ≤ ((List.length M) : Int)) := of_decide_eq_false c45_f
    refine C_skip (X_then (hK36_ _ _ ?_))
    refine C_seq (fun _ hK46_ => ?_)
    refine A_start (S := fun w => Rd b27_ [(vB false), (vI .i64 0), (vS none 0 0), (vS none 0 0)] w ∧ Rd b7_ [(vB false), (vI .i64 0), (vS none 0 0), (vS none 0 0)] w ∧ Rd b2_ [(vI .i64 o.kind), (vI .i64 o.w_ID), (Value.string o.w_Key), (Value.string o.w_End), (vB o.w_HasEnd), (vI .i64 o.w_MinRev), (Value.string o.key), (vI .i64 o.cur), (vI .i64 o.compact), o.events] w ∧ Sub R (hp w)) (N := 23) foll rfl rfl ?_
    have H47_ := Holds.drew_ H29_
    refine A_cut #[true, true, true, true, true, true, true, true, true, true, true, true, true, true, true, true, true, true, true, false, false, false, false] 4 (fun a__ w1__ => ∃ v67_ : Value, ∃ h : Env, a__ = mkA 162 (upd (upd (upd (upd (upd h 4 (vQ b7_)) 7 (vQ b27_)) 36 (vQ cb)) 48 v67_) 54 (slc pv i14_ (List.length M) 5)) [] ∧ Holds w1__ (sl 26 5 v67_ (0 + (List.length (List.take (i14_ - 0) (List.drop 0 M))) + 1) (([] ++ ((List.take (i14_ - 0) (List.drop 0 M)).flatMap GW.cells)) ++ [(vI .i64 o.w_ID), (Value.string o.w_Key), (Value.string o.w_End), (vB o.w_HasEnd), (vI .i64 o.w_MinRev)]) :: cl b27_ 42 [(vB false), (vI .i64 0), (vS none 0 0), (vS none 0 0)] :: ro R :: cl cb 59 [pv] :: cl b7_ 42 [(vB false), (vI .i64 0), (vS none 0 0), (vS none 0 0)] :: cl b2_ 29 [(vI .i64 o.kind), (vI .i64 o.w_ID), (Value.string o.w_Key), (Value.string o.w_End), (vB o.w_HasEnd), (vI .i64 o.w_MinRev), (Value.string o.key), (vI .i64 o.cur), (vI .i64 o.compact), o.events] :: F) ∧ Same w w1__) ?_ ?_
    ·rintro _ w216_ ⟨v67_, h, rfl, H217_, S218_⟩
     refine A_ready (i := 19) (rs := []) (by kernel_rfl) ?_
     refine AllR.cons ?_ AllR.nil
     refine A_op (ls' := #[true, true, true, true, true, true, true, true, true, true, true, true, true, true, true, true, true, true, true, true, false, false, false]) rfl (by kernel_rfl) (T_append rfl rfl underlying22 z26 rfl (by decide) H217_ 0 rfl (RS.src (RS.slcD (a := i14_) GW.len hP (by omega)) (Holds.ro_at H217_ 2 rfl) underlying22 (ones_GW _)) (by simp only [List.length_append, List.length_cons, List.length_nil, List.length_take, List.length_drop]; omega) ?_)
     intro v219_ w220_ S222_ H221_
     have S223_ := Same.trans S218_ S222_
     refine ⟨⟨Holds.rd H221_ 1 rfl, Holds.rd H221_ 4 rfl, Holds.rd H221_ 5 rfl, (Holds.ro_at H221_ 2 rfl)⟩, ?_⟩
     have hq224_ := And.intro (Holds.rd H221_ 1 rfl) (And.intro (Holds.rd H221_ 4 rfl) (And.intro (Holds.rd H221_ 5 rfl) ((Holds.ro_at H221_ 2 rfl))))
     refine A_tk 20 (v := (vQ cb)) rfl (by kernel_rfl) (fun w hS => by kernel_rfl) hq224_ ?_
     refine A_tk 21 (v := (vQ cb)) rfl (by kernel_rfl) (fun w hS => by kernel_rfl) hq224_ ?_
     refine A_ready (i := 22) (rs := []) (by kernel_rfl) ?_
     refine AllR.cons ?_ AllR.nil
     refine A_op0 (ls' := #[true, true, true, true, true, true, true, true, true, true, true, true, true, true, true, true, true, true, true, true, true, true, true]) rfl (by kernel_rfl) (T_store1 (v := v219_) rfl rfl z22 (Holds.sl_one H221_ 0 rfl) H221_ 3 rfl (Nat.le_of_ble_eq_true (by rfl)) ?_)
     intro w225_ S227_ H226_
     have S228_ := Same.trans S223_ S227_
     refine ⟨⟨Holds.rd H226_ 1 rfl, Holds.rd H226_ 4 rfl, Holds.rd H226_ 5 rfl, (Holds.ro_at H226_ 2 rfl)⟩, ?_⟩
     refine A_done (by kernel_rfl) ?_
     refine (X_then (hK46_ _ _ ?_))
     refine C_reg ?_
     refine sv (v := (vQ b27_)) (by kernel_rfl) ?_
     refine S_list0 (T_store1 (v := (vB true)) rfl rfl z4 rfl H226_ 1 rfl (Nat.le_of_ble_eq_true (by rfl)) ?_)
     intro w229_ S231_ H230_
     have S232_ := Same.trans S228_ S231_
     refine wpList_nil (X_blkN (X_then (hK32_ _ _ ?_)))
     refine cr fun _ hK233_ => ?_
     refine sv (v := (vA #[(vB true), (vI .i64 0), (vS none 0 0), (vS none 0 0)])) (x_loadN (vs := [(vB true), (vI .i64 0), (vS none 0 0), (vS none 0 0)]) rfl underlying42 rfl z42 rfl (Rd.cells (Holds.rd H230_ 1 rfl) 0 rfl)) ?_
     refine S_list0 (T_storeN (vs := [(vB true), (vI .i64 0), (vS none 0 0), (vS none 0 0)]) rfl rfl z42 rfl (by simp [Value.oneCell']) H230_ 4 rfl (Nat.le_of_ble_eq_true (by rfl)) ?_)
     intro w234_ S236_ H235_
     have S237_ := Same.trans S232_ S236_
     refine wn (hK233_ _ _ ?_)
     refine C_ret ?_
     refine R_any (v := (vA #[(vB true), (vI .i64 0), (vS none 0 0), (vS none 0 0)])) (run_results1 rfl ⟨_, rfl, load_resN underlying42 rfl z42 rfl (vs := [(vB true), (vI .i64 0), (vS none 0 0), (vS none 0 0)]) (Holds.cl_cells H235_ 4 rfl 0 rfl)⟩) ?_
     have H238_ := Holds.resl H235_ 0 rfl (by simp [GW.cells, wOf, List.flatMap_append] : (([] ++ ((List.take (i14_ - 0) (List.drop 0 M)).flatMap GW.cells)) ++ [(vI .i64 o.w_ID), (Value.string o.w_Key), (Value.string o.w_End), (vB o.w_HasEnd), (vI .i64 o.w_MinRev)]) ++ ((List.drop i14_ M).flatMap GW.cells) = (List.take i14_ M ++ [(wOf o)] ++ List.drop i14_ M).flatMap GW.cells) (by first | (simp; done) | (simp; omega) : 0 + (List.length (List.take (i14_ - 0) (List.drop 0 M))) + 1 + (List.length (List.drop i14_ M)) = (List.length (List.take i14_ M ++ [(wOf o)] ++ List.drop i14_ M)))
     have H239_ := ((Holds.bring H238_ 2 rfl) :)
     obtain ⟨R240_, hs241_, ⟨R242_, ha243_, hs244_⟩, H245_⟩ := Holds.gift H239_
     have hr246_ : RS R240_ 5 v219_ (List.length (List.take i14_ M ++ [(wOf o)] ++ List.drop i14_ M)) ((List.take i14_ M ++ [(wOf o)] ++ List.drop i14_ M).flatMap GW.cells) := (sl_RS ha243_ (Sub.rfl' _)).mono hs244_
     have H247_ := Holds.pkF H245_ [0, 1] 3
     exact ⟨R240_, _, _, rfl, hs241_, (.inr ⟨v219_, (List.take i14_ M ++ [(wOf o)] ++ List.drop i14_ M), rfl, rfl, (hr246_), (ris_ins hR he17_ (he19_ (by simpa using c38_f))), (fun y => ris_mem y), (ris_no hR he17_ (he19_ (by simpa using c38_f))), (by simp; omega)⟩), S237_, H247_⟩
    intro hJ200
    refine A_cut #[true, true, true, true, true, true, true, true, true, true, true, true, false, true, true, true, true, true, true, false, false, false, false] 5 (fun a__ w1__ => ∃ v57_ : Value, ∃ b62_ : Nat, ∃ h : Env, a__ = mkA 162 (upd (upd (upd (upd (upd (upd h 4 (vQ b7_)) 7 (vQ b27_)) 36 (vQ cb)) 44 v57_) 47 (vS (some ⟨b62_, 0, none⟩) 1 1)) 54 (slc pv i14_ (List.length M) 5)) [] ∧ Holds w1__ (cl b62_ 26 [(vI .i64 o.w_ID), (Value.string o.w_Key), (Value.string o.w_End), (vB o.w_HasEnd), (vI .i64 o.w_MinRev)] :: sl 26 5 v57_ (0 + (List.length (List.take (i14_ - 0) (List.drop 0 M)))) ([] ++ ((List.take (i14_ - 0) (List.drop 0 M)).flatMap GW.cells)) :: cl b27_ 42 [(vB false), (vI .i64 0), (vS none 0 0), (vS none 0 0)] :: ro R :: cl cb 59 [pv] :: cl b7_ 42 [(vB false), (vI .i64 0), (vS none 0 0), (vS none 0 0)] :: cl b2_ 29 [(vI .i64 o.kind), (vI .i64 o.w_ID), (Value.string o.w_Key), (Value.string o.w_End), (vB o.w_HasEnd), (vI .i64 o.w_MinRev), (Value.string o.key), (vI .i64 o.cur), (vI .i64 o.compact), o.events] :: F) ∧ Same w w1__) ?_ ?_
    ·rintro _ w248_ ⟨v57_, b62_, h, rfl, H249_, S250_⟩
     refine A_ready (i := 12) (rs := []) (by kernel_rfl) ?_
     refine AllR.cons ?_ AllR.nil
     refine A_op (ls' := #[true, true, true, true, true, true, true, true, true, true, true, true, true, true, true, true, true, true, true, false, false, false, false]) rfl (by kernel_rfl) (T_append rfl rfl underlying22 z26 rfl (by decide) H249_ 1 rfl (Holds.cl_src H249_ 0 rfl underlying22 (by simp [Value.oneCell']) rfl) (by simp only [List.length_append, List.length_cons, List.length_nil, List.length_take, List.length_drop]; omega) ?_)
     intro v251_ w252_ S254_ H253_
     have S255_ := Same.trans S250_ S254_
     refine ⟨⟨Holds.rd H253_ 2 rfl, Holds.rd H253_ 5 rfl, Holds.rd H253_ 6 rfl, (Holds.ro_at H253_ 3 rfl)⟩, ?_⟩
     have H256_ := Holds.pkF H253_ [1, 1, 1, 1, 1, 1] 1
     exact hJ200 _ _ ⟨v251_, _, congrArg (fun e => mkA 162 e []) (ch (ch (ch (ch (ch rfl rfl) rfl) rfl) rfl) rfl), H256_, S255_⟩
    intro hJ201
    refine A_cut #[true, true, true, true, true, true, true, true, true, true, true, true, true, true, true, true, false, true, false, false, false, false, false] 6 (fun a__ w1__ => ∃ v67_ : Value, ∃ h : Env, a__ = mkA 162 (upd (upd (upd (upd (upd (upd h 4 (vQ b7_)) 7 (vQ b27_)) 36 (vQ cb)) 48 v67_) 51 (vQ cb)) 53 (vI .i64 (i14_ : Int))) [] ∧ Holds w1__ (sl 26 5 v67_ (0 + (List.length (List.take (i14_ - 0) (List.drop 0 M))) + 1) (([] ++ ((List.take (i14_ - 0) (List.drop 0 M)).flatMap GW.cells)) ++ [(vI .i64 o.w_ID), (Value.string o.w_Key), (Value.string o.w_End), (vB o.w_HasEnd), (vI .i64 o.w_MinRev)]) :: cl b27_ 42 [(vB false), (vI .i64 0), (vS none 0 0), (vS none 0 0)] :: ro R :: cl cb 59 [pv] :: cl b7_ 42 [(vB false), (vI .i64 0), (vS none 0 0), (vS none 0 0)] :: cl b2_ 29 [(vI .i64 o.kind), (vI .i64 o.w_ID), (Value.string o.w_Key), (Value.string o.w_End), (vB o.w_HasEnd), (vI .i64 o.w_MinRev), (Value.string o.key), (vI .i64 o.cur), (vI .i64 o.compact), o.events] :: F) ∧ Same w w1__) ?_ ?_
    ·rintro _ w257_ ⟨v67_, h, rfl, H258_, S259_⟩
     refine A_ready (i := 16) (rs := []) (by kernel_rfl) ?_
     refine AllR.cons ?_ AllR.nil
     refine A_op (ls' := #[true, true, true, true, true, true, true, true, true, true, true, true, true, true, true, true, true, true, false, false, false, false, false]) rfl (by kernel_rfl) (T_val (v := pv) (x_load1 rfl underlying22 rfl ((Holds.rd H258_ 3 rfl) 0 pv rfl)) ?_)
     refine ⟨⟨Holds.rd H258_ 1 rfl, Holds.rd H258_ 4 rfl, Holds.rd H258_ 5 rfl, (Holds.ro_at H258_ 2 rfl)⟩, ?_⟩
     have hq260_ := And.intro (Holds.rd H258_ 1 rfl) (And.intro (Holds.rd H258_ 4 rfl) (And.intro (Holds.rd H258_ 5 rfl) ((Holds.ro_at H258_ 2 rfl))))
     refine A_tk 18 (v := (slc pv i14_ (List.length M) 5)) rfl (by kernel_rfl) (fun w hS => x_sliceRS (l := i14_) (h := (List.length M)) rfl hP underlying22 z26 (by omega) rfl ⟨_, _, rfl, by omega, by omega, by omega⟩) hq260_ ?_
     exact hJ200 _ _ ⟨v67_, _, congrArg (fun e => mkA 162 e []) (ch (ch (ch (ch (ch rfl rfl) rfl) rfl) rfl) rfl), H258_, S259_⟩
    intro hJ199
    refine A_cut #[true, true, true, true, true, true, true, true, true, true, true, false, false, true, true, true, true, true, true, false, false, false, false] 6 (fun a__ w1__ => ∃ v57_ : Value, ∃ h : Env, a__ = mkA 162 (upd (upd (upd (upd (upd (upd h 4 (vQ b7_)) 7 (vQ b27_)) 36 (vQ cb)) 44 v57_) 46 (vA #[(vI .i64 o.w_ID), (Value.string o.w_Key), (Value.string o.w_End), (vB o.w_HasEnd), (vI .i64 o.w_MinRev)])) 54 (slc pv i14_ (List.length M) 5)) [] ∧ Holds w1__ (sl 26 5 v57_ (0 + (List.length (List.take (i14_ - 0) (List.drop 0 M)))) ([] ++ ((List.take (i14_ - 0) (List.drop 0 M)).flatMap GW.cells)) :: cl b27_ 42 [(vB false), (vI .i64 0), (vS none 0 0), (vS none 0 0)] :: ro R :: cl cb 59 [pv] :: cl b7_ 42 [(vB false), (vI .i64 0), (vS none 0 0), (vS none 0 0)] :: cl b2_ 29 [(vI .i64 o.kind), (vI .i64 o.w_ID), (Value.string o.w_Key), (Value.string o.w_End), (vB o.w_HasEnd), (vI .i64 o.w_MinRev), (Value.string o.key), (vI .i64 o.cur), (vI .i64 o.compact), o.events] :: F) ∧ Same w w1__) ?_ ?_
    ·rintro _ w261_ ⟨v57_, h, rfl, H262_, S263_⟩
     refine A_ready (i := 11) (rs := []) (by kernel_rfl) ?_
     refine AllR.cons ?_ AllR.nil
     refine A_op (ls' := #[true, true, true, true, true, true, true, true, true, true, true, true, false, true, true, true, true, true, true, false, false, false, false]) rfl (by kernel_rfl) (T_new (obj := .cells #[(vI .i64 o.w_ID), (Value.string o.w_Key), (Value.string o.w_End), (vB o.w_HasEnd), (vI .i64 o.w_MinRev)] 26) (f := fun b__ => .slice (some ⟨b__, 0, none⟩) 1 1) (A := fun b__ => cl b__ 26 [(vI .i64 o.w_ID), (Value.string o.w_Key), (Value.string o.w_End), (vB o.w_HasEnd), (vI .i64 o.w_MinRev)]) (by kernel_rfl) (fun l h => h.alloc _ _) H262_ ?_)
     intro b264_ w265_ S267_ H266_
     have S268_ := Same.trans S263_ S267_
     refine ⟨⟨Holds.rd H266_ 2 rfl, Holds.rd H266_ 5 rfl, Holds.rd H266_ 6 rfl, (Holds.ro_at H266_ 3 rfl)⟩, ?_⟩
     exact hJ201 _ _ ⟨v57_, b264_, _, congrArg (fun e => mkA 162 e []) (ch (ch (ch (ch (ch (ch rfl rfl) rfl) rfl) rfl) rfl) rfl), H266_, S268_⟩
    intro hJ202
    refine A_cut #[true, true, true, true, true, true, true, true, false, true, true, true, false, true, true, true, true, true, true, false, false, false, false] 6 (fun a__ w1__ => ∃ b49_ : Nat, ∃ b91_ : Nat, ∃ h : Env, a__ = mkA 162 (upd (upd (upd (upd (upd (upd (upd h 4 (vQ b7_)) 7 (vQ b27_)) 36 (vQ cb)) 37 (vS (some ⟨b49_, 0, none⟩) 0 0)) 43 (slc pv 0 i14_ 5)) 47 (vS (some ⟨b91_, 0, none⟩) 1 1)) 54 (slc pv i14_ (List.length M) 5)) [] ∧ Holds w1__ (cl b91_ 26 [(vI .i64 o.w_ID), (Value.string o.w_Key), (Value.string o.w_End), (vB o.w_HasEnd), (vI .i64 o.w_MinRev)] :: cl b49_ 26 [] :: cl b27_ 42 [(vB false), (vI .i64 0), (vS none 0 0), (vS none 0 0)] :: ro R :: cl cb 59 [pv] :: cl b7_ 42 [(vB false), (vI .i64 0), (vS none 0 0), (vS none 0 0)] :: cl b2_ 29 [(vI .i64 o.kind), (vI .i64 o.w_ID), (Value.string o.w_Key), (Value.string o.w_End), (vB o.w_HasEnd), (vI .i64 o.w_MinRev), (Value.string o.key), (vI .i64 o.cur), (vI .i64 o.compact), o.events] :: F) ∧ Same w w1__) ?_ ?_
    ·rintro _ w269_ ⟨b49_, b91_, h, rfl, H270_, S271_⟩
     refine A_ready (i := 8) (rs := []) (by kernel_rfl) ?_
     refine AllR.cons ?_ AllR.nil
     have H272_ : Holds w269_ (cl b91_ 26 [(vI .i64 o.w_ID), (Value.string o.w_Key), (Value.string o.w_End), (vB o.w_HasEnd), (vI .i64 o.w_MinRev)] :: cl b49_ 26 ([] ++ [] ++ []) :: cl b27_ 42 [(vB false), (vI .i64 0), (vS none 0 0), (vS none 0 0)] :: ro R :: cl cb 59 [pv] :: cl b7_ 42 [(vB false), (vI .i64 0), (vS none 0 0), (vS none 0 0)] :: cl b2_ 29 [(vI .i64 o.kind), (vI .i64 o.w_ID), (Value.string o.w_Key), (Value.string o.w_End), (vB o.w_HasEnd), (vI .i64 o.w_MinRev), (Value.string o.key), (vI .i64 o.cur), (vI .i64 o.compact), o.events] :: F) := cast1 (P := fun (c__ : List Value) => Holds w269_ (cl b91_ 26 [(vI .i64 o.w_ID), (Value.string o.w_Key), (Value.string o.w_End), (vB o.w_HasEnd), (vI .i64 o.w_MinRev)] :: cl b49_ 26 c__ :: cl b27_ 42 [(vB false), (vI .i64 0), (vS none 0 0), (vS none 0 0)] :: ro R :: cl cb 59 [pv] :: cl b7_ 42 [(vB false), (vI .i64 0), (vS none 0 0), (vS none 0 0)] :: cl b2_ 29 [(vI .i64 o.kind), (vI .i64 o.w_ID), (Value.string o.w_Key), (Value.string o.w_End), (vB o.w_HasEnd), (vI .i64 o.w_MinRev), (Value.string o.key), (vI .i64 o.cur), (vI .i64 o.compact), o.events] :: F)) (by kernel_rfl : [] = [] ++ [] ++ []) H270_
     have H273_ : Holds w269_ (cl b91_ 26 [(vI .i64 o.w_ID), (Value.string o.w_Key), (Value.string o.w_End), (vB o.w_HasEnd), (vI .i64 o.w_MinRev)] :: sl 26 5 (vS (some ⟨b49_, 0, none⟩) 0 0) 0 [] :: cl b27_ 42 [(vB false), (vI .i64 0), (vS none 0 0), (vS none 0 0)] :: ro R :: cl cb 59 [pv] :: cl b7_ 42 [(vB false), (vI .i64 0), (vS none 0 0), (vS none 0 0)] :: cl b2_ 29 [(vI .i64 o.kind), (vI .i64 o.w_ID), (Value.string o.w_Key), (Value.string o.w_End), (vB o.w_HasEnd), (vI .i64 o.w_MinRev), (Value.string o.key), (vI .i64 o.cur), (vI .i64 o.compact), o.events] :: F) := Holds.to_sl H272_ 1 [] [] (xs := []) (m := 0) (cap := 0) (sz := 5) rfl (by kernel_rfl) (by kernel_rfl) (by omega)
     refine A_op (ls' := #[true, true, true, true, true, true, true, true, true, true, true, true, false, true, true, true, true, true, true, false, false, false, false]) rfl (by kernel_rfl) (T_append rfl rfl underlying22 z26 rfl (by decide) H273_ 1 rfl (RS.src (RS.slcF GW.len hP (by omega : 0 ≤ i14_) (by omega)) (Holds.ro_at H273_ 3 rfl) underlying22 (ones_GW _)) (by simp only [List.length_append, List.length_cons, List.length_nil, List.length_take, List.length_drop]; omega) ?_)
     intro v274_ w275_ S277_ H276_
     have S278_ := Same.trans S271_ S277_
     refine ⟨⟨Holds.rd H276_ 2 rfl, Holds.rd H276_ 5 rfl, Holds.rd H276_ 6 rfl, (Holds.ro_at H276_ 3 rfl)⟩, ?_⟩
     exact hJ201 _ _ ⟨v274_, b91_, _, congrArg (fun e => mkA 162 e []) (ch (ch (ch (ch (ch (ch rfl rfl) rfl) rfl) rfl) rfl) rfl), H276_, S278_⟩
    intro hJ204
    refine A_cut #[true, true, true, true, true, true, true, true, true, true, true, true, false, true, true, true, false, true, false, false, false, false, false] 7 (fun a__ w1__ => ∃ v57_ : Value, ∃ b62_ : Nat, ∃ h : Env, a__ = mkA 162 (upd (upd (upd (upd (upd (upd (upd h 4 (vQ b7_)) 7 (vQ b27_)) 36 (vQ cb)) 44 v57_) 47 (vS (some ⟨b62_, 0, none⟩) 1 1)) 51 (vQ cb)) 53 (vI .i64 (i14_ : Int))) [] ∧ Holds w1__ (cl b62_ 26 [(vI .i64 o.w_ID), (Value.string o.w_Key), (Value.string o.w_End), (vB o.w_HasEnd), (vI .i64 o.w_MinRev)] :: sl 26 5 v57_ (0 + (List.length (List.take (i14_ - 0) (List.drop 0 M)))) ([] ++ ((List.take (i14_ - 0) (List.drop 0 M)).flatMap GW.cells)) :: cl b27_ 42 [(vB false), (vI .i64 0), (vS none 0 0), (vS none 0 0)] :: ro R :: cl cb 59 [pv] :: cl b7_ 42 [(vB false), (vI .i64 0), (vS none 0 0), (vS none 0 0)] :: cl b2_ 29 [(vI .i64 o.kind), (vI .i64 o.w_ID), (Value.string o.w_Key), (Value.string o.w_End), (vB o.w_HasEnd), (vI .i64 o.w_MinRev), (Value.string o.key), (vI .i64 o.cur), (vI .i64 o.compact), o.events] :: F) ∧ Same w w1__) ?_ ?_
    ·rintro _ w279_ ⟨v57_, b62_, h, rfl, H280_, S281_⟩
     refine A_ready (i := 12) (rs := [16]) (by kernel_rfl) ?_
     refine AllR.cons ?_ ?_
     ·skip
      refine A_op (ls' := #[true, true, true, true, true, true, true, true, true, true, true, true, true, true, true, true, false, true, false, false, false, false, false]) rfl (by kernel_rfl) (T_append rfl rfl underlying22 z26 rfl (by decide) H280_ 1 rfl (Holds.cl_src H280_ 0 rfl underlying22 (by simp [Value.oneCell']) rfl) (by simp only [List.length_append, List.length_cons, List.length_nil, List.length_take, List.length_drop]; omega) ?_)
      intro v282_ w283_ S285_ H284_
      have S286_ := Same.trans S281_ S285_
      refine ⟨⟨Holds.rd H284_ 2 rfl, Holds.rd H284_ 5 rfl, Holds.rd H284_ 6 rfl, (Holds.ro_at H284_ 3 rfl)⟩, ?_⟩
      have H287_ := Holds.pkF H284_ [1, 1, 1, 1, 1, 1] 1
      exact hJ199 _ _ ⟨v282_, _, congrArg (fun e => mkA 162 e []) (ch (ch (ch (ch (ch (ch rfl rfl) rfl) rfl) rfl) rfl) rfl), H287_, S286_⟩
     refine AllR.cons ?_ AllR.nil
     refine A_op (ls' := #[true, true, true, true, true, true, true, true, true, true, true, true, false, true, true, true, true, true, false, false, false, false, false]) rfl (by kernel_rfl) (T_val (v := pv) (x_load1 rfl underlying22 rfl ((Holds.rd H280_ 4 rfl) 0 pv rfl)) ?_)
     refine ⟨⟨Holds.rd H280_ 2 rfl, Holds.rd H280_ 5 rfl, Holds.rd H280_ 6 rfl, (Holds.ro_at H280_ 3 rfl)⟩, ?_⟩
     have hq288_ := And.intro (Holds.rd H280_ 2 rfl) (And.intro (Holds.rd H280_ 5 rfl) (And.intro (Holds.rd H280_ 6 rfl) ((Holds.ro_at H280_ 3 rfl))))
     refine A_tk 18 (v := (slc pv i14_ (List.length M) 5)) rfl (by kernel_rfl) (fun w hS => x_sliceRS (l := i14_) (h := (List.length M)) rfl hP underlying22 z26 (by omega) rfl ⟨_, _, rfl, by omega, by omega, by omega⟩) hq288_ ?_
     exact hJ201 _ _ ⟨v57_, b62_, _, congrArg (fun e => mkA 162 e []) (ch (ch (ch (ch (ch (ch rfl rfl) rfl) rfl) rfl) rfl) rfl), H280_, S281_⟩
    intro hJ198
    refine A_cut #[true, true, true, true, true, true, true, true, false, true, true, false, false, true, true, true, true, true, true, false, false, false, false] 7 (fun a__ w1__ => ∃ b49_ : Nat, ∃ h : Env, a__ = mkA 162 (upd (upd (upd (upd (upd (upd (upd h 4 (vQ b7_)) 7 (vQ b27_)) 36 (vQ cb)) 37 (vS (some ⟨b49_, 0, none⟩) 0 0)) 43 (slc pv 0 i14_ 5)) 46 (vA #[(vI .i64 o.w_ID), (Value.string o.w_Key), (Value.string o.w_End), (vB o.w_HasEnd), (vI .i64 o.w_MinRev)])) 54 (slc pv i14_ (List.length M) 5)) [] ∧ Holds w1__ (cl b49_ 26 [] :: cl b27_ 42 [(vB false), (vI .i64 0), (vS none 0 0), (vS none 0 0)] :: ro R :: cl cb 59 [pv] :: cl b7_ 42 [(vB false), (vI .i64 0), (vS none 0 0), (vS none 0 0)] :: cl b2_ 29 [(vI .i64 o.kind), (vI .i64 o.w_ID), (Value.string o.w_Key), (Value.string o.w_End), (vB o.w_HasEnd), (vI .i64 o.w_MinRev), (Value.string o.key), (vI .i64 o.cur), (vI .i64 o.compact), o.events] :: F) ∧ Same w w1__) ?_ ?_
    ·rintro _ w289_ ⟨b49_, h, rfl, H290_, S291_⟩
     refine A_ready (i := 8) (rs := [11]) (by kernel_rfl) ?_
     refine AllR.cons ?_ ?_
     ·skip
      have H292_ : Holds w289_ (cl b49_ 26 ([] ++ [] ++ []) :: cl b27_ 42 [(vB false), (vI .i64 0), (vS none 0 0), (vS none 0 0)] :: ro R :: cl cb 59 [pv] :: cl b7_ 42 [(vB false), (vI .i64 0), (vS none 0 0), (vS none 0 0)] :: cl b2_ 29 [(vI .i64 o.kind), (vI .i64 o.w_ID), (Value.string o.w_Key), (Value.string o.w_End), (vB o.w_HasEnd), (vI .i64 o.w_MinRev), (Value.string o.key), (vI .i64 o.cur), (vI .i64 o.compact), o.events] :: F) := cast1 (P := fun (c__ : List Value) => Holds w289_ (cl b49_ 26 c__ :: cl b27_ 42 [(vB false), (vI .i64 0), (vS none 0 0), (vS none 0 0)] :: ro R :: cl cb 59 [pv] :: cl b7_ 42 [(vB false), (vI .i64 0), (vS none 0 0), (vS none 0 0)] :: cl b2_ 29 [(vI .i64 o.kind), (vI .i64 o.w_ID), (Value.string o.w_Key), (Value.string o.w_End), (vB o.w_HasEnd), (vI .i64 o.w_MinRev), (Value.string o.key), (vI .i64 o.cur), (vI .i64 o.compact), o.events] :: F)) (by kernel_rfl : [] = [] ++ [] ++ []) H290_
      have H293_ : Holds w289_ (sl 26 5 (vS (some ⟨b49_, 0, none⟩) 0 0) 0 [] :: cl b27_ 42 [(vB false), (vI .i64 0), (vS none 0 0), (vS none 0 0)] :: ro R :: cl cb 59 [pv] :: cl b7_ 42 [(vB false), (vI .i64 0), (vS none 0 0), (vS none 0 0)] :: cl b2_ 29 [(vI .i64 o.kind), (vI .i64 o.w_ID), (Value.string o.w_Key), (Value.string o.w_End), (vB o.w_HasEnd), (vI .i64 o.w_MinRev), (Value.string o.key), (vI .i64 o.cur), (vI .i64 o.compact), o.events] :: F) := Holds.to_sl H292_ 0 [] [] (xs := []) (m := 0) (cap := 0) (sz := 5) rfl (by kernel_rfl) (by kernel_rfl) (by omega)
      refine A_op (ls' := #[true, true, true, true, true, true, true, true, true, true, true, false, false, true, true, true, true, true, true, false, false, false, false]) rfl (by kernel_rfl) (T_append rfl rfl underlying22 z26 rfl (by decide) H293_ 0 rfl (RS.src (RS.slcF GW.len hP (by omega : 0 ≤ i14_) (by omega)) (Holds.ro_at H293_ 2 rfl) underlying22 (ones_GW _)) (by simp only [List.length_append, List.length_cons, List.length_nil, List.length_take, List.length_drop]; omega) ?_)
      intro v294_ w295_ S297_ H296_
      have S298_ := Same.trans S291_ S297_
      refine ⟨⟨Holds.rd H296_ 1 rfl, Holds.rd H296_ 4 rfl, Holds.rd H296_ 5 rfl, (Holds.ro_at H296_ 2 rfl)⟩, ?_⟩
      exact hJ202 _ _ ⟨v294_, _, congrArg (fun e => mkA 162 e []) (ch (ch (ch (ch (ch (ch rfl rfl) rfl) rfl) rfl) rfl) rfl), H296_, S298_⟩
     refine AllR.cons ?_ AllR.nil
     refine A_op (ls' := #[true, true, true, true, true, true, true, true, false, true, true, true, false, true, true, true, true, true, true, false, false, false, false]) rfl (by kernel_rfl) (T_new (obj := .cells #[(vI .i64 o.w_ID), (Value.string o.w_Key), (Value.string o.w_End), (vB o.w_HasEnd), (vI .i64 o.w_MinRev)] 26) (f := fun b__ => .slice (some ⟨b__, 0, none⟩) 1 1) (A := fun b__ => cl b__ 26 [(vI .i64 o.w_ID), (Value.string o.w_Key), (Value.string o.w_End), (vB o.w_HasEnd), (vI .i64 o.w_MinRev)]) (by kernel_rfl) (fun l h => h.alloc _ _) H290_ ?_)
     intro b299_ w300_ S302_ H301_
     have S303_ := Same.trans S291_ S302_
     refine ⟨⟨Holds.rd H301_ 2 rfl, Holds.rd H301_ 5 rfl, Holds.rd H301_ 6 rfl, (Holds.ro_at H301_ 3 rfl)⟩, ?_⟩
     exact hJ204 _ _ ⟨b49_, b299_, _, congrArg (fun e => mkA 162 e []) (ch (ch (ch (ch (ch (ch (ch rfl rfl) rfl) rfl) rfl) rfl) rfl) rfl), H301_, S303_⟩
    intro hJ205
    refine A_cut #[true, false, true, true, true, true, true, true, false, true, true, true, false, true, true, true, true, true, true, false, false, false, false] 7 (fun a__ w1__ => ∃ b141_ : Nat, ∃ h : Env, a__ = mkA 162 (upd (upd (upd (upd (upd (upd h 4 (vQ b7_)) 7 (vQ b27_)) 36 (vQ cb)) 43 (slc pv 0 i14_ 5)) 47 (vS (some ⟨b141_, 0, none⟩) 1 1)) 54 (slc pv i14_ (List.length M) 5)) [] ∧ Holds w1__ (cl b141_ 26 [(vI .i64 o.w_ID), (Value.string o.w_Key), (Value.string o.w_End), (vB o.w_HasEnd), (vI .i64 o.w_MinRev)] :: cl b27_ 42 [(vB false), (vI .i64 0), (vS none 0 0), (vS none 0 0)] :: ro R :: cl cb 59 [pv] :: cl b7_ 42 [(vB false), (vI .i64 0), (vS none 0 0), (vS none 0 0)] :: cl b2_ 29 [(vI .i64 o.kind), (vI .i64 o.w_ID), (Value.string o.w_Key), (Value.string o.w_End), (vB o.w_HasEnd), (vI .i64 o.w_MinRev), (Value.string o.key), (vI .i64 o.cur), (vI .i64 o.compact), o.events] :: F) ∧ Same w w1__) ?_ ?_
    ·rintro _ w304_ ⟨b141_, h, rfl, H305_, S306_⟩
     refine A_ready (i := 1) (rs := []) (by kernel_rfl) ?_
     refine AllR.cons ?_ AllR.nil
     refine A_op (ls' := #[true, true, true, true, true, true, true, true, false, true, true, true, false, true, true, true, true, true, true, false, false, false, false]) rfl (by kernel_rfl) (T_new (obj := .cells #[] 26) (f := fun b__ => .slice (some ⟨b__, 0, none⟩) 0 0) (A := fun b__ => cl b__ 26 []) (by kernel_rfl) (fun l h => h.alloc _ _) H305_ ?_)
     intro b307_ w308_ S310_ H309_
     have S311_ := Same.trans S306_ S310_
     refine ⟨⟨Holds.rd H309_ 2 rfl, Holds.rd H309_ 5 rfl, Holds.rd H309_ 6 rfl, (Holds.ro_at H309_ 3 rfl)⟩, ?_⟩
     have H312_ := Holds.pkF H309_ [1, 0, 0, 0, 0, 0, 0] 0
     exact hJ204 _ _ ⟨b307_, b141_, _, congrArg (fun e => mkA 162 e []) (ch (ch (ch (ch (ch (ch (ch rfl rfl) rfl) rfl) rfl) rfl) rfl) rfl), H312_, S311_⟩
    intro hJ211
    refine A_cut #[true, true, true, true, true, true, true, true, true, true, true, false, false, true, true, true, false, true, false, false, false, false, false] 8 (fun a__ w1__ => ∃ v57_ : Value, ∃ h : Env, a__ = mkA 162 (upd (upd (upd (upd (upd (upd (upd h 4 (vQ b7_)) 7 (vQ b27_)) 36 (vQ cb)) 44 v57_) 46 (vA #[(vI .i64 o.w_ID), (Value.string o.w_Key), (Value.string o.w_End), (vB o.w_HasEnd), (vI .i64 o.w_MinRev)])) 51 (vQ cb)) 53 (vI .i64 (i14_ : Int))) [] ∧ Holds w1__ (sl 26 5 v57_ (0 + (List.length (List.take (i14_ - 0) (List.drop 0 M)))) ([] ++ ((List.take (i14_ - 0) (List.drop 0 M)).flatMap GW.cells)) :: cl b27_ 42 [(vB false), (vI .i64 0), (vS none 0 0), (vS none 0 0)] :: ro R :: cl cb 59 [pv] :: cl b7_ 42 [(vB false), (vI .i64 0), (vS none 0 0), (vS none 0 0)] :: cl b2_ 29 [(vI .i64 o.kind), (vI .i64 o.w_ID), (Value.string o.w_Key), (Value.string o.w_End), (vB o.w_HasEnd), (vI .i64 o.w_MinRev), (Value.string o.key), (vI .i64 o.cur), (vI .i64 o.compact), o.events] :: F) ∧ Same w w1__) ?_ ?_
    ·rintro _ w313_ ⟨v57_, h, rfl, H314_, S315_⟩
     refine A_ready (i := 11) (rs := [16]) (by kernel_rfl) ?_
     refine AllR.cons ?_ ?_
     ·skip
      refine A_op (ls' := #[true, true, true, true, true, true, true, true, true, true, true, true, false, true, true, true, false, true, false, false, false, false, false]) rfl (by kernel_rfl) (T_new (obj := .cells #[(vI .i64 o.w_ID), (Value.string o.w_Key), (Value.string o.w_End), (vB o.w_HasEnd), (vI .i64 o.w_MinRev)] 26) (f := fun b__ => .slice (some ⟨b__, 0, none⟩) 1 1) (A := fun b__ => cl b__ 26 [(vI .i64 o.w_ID), (Value.string o.w_Key), (Value.string o.w_End), (vB o.w_HasEnd), (vI .i64 o.w_MinRev)]) (by kernel_rfl) (fun l h => h.alloc _ _) H314_ ?_)
      intro b316_ w317_ S319_ H318_
      have S320_ := Same.trans S315_ S319_
      refine ⟨⟨Holds.rd H318_ 2 rfl, Holds.rd H318_ 5 rfl, Holds.rd H318_ 6 rfl, (Holds.ro_at H318_ 3 rfl)⟩, ?_⟩
      exact hJ198 _ _ ⟨v57_, b316_, _, congrArg (fun e => mkA 162 e []) (ch (ch (ch (ch (ch (ch (ch rfl rfl) rfl) rfl) rfl) rfl) rfl) rfl), H318_, S320_⟩
     refine AllR.cons ?_ AllR.nil
     refine A_op (ls' := #[true, true, true, true, true, true, true, true, true, true, true, false, false, true, true, true, true, true, false, false, false, false, false]) rfl (by kernel_rfl) (T_val (v := pv) (x_load1 rfl underlying22 rfl ((Holds.rd H314_ 3 rfl) 0 pv rfl)) ?_)
     refine ⟨⟨Holds.rd H314_ 1 rfl, Holds.rd H314_ 4 rfl, Holds.rd H314_ 5 rfl, (Holds.ro_at H314_ 2 rfl)⟩, ?_⟩
     have hq321_ := And.intro (Holds.rd H314_ 1 rfl) (And.intro (Holds.rd H314_ 4 rfl) (And.intro (Holds.rd H314_ 5 rfl) ((Holds.ro_at H314_ 2 rfl))))
     refine A_tk 18 (v := (slc pv i14_ (List.length M) 5)) rfl (by kernel_rfl) (fun w hS => x_sliceRS (l := i14_) (h := (List.length M)) rfl hP underlying22 z26 (by omega) rfl ⟨_, _, rfl, by omega, by omega, by omega⟩) hq321_ ?_
     exact hJ202 _ _ ⟨v57_, _, congrArg (fun e => mkA 162 e []) (ch (ch (ch (ch (ch (ch rfl rfl) rfl) rfl) rfl) rfl) rfl), H314_, S315_⟩
    intro hJ197
    refine A_cut #[true, true, true, true, true, true, true, true, false, true, true, true, false, true, true, true, false, true, false, false, false, false, false] 8 (fun a__ w1__ => ∃ b49_ : Nat, ∃ b91_ : Nat, ∃ h : Env, a__ = mkA 162 (upd (upd (upd (upd (upd (upd (upd (upd h 4 (vQ b7_)) 7 (vQ b27_)) 36 (vQ cb)) 37 (vS (some ⟨b49_, 0, none⟩) 0 0)) 43 (slc pv 0 i14_ 5)) 47 (vS (some ⟨b91_, 0, none⟩) 1 1)) 51 (vQ cb)) 53 (vI .i64 (i14_ : Int))) [] ∧ Holds w1__ (cl b91_ 26 [(vI .i64 o.w_ID), (Value.string o.w_Key), (Value.string o.w_End), (vB o.w_HasEnd), (vI .i64 o.w_MinRev)] :: cl b49_ 26 [] :: cl b27_ 42 [(vB false), (vI .i64 0), (vS none 0 0), (vS none 0 0)] :: ro R :: cl cb 59 [pv] :: cl b7_ 42 [(vB false), (vI .i64 0), (vS none 0 0), (vS none 0 0)] :: cl b2_ 29 [(vI .i64 o.kind), (vI .i64 o.w_ID), (Value.string o.w_Key), (Value.string o.w_End), (vB o.w_HasEnd), (vI .i64 o.w_MinRev), (Value.string o.key), (vI .i64 o.cur), (vI .i64 o.compact), o.events] :: F) ∧ Same w w1__) ?_ ?_
    ·rintro _ w322_ ⟨b49_, b91_, h, rfl, H323_, S324_⟩
     refine A_ready (i := 8) (rs := [16]) (by kernel_rfl) ?_
     refine AllR.cons ?_ ?_
     ·skip
      have H325_ : Holds w322_ (cl b91_ 26 [(vI .i64 o.w_ID), (Value.string o.w_Key), (Value.string o.w_End), (vB o.w_HasEnd), (vI .i64 o.w_MinRev)] :: cl b49_ 26 ([] ++ [] ++ []) :: cl b27_ 42 [(vB false), (vI .i64 0), (vS none 0 0), (vS none 0 0)] :: ro R :: cl cb 59 [pv] :: cl b7_ 42 [(vB false), (vI .i64 0), (vS none 0 0), (vS none 0 0)] :: cl b2_ 29 [(vI .i64 o.kind), (vI .i64 o.w_ID), (Value.string o.w_Key), (Value.string o.w_End), (vB o.w_HasEnd), (vI .i64 o.w_MinRev), (Value.string o.key), (vI .i64 o.cur), (vI .i64 o.compact), o.events] :: F) := cast1 (P := fun (c__ : List Value) => Holds w322_ (cl b91_ 26 [(vI .i64 o.w_ID), (Value.string o.w_Key), (Value.string o.w_End), (vB o.w_HasEnd), (vI .i64 o.w_MinRev)] :: cl b49_ 26 c__ :: cl b27_ 42 [(vB false), (vI .i64 0), (vS none 0 0), (vS none 0 0)] :: ro R :: cl cb 59 [pv] :: cl b7_ 42 [(vB false), (vI .i64 0), (vS none 0 0), (vS none 0 0)] :: cl b2_ 29 [(vI .i64 o.kind), (vI .i64 o.w_ID), (Value.string o.w_Key), (Value.string o.w_End), (vB o.w_HasEnd), (vI .i64 o.w_MinRev), (Value.string o.key), (vI .i64 o.cur), (vI .i64 o.compact), o.events] :: F)) (by kernel_rfl : [] = [] ++ [] ++ []) H323_
      have H326_ : Holds w322_ (cl b91_ 26 [(vI .i64 o.w_ID), (Value.string o.w_Key), (Value.string o.w_End), (vB o.w_HasEnd), (vI .i64 o.w_MinRev)] :: sl 26 5 (vS (some ⟨b49_, 0, none⟩) 0 0) 0 [] :: cl b27_ 42 [(vB false), (vI .i64 0), (vS none 0 0), (vS none 0 0)] :: ro R :: cl cb 59 [pv] :: cl b7_ 42 [(vB false), (vI .i64 0), (vS none 0 0), (vS none 0 0)] :: cl b2_ 29 [(vI .i64 o.kind), (vI .i64 o.w_ID), (Value.string o.w_Key), (Value.string o.w_End), (vB o.w_HasEnd), (vI .i64 o.w_MinRev), (Value.string o.key), (vI .i64 o.cur), (vI .i64 o.compact), o.events] :: F) := Holds.to_sl H325_ 1 [] [] (xs := []) (m := 0) (cap := 0) (sz := 5) rfl (by kernel_rfl) (by kernel_rfl) (by omega)
      refine A_op (ls' := #[true, true, true, true, true, true, true, true, true, true, true, true, false, true, true, true, false, true, false, false, false, false, false]) rfl (by kernel_rfl) (T_append rfl rfl underlying22 z26 rfl (by decide) H326_ 1 rfl (RS.src (RS.slcF GW.len hP (by omega : 0 ≤ i14_) (by omega)) (Holds.ro_at H326_ 3 rfl) underlying22 (ones_GW _)) (by simp only [List.length_append, List.length_cons, List.length_nil, List.length_take, List.length_drop]; omega) ?_)
      intro v327_ w328_ S330_ H329_
      have S331_ := Same.trans S324_ S330_
      refine ⟨⟨Holds.rd H329_ 2 rfl, Holds.rd H329_ 5 rfl, Holds.rd H329_ 6 rfl, (Holds.ro_at H329_ 3 rfl)⟩, ?_⟩
      exact hJ198 _ _ ⟨v327_, b91_, _, congrArg (fun e => mkA 162 e []) (ch (ch (ch (ch (ch (ch (ch rfl rfl) rfl) rfl) rfl) rfl) rfl) rfl), H329_, S331_⟩
     refine AllR.cons ?_ AllR.nil
     refine A_op (ls' := #[true, true, true, true, true, true, true, true, false, true, true, true, false, true, true, true, true, true, false, false, false, false, false]) rfl (by kernel_rfl) (T_val (v := pv) (x_load1 rfl underlying22 rfl ((Holds.rd H323_ 4 rfl) 0 pv rfl)) ?_)
     refine ⟨⟨Holds.rd H323_ 2 rfl, Holds.rd H323_ 5 rfl, Holds.rd H323_ 6 rfl, (Holds.ro_at H323_ 3 rfl)⟩, ?_⟩
     have hq332_ := And.intro (Holds.rd H323_ 2 rfl) (And.intro (Holds.rd H323_ 5 rfl) (And.intro (Holds.rd H323_ 6 rfl) ((Holds.ro_at H323_ 3 rfl))))
     refine A_tk 18 (v := (slc pv i14_ (List.length M) 5)) rfl (by kernel_rfl) (fun w hS => x_sliceRS (l := i14_) (h := (List.length M)) rfl hP underlying22 z26 (by omega) rfl ⟨_, _, rfl, by omega, by omega, by omega⟩) hq332_ ?_
     exact hJ204 _ _ ⟨b49_, b91_, _, congrArg (fun e => mkA 162 e []) (ch (ch (ch (ch (ch (ch (ch rfl rfl) rfl) rfl) rfl) rfl) rfl) rfl), H323_, S324_⟩
    intro hJ203
    refine A_cut #[true, true, true, true, true, false, true, false, false, true, true, true, false, true, true, true, true, true, true, false, false, false, false] 8 (fun a__ w1__ => ∃ b49_ : Nat, ∃ b123_ : Nat, ∃ h : Env, a__ = mkA 162 (upd (upd (upd (upd (upd (upd (upd (upd h 4 (vQ b7_)) 7 (vQ b27_)) 36 (vQ cb)) 37 (vS (some ⟨b49_, 0, none⟩) 0 0)) 40 (vQ cb)) 42 (vI .i64 (i14_ : Int))) 47 (vS (some ⟨b123_, 0, none⟩) 1 1)) 54 (slc pv i14_ (List.length M) 5)) [] ∧ Holds w1__ (cl b123_ 26 [(vI .i64 o.w_ID), (Value.string o.w_Key), (Value.string o.w_End), (vB o.w_HasEnd), (vI .i64 o.w_MinRev)] :: cl b49_ 26 [] :: cl b27_ 42 [(vB false), (vI .i64 0), (vS none 0 0), (vS none 0 0)] :: ro R :: cl cb 59 [pv] :: cl b7_ 42 [(vB false), (vI .i64 0), (vS none 0 0), (vS none 0 0)] :: cl b2_ 29 [(vI .i64 o.kind), (vI .i64 o.w_ID), (Value.string o.w_Key), (Value.string o.w_End), (vB o.w_HasEnd), (vI .i64 o.w_MinRev), (Value.string o.key), (vI .i64 o.cur), (vI .i64 o.compact), o.events] :: F) ∧ Same w w1__) ?_ ?_
    ·rintro _ w333_ ⟨b49_, b123_, h, rfl, H334_, S335_⟩
     refine A_ready (i := 5) (rs := []) (by kernel_rfl) ?_
     refine AllR.cons ?_ AllR.nil
     refine A_op (ls' := #[true, true, true, true, true, true, true, false, false, true, true, true, false, true, true, true, true, true, true, false, false, false, false]) rfl (by kernel_rfl) (T_val (v := pv) (x_load1 rfl underlying22 rfl ((Holds.rd H334_ 4 rfl) 0 pv rfl)) ?_)
     refine ⟨⟨Holds.rd H334_ 2 rfl, Holds.rd H334_ 5 rfl, Holds.rd H334_ 6 rfl, (Holds.ro_at H334_ 3 rfl)⟩, ?_⟩
     have hq336_ := And.intro (Holds.rd H334_ 2 rfl) (And.intro (Holds.rd H334_ 5 rfl) (And.intro (Holds.rd H334_ 6 rfl) ((Holds.ro_at H334_ 3 rfl))))
     refine A_tk 7 (v := (slc pv 0 i14_ 5)) rfl (by kernel_rfl) (fun w hS => x_sliceRS (l := 0) (h := i14_) rfl hP underlying22 z26 (by omega) ⟨_, _, rfl, by omega, by omega, by omega⟩ rfl) hq336_ ?_
     exact hJ204 _ _ ⟨b49_, b123_, _, congrArg (fun e => mkA 162 e []) (ch (ch (ch (ch (ch (ch (ch rfl rfl) rfl) rfl) rfl) rfl) rfl) rfl), H334_, S335_⟩
    intro hJ207
    refine A_cut #[true, false, true, true, true, true, true, true, false, true, true, false, false, true, true, true, true, true, true, false, false, false, false] 8 (fun a__ w1__ => ∃ h : Env, a__ = mkA 162 (upd (upd (upd (upd (upd (upd h 4 (vQ b7_)) 7 (vQ b27_)) 36 (vQ cb)) 43 (slc pv 0 i14_ 5)) 46 (vA #[(vI .i64 o.w_ID), (Value.string o.w_Key), (Value.string o.w_End), (vB o.w_HasEnd), (vI .i64 o.w_MinRev)])) 54 (slc pv i14_ (List.length M) 5)) [] ∧ Holds w1__ (cl b27_ 42 [(vB false), (vI .i64 0), (vS none 0 0), (vS none 0 0)] :: ro R :: cl cb 59 [pv] :: cl b7_ 42 [(vB false), (vI .i64 0), (vS none 0 0), (vS none 0 0)] :: cl b2_ 29 [(vI .i64 o.kind), (vI .i64 o.w_ID), (Value.string o.w_Key), (Value.string o.w_End), (vB o.w_HasEnd), (vI .i64 o.w_MinRev), (Value.string o.key), (vI .i64 o.cur), (vI .i64 o.compact), o.events] :: F) ∧ Same w w1__) ?_ ?_
    ·rintro _ w337_ ⟨h, rfl, H338_, S339_⟩
     refine A_ready (i := 1) (rs := [11]) (by kernel_rfl) ?_
     refine AllR.cons ?_ ?_
     ·skip
      refine A_op (ls' := #[true, true, true, true, true, true, true, true, false, true, true, false, false, true, true, true, true, true, true, false, false, false, false]) rfl (by kernel_rfl) (T_new (obj := .cells #[] 26) (f := fun b__ => .slice (some ⟨b__, 0, none⟩) 0 0) (A := fun b__ => cl b__ 26 []) (by kernel_rfl) (fun l h => h.alloc _ _) H338_ ?_)
      intro b340_ w341_ S343_ H342_
      have S344_ := Same.trans S339_ S343_
      refine ⟨⟨Holds.rd H342_ 1 rfl, Holds.rd H342_ 4 rfl, Holds.rd H342_ 5 rfl, (Holds.ro_at H342_ 2 rfl)⟩, ?_⟩
      exact hJ205 _ _ ⟨b340_, _, congrArg (fun e => mkA 162 e []) (ch (ch (ch (ch (ch (ch (ch rfl rfl) rfl) rfl) rfl) rfl) rfl) rfl), H342_, S344_⟩
     refine AllR.cons ?_ AllR.nil
     refine A_op (ls' := #[true, false, true, true, true, true, true, true, false, true, true, true, false, true, true, true, true, true, true, false, false, false, false]) rfl (by kernel_rfl) (T_new (obj := .cells #[(vI .i64 o.w_ID), (Value.string o.w_Key), (Value.string o.w_End), (vB o.w_HasEnd), (vI .i64 o.w_MinRev)] 26) (f := fun b__ => .slice (some ⟨b__, 0, none⟩) 1 1) (A := fun b__ => cl b__ 26 [(vI .i64 o.w_ID), (Value.string o.w_Key), (Value.string o.w_End), (vB o.w_HasEnd), (vI .i64 o.w_MinRev)]) (by kernel_rfl) (fun l h => h.alloc _ _) H338_ ?_)
     intro b345_ w346_ S348_ H347_
     have S349_ := Same.trans S339_ S348_
     refine ⟨⟨Holds.rd H347_ 1 rfl, Holds.rd H347_ 4 rfl, Holds.rd H347_ 5 rfl, (Holds.ro_at H347_ 2 rfl)⟩, ?_⟩
     exact hJ211 _ _ ⟨b345_, _, congrArg (fun e => mkA 162 e []) (ch (ch (ch (ch (ch (ch rfl rfl) rfl) rfl) rfl) rfl) rfl), H347_, S349_⟩
    intro hJ212
    refine A_cut #[true, true, true, true, true, true, true, true, false, true, true, false, false, true, true, true, false, true, false, false, false, false, false] 9 (fun a__ w1__ => ∃ b49_ : Nat, ∃ h : Env, a__ = mkA 162 (upd (upd (upd (upd (upd (upd (upd (upd h 4 (vQ b7_)) 7 (vQ b27_)) 36 (vQ cb)) 37 (vS (some ⟨b49_, 0, none⟩) 0 0)) 43 (slc pv 0 i14_ 5)) 46 (vA #[(vI .i64 o.w_ID), (Value.string o.w_Key), (Value.string o.w_End), (vB o.w_HasEnd), (vI .i64 o.w_MinRev)])) 51 (vQ cb)) 53 (vI .i64 (i14_ : Int))) [] ∧ Holds w1__ (cl b49_ 26 [] :: cl b27_ 42 [(vB false), (vI .i64 0), (vS none 0 0), (vS none 0 0)] :: ro R :: cl cb 59 [pv] :: cl b7_ 42 [(vB false), (vI .i64 0), (vS none 0 0), (vS none 0 0)] :: cl b2_ 29 [(vI .i64 o.kind), (vI .i64 o.w_ID), (Value.string o.w_Key), (Value.string o.w_End), (vB o.w_HasEnd), (vI .i64 o.w_MinRev), (Value.string o.key), (vI .i64 o.cur), (vI .i64 o.compact), o.events] :: F) ∧ Same w w1__) ?_ ?_
    ·rintro _ w350_ ⟨b49_, h, rfl, H351_, S352_⟩
     refine A_ready (i := 8) (rs := [11, 16]) (by kernel_rfl) ?_
     refine AllR.cons ?_ ?_
     ·skip
      have H353_ : Holds w350_ (cl b49_ 26 ([] ++ [] ++ []) :: cl b27_ 42 [(vB false), (vI .i64 0), (vS none 0 0), (vS none 0 0)] :: ro R :: cl cb 59 [pv] :: cl b7_ 42 [(vB false), (vI .i64 0), (vS none 0 0), (vS none 0 0)] :: cl b2_ 29 [(vI .i64 o.kind), (vI .i64 o.w_ID), (Value.string o.w_Key), (Value.string o.w_End), (vB o.w_HasEnd), (vI .i64 o.w_MinRev), (Value.string o.key), (vI .i64 o.cur), (vI .i64 o.compact), o.events] :: F) := cast1 (P := fun (c__ : List Value) => Holds w350_ (cl b49_ 26 c__ :: cl b27_ 42 [(vB false), (vI .i64 0), (vS none 0 0), (vS none 0 0)] :: ro R :: cl cb 59 [pv] :: cl b7_ 42 [(vB false), (vI .i64 0), (vS none 0 0), (vS none 0 0)] :: cl b2_ 29 [(vI .i64 o.kind), (vI .i64 o.w_ID), (Value.string o.w_Key), (Value.string o.w_End), (vB o.w_HasEnd), (vI .i64 o.w_MinRev), (Value.string o.key), (vI .i64 o.cur), (vI .i64 o.compact), o.events] :: F)) (by kernel_rfl : [] = [] ++ [] ++ []) H351_
      have H354_ : Holds w350_ (sl 26 5 (vS (some ⟨b49_, 0, none⟩) 0 0) 0 [] :: cl b27_ 42 [(vB false), (vI .i64 0), (vS none 0 0), (vS none 0 0)] :: ro R :: cl cb 59 [pv] :: cl b7_ 42 [(vB false), (vI .i64 0), (vS none 0 0), (vS none 0 0)] :: cl b2_ 29 [(vI .i64 o.kind), (vI .i64 o.w_ID), (Value.string o.w_Key), (Value.string o.w_End), (vB o.w_HasEnd), (vI .i64 o.w_MinRev), (Value.string o.key), (vI .i64 o.cur), (vI .i64 o.compact), o.events] :: F) := Holds.to_sl H353_ 0 [] [] (xs := []) (m := 0) (cap := 0) (sz := 5) rfl (by kernel_rfl) (by kernel_rfl) (by omega)
      refine A_op (ls' := #[true, true, true, true, true, true, true, true, true, true, true, false, false, true, true, true, false, true, false, false, false, false, false]) rfl (by kernel_rfl) (T_append rfl rfl underlying22 z26 rfl (by decide) H354_ 0 rfl (RS.src (RS.slcF GW.len hP (by omega : 0 ≤ i14_) (by omega)) (Holds.ro_at H354_ 2 rfl) underlying22 (ones_GW _)) (by simp only [List.length_append, List.length_cons, List.length_nil, List.length_take, List.length_drop]; omega) ?_)
      intro v355_ w356_ S358_ H357_
      have S359_ := Same.trans S352_ S358_
      refine ⟨⟨Holds.rd H357_ 1 rfl, Holds.rd H357_ 4 rfl, Holds.rd H357_ 5 rfl, (Holds.ro_at H357_ 2 rfl)⟩, ?_⟩
      exact hJ197 _ _ ⟨v355_, _, congrArg (fun e => mkA 162 e []) (ch (ch (ch (ch (ch (ch (ch rfl rfl) rfl) rfl) rfl) rfl) rfl) rfl), H357_, S359_⟩
     refine AllR.cons ?_ ?_
     ·skip
      refine A_op (ls' := #[true, true, true, true, true, true, true, true, false, true, true, true, false, true, true, true, false, true, false, false, false, false, false]) rfl (by kernel_rfl) (T_new (obj := .cells #[(vI .i64 o.w_ID), (Value.string o.w_Key), (Value.string o.w_End), (vB o.w_HasEnd), (vI .i64 o.w_MinRev)] 26) (f := fun b__ => .slice (some ⟨b__, 0, none⟩) 1 1) (A := fun b__ => cl b__ 26 [(vI .i64 o.w_ID), (Value.string o.w_Key), (Value.string o.w_End), (vB o.w_HasEnd), (vI .i64 o.w_MinRev)]) (by kernel_rfl) (fun l h => h.alloc _ _) H351_ ?_)
      intro b360_ w361_ S363_ H362_
      have S364_ := Same.trans S352_ S363_
      refine ⟨⟨Holds.rd H362_ 2 rfl, Holds.rd H362_ 5 rfl, Holds.rd H362_ 6 rfl, (Holds.ro_at H362_ 3 rfl)⟩, ?_⟩
      exact hJ203 _ _ ⟨b49_, b360_, _, congrArg (fun e => mkA 162 e []) (ch (ch (ch (ch (ch (ch (ch (ch rfl rfl) rfl) rfl) rfl) rfl) rfl) rfl) rfl), H362_, S364_⟩
     refine AllR.cons ?_ AllR.nil
     refine A_op (ls' := #[true, true, true, true, true, true, true, true, false, true, true, false, false, true, true, true, true, true, false, false, false, false, false]) rfl (by kernel_rfl) (T_val (v := pv) (x_load1 rfl underlying22 rfl ((Holds.rd H351_ 3 rfl) 0 pv rfl)) ?_)
     refine ⟨⟨Holds.rd H351_ 1 rfl, Holds.rd H351_ 4 rfl, Holds.rd H351_ 5 rfl, (Holds.ro_at H351_ 2 rfl)⟩, ?_⟩
     have hq365_ := And.intro (Holds.rd H351_ 1 rfl) (And.intro (Holds.rd H351_ 4 rfl) (And.intro (Holds.rd H351_ 5 rfl) ((Holds.ro_at H351_ 2 rfl))))
     refine A_tk 18 (v := (slc pv i14_ (List.length M) 5)) rfl (by kernel_rfl) (fun w hS => x_sliceRS (l := i14_) (h := (List.length M)) rfl hP underlying22 z26 (by omega) rfl ⟨_, _, rfl, by omega, by omega, by omega⟩) hq365_ ?_
     exact hJ205 _ _ ⟨b49_, _, congrArg (fun e => mkA 162 e []) (ch (ch (ch (ch (ch (ch (ch rfl rfl) rfl) rfl) rfl) rfl) rfl) rfl), H351_, S352_⟩
    intro hJ196
    refine A_cut #[true, true, true, true, true, false, true, false, false, true, true, false, false, true, true, true, true, true, true, false, false, false, false] 9 (fun a__ w1__ => ∃ b49_ : Nat, ∃ h : Env, a__ = mkA 162 (upd (upd (upd (upd (upd (upd (upd (upd h 4 (vQ b7_)) 7 (vQ b27_)) 36 (vQ cb)) 37 (vS (some ⟨b49_, 0, none⟩) 0 0)) 40 (vQ cb)) 42 (vI .i64 (i14_ : Int))) 46 (vA #[(vI .i64 o.w_ID), (Value.string o.w_Key), (Value.string o.w_End), (vB o.w_HasEnd), (vI .i64 o.w_MinRev)])) 54 (slc pv i14_ (List.length M) 5)) [] ∧ Holds w1__ (cl b49_ 26 [] :: cl b27_ 42 [(vB false), (vI .i64 0), (vS none 0 0), (vS none 0 0)] :: ro R :: cl cb 59 [pv] :: cl b7_ 42 [(vB false), (vI .i64 0), (vS none 0 0), (vS none 0 0)] :: cl b2_ 29 [(vI .i64 o.kind), (vI .i64 o.w_ID), (Value.string o.w_Key), (Value.string o.w_End), (vB o.w_HasEnd), (vI .i64 o.w_MinRev), (Value.string o.key), (vI .i64 o.cur), (vI .i64 o.compact), o.events] :: F) ∧ Same w w1__) ?_ ?_
    ·rintro _ w366_ ⟨b49_, h, rfl, H367_, S368_⟩
     refine A_ready (i := 5) (rs := [11]) (by kernel_rfl) ?_
     refine AllR.cons ?_ ?_
     ·skip
      refine A_op (ls' := #[true, true, true, true, true, true, true, false, false, true, true, false, false, true, true, true, true, true, true, false, false, false, false]) rfl (by kernel_rfl) (T_val (v := pv) (x_load1 rfl underlying22 rfl ((Holds.rd H367_ 3 rfl) 0 pv rfl)) ?_)
      refine ⟨⟨Holds.rd H367_ 1 rfl, Holds.rd H367_ 4 rfl, Holds.rd H367_ 5 rfl, (Holds.ro_at H367_ 2 rfl)⟩, ?_⟩
      have hq369_ := And.intro (Holds.rd H367_ 1 rfl) (And.intro (Holds.rd H367_ 4 rfl) (And.intro (Holds.rd H367_ 5 rfl) ((Holds.ro_at H367_ 2 rfl))))
      refine A_tk 7 (v := (slc pv 0 i14_ 5)) rfl (by kernel_rfl) (fun w hS => x_sliceRS (l := 0) (h := i14_) rfl hP underlying22 z26 (by omega) ⟨_, _, rfl, by omega, by omega, by omega⟩ rfl) hq369_ ?_
      exact hJ205 _ _ ⟨b49_, _, congrArg (fun e => mkA 162 e []) (ch (ch (ch (ch (ch (ch (ch rfl rfl) rfl) rfl) rfl) rfl) rfl) rfl), H367_, S368_⟩
     refine AllR.cons ?_ AllR.nil
     refine A_op (ls' := #[true, true, true, true, true, false, true, false, false, true, true, true, false, true, true, true, true, true, true, false, false, false, false]) rfl (by kernel_rfl) (T_new (obj := .cells #[(vI .i64 o.w_ID), (Value.string o.w_Key), (Value.string o.w_End), (vB o.w_HasEnd), (vI .i64 o.w_MinRev)] 26) (f := fun b__ => .slice (some ⟨b__, 0, none⟩) 1 1) (A := fun b__ => cl b__ 26 [(vI .i64 o.w_ID), (Value.string o.w_Key), (Value.string o.w_End), (vB o.w_HasEnd), (vI .i64 o.w_MinRev)]) (by kernel_rfl) (fun l h => h.alloc _ _) H367_ ?_)
     intro b370_ w371_ S373_ H372_
     have S374_ := Same.trans S368_ S373_
     refine ⟨⟨Holds.rd H372_ 2 rfl, Holds.rd H372_ 5 rfl, Holds.rd H372_ 6 rfl, (Holds.ro_at H372_ 3 rfl)⟩, ?_⟩
     exact hJ207 _ _ ⟨b49_, b370_, _, congrArg (fun e => mkA 162 e []) (ch (ch (ch (ch (ch (ch (ch (ch rfl rfl) rfl) rfl) rfl) rfl) rfl) rfl) rfl), H372_, S374_⟩
    intro hJ208
    refine A_cut #[true, false, true, true, true, true, true, true, false, true, true, true, false, true, true, true, false, true, false, false, false, false, false] 9 (fun a__ w1__ => ∃ b141_ : Nat, ∃ h : Env, a__ = mkA 162 (upd (upd (upd (upd (upd (upd (upd h 4 (vQ b7_)) 7 (vQ b27_)) 36 (vQ cb)) 43 (slc pv 0 i14_ 5)) 47 (vS (some ⟨b141_, 0, none⟩) 1 1)) 51 (vQ cb)) 53 (vI .i64 (i14_ : Int))) [] ∧ Holds w1__ (cl b141_ 26 [(vI .i64 o.w_ID), (Value.string o.w_Key), (Value.string o.w_End), (vB o.w_HasEnd), (vI .i64 o.w_MinRev)] :: cl b27_ 42 [(vB false), (vI .i64 0), (vS none 0 0), (vS none 0 0)] :: ro R :: cl cb 59 [pv] :: cl b7_ 42 [(vB false), (vI .i64 0), (vS none 0 0), (vS none 0 0)] :: cl b2_ 29 [(vI .i64 o.kind), (vI .i64 o.w_ID), (Value.string o.w_Key), (Value.string o.w_End), (vB o.w_HasEnd), (vI .i64 o.w_MinRev), (Value.string o.key), (vI .i64 o.cur), (vI .i64 o.compact), o.events] :: F) ∧ Same w w1__) ?_ ?_
    ·rintro _ w375_ ⟨b141_, h, rfl, H376_, S377_⟩
     refine A_ready (i := 1) (rs := [16]) (by kernel_rfl) ?_
     refine AllR.cons ?_ ?_
     ·skip
      refine A_op (ls' := #[true, true, true, true, true, true, true, true, false, true, true, true, false, true, true, true, false, true, false, false, false, false, false]) rfl (by kernel_rfl) (T_new (obj := .cells #[] 26) (f := fun b__ => .slice (some ⟨b__, 0, none⟩) 0 0) (A := fun b__ => cl b__ 26 []) (by kernel_rfl) (fun l h => h.alloc _ _) H376_ ?_)
      intro b378_ w379_ S381_ H380_
      have S382_ := Same.trans S377_ S381_
      refine ⟨⟨Holds.rd H380_ 2 rfl, Holds.rd H380_ 5 rfl, Holds.rd H380_ 6 rfl, (Holds.ro_at H380_ 3 rfl)⟩, ?_⟩
      have H383_ := Holds.pkF H380_ [1, 0, 0, 0, 0, 0, 0] 0
      exact hJ203 _ _ ⟨b378_, b141_, _, congrArg (fun e => mkA 162 e []) (ch (ch (ch (ch (ch (ch (ch (ch rfl rfl) rfl) rfl) rfl) rfl) rfl) rfl) rfl), H383_, S382_⟩
     refine AllR.cons ?_ AllR.nil
     refine A_op (ls' := #[true, false, true, true, true, true, true, true, false, true, true, true, false, true, true, true, true, true, false, false, false, false, false]) rfl (by kernel_rfl) (T_val (v := pv) (x_load1 rfl underlying22 rfl ((Holds.rd H376_ 3 rfl) 0 pv rfl)) ?_)
     refine ⟨⟨Holds.rd H376_ 1 rfl, Holds.rd H376_ 4 rfl, Holds.rd H376_ 5 rfl, (Holds.ro_at H376_ 2 rfl)⟩, ?_⟩
     have hq384_ := And.intro (Holds.rd H376_ 1 rfl) (And.intro (Holds.rd H376_ 4 rfl) (And.intro (Holds.rd H376_ 5 rfl) ((Holds.ro_at H376_ 2 rfl))))
     refine A_tk 18 (v := (slc pv i14_ (List.length M) 5)) rfl (by kernel_rfl) (fun w hS => x_sliceRS (l := i14_) (h := (List.length M)) rfl hP underlying22 z26 (by omega) rfl ⟨_, _, rfl, by omega, by omega, by omega⟩) hq384_ ?_
     exact hJ211 _ _ ⟨b141_, _, congrArg (fun e => mkA 162 e []) (ch (ch (ch (ch (ch (ch rfl rfl) rfl) rfl) rfl) rfl) rfl), H376_, S377_⟩
    intro hJ210
    refine A_cut #[true, false, true, true, true, false, true, false, false, true, true, true, false, true, true, true, true, true, true, false, false, false, false] 9 (fun a__ w1__ => ∃ b167_ : Nat, ∃ h : Env, a__ = mkA 162 (upd (upd (upd (upd (upd (upd (upd h 4 (vQ b7_)) 7 (vQ b27_)) 36 (vQ cb)) 40 (vQ cb)) 42 (vI .i64 (i14_ : Int))) 47 (vS (some ⟨b167_, 0, none⟩) 1 1)) 54 (slc pv i14_ (List.length M) 5)) [] ∧ Holds w1__ (cl b167_ 26 [(vI .i64 o.w_ID), (Value.string o.w_Key), (Value.string o.w_End), (vB o.w_HasEnd), (vI .i64 o.w_MinRev)] :: cl b27_ 42 [(vB false), (vI .i64 0), (vS none 0 0), (vS none 0 0)] :: ro R :: cl cb 59 [pv] :: cl b7_ 42 [(vB false), (vI .i64 0), (vS none 0 0), (vS none 0 0)] :: cl b2_ 29 [(vI .i64 o.kind), (vI .i64 o.w_ID), (Value.string o.w_Key), (Value.string o.w_End), (vB o.w_HasEnd), (vI .i64 o.w_MinRev), (Value.string o.key), (vI .i64 o.cur), (vI .i64 o.compact), o.events] :: F) ∧ Same w w1__) ?_ ?_
    ·rintro _ w385_ ⟨b167_, h, rfl, H386_, S387_⟩
     refine A_ready (i := 1) (rs := [5]) (by kernel_rfl) ?_
     refine AllR.cons ?_ ?_
     ·skip
      refine A_op (ls' := #[true, true, true, true, true, false, true, false, false, true, true, true, false, true, true, true, true, true, true, false, false, false, false]) rfl (by kernel_rfl) (T_new (obj := .cells #[] 26) (f := fun b__ => .slice (some ⟨b__, 0, none⟩) 0 0) (A := fun b__ => cl b__ 26 []) (by kernel_rfl) (fun l h => h.alloc _ _) H386_ ?_)
      intro b388_ w389_ S391_ H390_
      have S392_ := Same.trans S387_ S391_
      refine ⟨⟨Holds.rd H390_ 2 rfl, Holds.rd H390_ 5 rfl, Holds.rd H390_ 6 rfl, (Holds.ro_at H390_ 3 rfl)⟩, ?_⟩
      have H393_ := Holds.pkF H390_ [1, 0, 0, 0, 0, 0, 0] 0
      exact hJ207 _ _ ⟨b388_, b167_, _, congrArg (fun e => mkA 162 e []) (ch (ch (ch (ch (ch (ch (ch (ch rfl rfl) rfl) rfl) rfl) rfl) rfl) rfl) rfl), H393_, S392_⟩
     refine AllR.cons ?_ AllR.nil
     refine A_op (ls' := #[true, false, true, true, true, true, true, false, false, true, true, true, false, true, true, true, true, true, true, false, false, false, false]) rfl (by kernel_rfl) (T_val (v := pv) (x_load1 rfl underlying22 rfl ((Holds.rd H386_ 3 rfl) 0 pv rfl)) ?_)
     refine ⟨⟨Holds.rd H386_ 1 rfl, Holds.rd H386_ 4 rfl, Holds.rd H386_ 5 rfl, (Holds.ro_at H386_ 2 rfl)⟩, ?_⟩
     have hq394_ := And.intro (Holds.rd H386_ 1 rfl) (And.intro (Holds.rd H386_ 4 rfl) (And.intro (Holds.rd H386_ 5 rfl) ((Holds.ro_at H386_ 2 rfl))))
     refine A_tk 7 (v := (slc pv 0 i14_ 5)) rfl (by kernel_rfl) (fun w hS => x_sliceRS (l := 0) (h := i14_) rfl hP underlying22 z26 (by omega) ⟨_, _, rfl, by omega, by omega, by omega⟩ rfl) hq394_ ?_
     exact hJ211 _ _ ⟨b167_, _, congrArg (fun e => mkA 162 e []) (ch (ch (ch (ch (ch (ch rfl rfl) rfl) rfl) rfl) rfl) rfl), H386_, S387_⟩
    intro hJ214
    refine A_cut #[true, true, true, true, true, false, true, false, false, true, true, true, false, true, true, true, false, true, false, false, false, false, false] 10 (fun a__ w1__ => ∃ b49_ : Nat, ∃ b123_ : Nat, ∃ h : Env, a__ = mkA 162 (upd (upd (upd (upd (upd (upd (upd (upd (upd h 4 (vQ b7_)) 7 (vQ b27_)) 36 (vQ cb)) 37 (vS (some ⟨b49_, 0, none⟩) 0 0)) 40 (vQ cb)) 42 (vI .i64 (i14_ : Int))) 47 (vS (some ⟨b123_, 0, none⟩) 1 1)) 51 (vQ cb)) 53 (vI .i64 (i14_ : Int))) [] ∧ Holds w1__ (cl b123_ 26 [(vI .i64 o.w_ID), (Value.string o.w_Key), (Value.string o.w_End), (vB o.w_HasEnd), (vI .i64 o.w_MinRev)] :: cl b49_ 26 [] :: cl b27_ 42 [(vB false), (vI .i64 0), (vS none 0 0), (vS none 0 0)] :: ro R :: cl cb 59 [pv] :: cl b7_ 42 [(vB false), (vI .i64 0), (vS none 0 0), (vS none 0 0)] :: cl b2_ 29 [(vI .i64 o.kind), (vI .i64 o.w_ID), (Value.string o.w_Key), (Value.string o.w_End), (vB o.w_HasEnd), (vI .i64 o.w_MinRev), (Value.string o.key), (vI .i64 o.cur), (vI .i64 o.compact), o.events] :: F) ∧ Same w w1__) ?_ ?_
    ·rintro _ w395_ ⟨b49_, b123_, h, rfl, H396_, S397_⟩
     refine A_ready (i := 5) (rs := [16]) (by kernel_rfl) ?_
     refine AllR.cons ?_ ?_
     ·skip
      refine A_op (ls' := #[true, true, true, true, true, true, true, false, false, true, true, true, false, true, true, true, false, true, false, false, false, false, false]) rfl (by kernel_rfl) (T_val (v := pv) (x_load1 rfl underlying22 rfl ((Holds.rd H396_ 4 rfl) 0 pv rfl)) ?_)
      refine ⟨⟨Holds.rd H396_ 2 rfl, Holds.rd H396_ 5 rfl, Holds.rd H396_ 6 rfl, (Holds.ro_at H396_ 3 rfl)⟩, ?_⟩
      have hq398_ := And.intro (Holds.rd H396_ 2 rfl) (And.intro (Holds.rd H396_ 5 rfl) (And.intro (Holds.rd H396_ 6 rfl) ((Holds.ro_at H396_ 3 rfl))))
      refine A_tk 7 (v := (slc pv 0 i14_ 5)) rfl (by kernel_rfl) (fun w hS => x_sliceRS (l := 0) (h := i14_) rfl hP underlying22 z26 (by omega) ⟨_, _, rfl, by omega, by omega, by omega⟩ rfl) hq398_ ?_
      exact hJ203 _ _ ⟨b49_, b123_, _, congrArg (fun e => mkA 162 e []) (ch (ch (ch (ch (ch (ch (ch (ch rfl rfl) rfl) rfl) rfl) rfl) rfl) rfl) rfl), H396_, S397_⟩
     refine AllR.cons ?_ AllR.nil
     refine A_op (ls' := #[true, true, true, true, true, false, true, false, false, true, true, true, false, true, true, true, true, true, false, false, false, false, false]) rfl (by kernel_rfl) (T_val (v := pv) (x_load1 rfl underlying22 rfl ((Holds.rd H396_ 4 rfl) 0 pv rfl)) ?_)
     refine ⟨⟨Holds.rd H396_ 2 rfl, Holds.rd H396_ 5 rfl, Holds.rd H396_ 6 rfl, (Holds.ro_at H396_ 3 rfl)⟩, ?_⟩
     have hq399_ := And.intro (Holds.rd H396_ 2 rfl) (And.intro (Holds.rd H396_ 5 rfl) (And.intro (Holds.rd H396_ 6 rfl) ((Holds.ro_at H396_ 3 rfl))))
     refine A_tk 18 (v := (slc pv i14_ (List.length M) 5)) rfl (by kernel_rfl) (fun w hS => x_sliceRS (l := i14_) (h := (List.length M)) rfl hP underlying22 z26 (by omega) rfl ⟨_, _, rfl, by omega, by omega, by omega⟩) hq399_ ?_
     exact hJ207 _ _ ⟨b49_, b123_, _, congrArg (fun e => mkA 162 e []) (ch (ch (ch (ch (ch (ch (ch (ch rfl rfl) rfl) rfl) rfl) rfl) rfl) rfl) rfl), H396_, S397_⟩
    intro hJ206
    refine A_cut #[true, false, true, true, true, true, true, true, false, true, true, false, false, true, true, true, false, true, false, false, false, false, false] 10 (fun a__ w1__ => ∃ h : Env, a__ = mkA 162 (upd (upd (upd (upd (upd (upd (upd h 4 (vQ b7_)) 7 (vQ b27_)) 36 (vQ cb)) 43 (slc pv 0 i14_ 5)) 46 (vA #[(vI .i64 o.w_ID), (Value.string o.w_Key), (Value.string o.w_End), (vB o.w_HasEnd), (vI .i64 o.w_MinRev)])) 51 (vQ cb)) 53 (vI .i64 (i14_ : Int))) [] ∧ Holds w1__ (cl b27_ 42 [(vB false), (vI .i64 0), (vS none 0 0), (vS none 0 0)] :: ro R :: cl cb 59 [pv] :: cl b7_ 42 [(vB false), (vI .i64 0), (vS none 0 0), (vS none 0 0)] :: cl b2_ 29 [(vI .i64 o.kind), (vI .i64 o.w_ID), (Value.string o.w_Key), (Value.string o.w_End), (vB o.w_HasEnd), (vI .i64 o.w_MinRev), (Value.string o.key), (vI .i64 o.cur), (vI .i64 o.compact), o.events] :: F) ∧ Same w w1__) ?_ ?_
    ·rintro _ w400_ ⟨h, rfl, H401_, S402_⟩
     refine A_ready (i := 1) (rs := [11, 16]) (by kernel_rfl) ?_
     refine AllR.cons ?_ ?_
     ·skip
      refine A_op (ls' := #[true, true, true, true, true, true, true, true, false, true, true, false, false, true, true, true, false, true, false, false, false, false, false]) rfl (by kernel_rfl) (T_new (obj := .cells #[] 26) (f := fun b__ => .slice (some ⟨b__, 0, none⟩) 0 0) (A := fun b__ => cl b__ 26 []) (by kernel_rfl) (fun l h => h.alloc _ _) H401_ ?_)
      intro b403_ w404_ S406_ H405_
      have S407_ := Same.trans S402_ S406_
      refine ⟨⟨Holds.rd H405_ 1 rfl, Holds.rd H405_ 4 rfl, Holds.rd H405_ 5 rfl, (Holds.ro_at H405_ 2 rfl)⟩, ?_⟩
      exact hJ196 _ _ ⟨b403_, _, congrArg (fun e => mkA 162 e []) (ch (ch (ch (ch (ch (ch (ch (ch rfl rfl) rfl) rfl) rfl) rfl) rfl) rfl) rfl), H405_, S407_⟩
     refine AllR.cons ?_ ?_
     ·skip
      refine A_op (ls' := #[true, false, true, true, true, true, true, true, false, true, true, true, false, true, true, true, false, true, false, false, false, false, false]) rfl (by kernel_rfl) (T_new (obj := .cells #[(vI .i64 o.w_ID), (Value.string o.w_Key), (Value.string o.w_End), (vB o.w_HasEnd), (vI .i64 o.w_MinRev)] 26) (f := fun b__ => .slice (some ⟨b__, 0, none⟩) 1 1) (A := fun b__ => cl b__ 26 [(vI .i64 o.w_ID), (Value.string o.w_Key), (Value.string o.w_End), (vB o.w_HasEnd), (vI .i64 o.w_MinRev)]) (by kernel_rfl) (fun l h => h.alloc _ _) H401_ ?_)
      intro b408_ w409_ S411_ H410_
      have S412_ := Same.trans S402_ S411_
      refine ⟨⟨Holds.rd H410_ 1 rfl, Holds.rd H410_ 4 rfl, Holds.rd H410_ 5 rfl, (Holds.ro_at H410_ 2 rfl)⟩, ?_⟩
      exact hJ210 _ _ ⟨b408_, _, congrArg (fun e => mkA 162 e []) (ch (ch (ch (ch (ch (ch (ch rfl rfl) rfl) rfl) rfl) rfl) rfl) rfl), H410_, S412_⟩
     refine AllR.cons ?_ AllR.nil
     refine A_op (ls' := #[true, false, true, true, true, true, true, true, false, true, true, false, false, true, true, true, true, true, false, false, false, false, false]) rfl (by kernel_rfl) (T_val (v := pv) (x_load1 rfl underlying22 rfl ((Holds.rd H401_ 2 rfl) 0 pv rfl)) ?_)
     refine ⟨⟨Holds.rd H401_ 0 rfl, Holds.rd H401_ 3 rfl, Holds.rd H401_ 4 rfl, (Holds.ro_at H401_ 1 rfl)⟩, ?_⟩
     have hq413_ := And.intro (Holds.rd H401_ 0 rfl) (And.intro (Holds.rd H401_ 3 rfl) (And.intro (Holds.rd H401_ 4 rfl) ((Holds.ro_at H401_ 1 rfl))))
     refine A_tk 18 (v := (slc pv i14_ (List.length M) 5)) rfl (by kernel_rfl) (fun w hS => x_sliceRS (l := i14_) (h := (List.length M)) rfl hP underlying22 z26 (by omega) rfl ⟨_, _, rfl, by omega, by omega, by omega⟩) hq413_ ?_
     exact hJ212 _ _ ⟨_, congrArg (fun e => mkA 162 e []) (ch (ch (ch (ch (ch (ch rfl rfl) rfl) rfl) rfl) rfl) rfl), H401_, S402_⟩
    intro hJ209
    refine A_cut #[true, false, true, true, true, false, true, false, false, true, true, false, false, true, true, true, true, true, true, false, false, false, false] 10 (fun a__ w1__ => ∃ h : Env, a__ = mkA 162 (upd (upd (upd (upd (upd (upd (upd h 4 (vQ b7_)) 7 (vQ b27_)) 36 (vQ cb)) 40 (vQ cb)) 42 (vI .i64 (i14_ : Int))) 46 (vA #[(vI .i64 o.w_ID), (Value.string o.w_Key), (Value.string o.w_End), (vB o.w_HasEnd), (vI .i64 o.w_MinRev)])) 54 (slc pv i14_ (List.length M) 5)) [] ∧ Holds w1__ (cl b27_ 42 [(vB false), (vI .i64 0), (vS none 0 0), (vS none 0 0)] :: ro R :: cl cb 59 [pv] :: cl b7_ 42 [(vB false), (vI .i64 0), (vS none 0 0), (vS none 0 0)] :: cl b2_ 29 [(vI .i64 o.kind), (vI .i64 o.w_ID), (Value.string o.w_Key), (Value.string o.w_End), (vB o.w_HasEnd), (vI .i64 o.w_MinRev), (Value.string o.key), (vI .i64 o.cur), (vI .i64 o.compact), o.events] :: F) ∧ Same w w1__) ?_ ?_
    ·rintro _ w414_ ⟨h, rfl, H415_, S416_⟩
     refine A_ready (i := 1) (rs := [5, 11]) (by kernel_rfl) ?_
     refine AllR.cons ?_ ?_
     ·skip
      refine A_op (ls' := #[true, true, true, true, true, false, true, false, false, true, true, false, false, true, true, true, true, true, true, false, false, false, false]) rfl (by kernel_rfl) (T_new (obj := .cells #[] 26) (f := fun b__ => .slice (some ⟨b__, 0, none⟩) 0 0) (A := fun b__ => cl b__ 26 []) (by kernel_rfl) (fun l h => h.alloc _ _) H415_ ?_)
      intro b417_ w418_ S420_ H419_
      have S421_ := Same.trans S416_ S420_
      refine ⟨⟨Holds.rd H419_ 1 rfl, Holds.rd H419_ 4 rfl, Holds.rd H419_ 5 rfl, (Holds.ro_at H419_ 2 rfl)⟩, ?_⟩
      exact hJ208 _ _ ⟨b417_, _, congrArg (fun e => mkA 162 e []) (ch (ch (ch (ch (ch (ch (ch (ch rfl rfl) rfl) rfl) rfl) rfl) rfl) rfl) rfl), H419_, S421_⟩
     refine AllR.cons ?_ ?_
     ·skip
      refine A_op (ls' := #[true, false, true, true, true, true, true, false, false, true, true, false, false, true, true, true, true, true, true, false, false, false, false]) rfl (by kernel_rfl) (T_val (v := pv) (x_load1 rfl underlying22 rfl ((Holds.rd H415_ 2 rfl) 0 pv rfl)) ?_)
      refine ⟨⟨Holds.rd H415_ 0 rfl, Holds.rd H415_ 3 rfl, Holds.rd H415_ 4 rfl, (Holds.ro_at H415_ 1 rfl)⟩, ?_⟩
      have hq422_ := And.intro (Holds.rd H415_ 0 rfl) (And.intro (Holds.rd H415_ 3 rfl) (And.intro (Holds.rd H415_ 4 rfl) ((Holds.ro_at H415_ 1 rfl))))
      refine A_tk 7 (v := (slc pv 0 i14_ 5)) rfl (by kernel_rfl) (fun w hS => x_sliceRS (l := 0) (h := i14_) rfl hP underlying22 z26 (by omega) ⟨_, _, rfl, by omega, by omega, by omega⟩ rfl) hq422_ ?_
      exact hJ212 _ _ ⟨_, congrArg (fun e => mkA 162 e []) (ch (ch (ch (ch (ch (ch rfl rfl) rfl) rfl) rfl) rfl) rfl), H415_, S416_⟩
     refine AllR.cons ?_ AllR.nil
     refine A_op (ls' := #[true, false, true, true, true, false, true, false, false, true, true, true, false, true, true, true, true, true, true, false, false, false, false]) rfl (by kernel_rfl) (T_new (obj := .cells #[(vI .i64 o.w_ID), (Value.string o.w_Key), (Value.string o.w_End), (vB o.w_HasEnd), (vI .i64 o.w_MinRev)] 26) (f := fun b__ => .slice (some ⟨b__, 0, none⟩) 1 1) (A := fun b__ => cl b__ 26 [(vI .i64 o.w_ID), (Value.string o.w_Key), (Value.string o.w_End), (vB o.w_HasEnd), (vI .i64 o.w_MinRev)]) (by kernel_rfl) (fun l h => h.alloc _ _) H415_ ?_)
     intro b423_ w424_ S426_ H425_
     have S427_ := Same.trans S416_ S426_
     refine ⟨⟨Holds.rd H425_ 1 rfl, Holds.rd H425_ 4 rfl, Holds.rd H425_ 5 rfl, (Holds.ro_at H425_ 2 rfl)⟩, ?_⟩
     exact hJ214 _ _ ⟨b423_, _, congrArg (fun e => mkA 162 e []) (ch (ch (ch (ch (ch (ch (ch rfl rfl) rfl) rfl) rfl) rfl) rfl) rfl), H425_, S427_⟩
    intro hJ215
    refine A_cut #[true, true, true, true, true, false, true, false, false, true, true, false, false, true, true, true, false, true, false, false, false, false, false] 11 (fun a__ w1__ => ∃ b49_ : Nat, ∃ h : Env, a__ = mkA 162 (upd (upd (upd (upd (upd (upd (upd (upd (upd h 4 (vQ b7_)) 7 (vQ b27_)) 36 (vQ cb)) 37 (vS (some ⟨b49_, 0, none⟩) 0 0)) 40 (vQ cb)) 42 (vI .i64 (i14_ : Int))) 46 (vA #[(vI .i64 o.w_ID), (Value.string o.w_Key), (Value.string o.w_End), (vB o.w_HasEnd), (vI .i64 o.w_MinRev)])) 51 (vQ cb)) 53 (vI .i64 (i14_ : Int))) [] ∧ Holds w1__ (cl b49_ 26 [] :: cl b27_ 42 [(vB false), (vI .i64 0), (vS none 0 0), (vS none 0 0)] :: ro R :: cl cb 59 [pv] :: cl b7_ 42 [(vB false), (vI .i64 0), (vS none 0 0), (vS none 0 0)] :: cl b2_ 29 [(vI .i64 o.kind), (vI .i64 o.w_ID), (Value.string o.w_Key), (Value.string o.w_End), (vB o.w_HasEnd), (vI .i64 o.w_MinRev), (Value.string o.key), (vI .i64 o.cur), (vI .i64 o.compact), o.events] :: F) ∧ Same w w1__) ?_ ?_
    ·rintro _ w428_ ⟨b49_, h, rfl, H429_, S430_⟩
     refine A_ready (i := 5) (rs := [11, 16]) (by kernel_rfl) ?_
     refine AllR.cons ?_ ?_
     ·skip
      refine A_op (ls' := #[true, true, true, true, true, true, true, false, false, true, true, false, false, true, true, true, false, true, false, false, false, false, false]) rfl (by kernel_rfl) (T_val (v := pv) (x_load1 rfl underlying22 rfl ((Holds.rd H429_ 3 rfl) 0 pv rfl)) ?_)
      refine ⟨⟨Holds.rd H429_ 1 rfl, Holds.rd H429_ 4 rfl, Holds.rd H429_ 5 rfl, (Holds.ro_at H429_ 2 rfl)⟩, ?_⟩
      have hq431_ := And.intro (Holds.rd H429_ 1 rfl) (And.intro (Holds.rd H429_ 4 rfl) (And.intro (Holds.rd H429_ 5 rfl) ((Holds.ro_at H429_ 2 rfl))))
      refine A_tk 7 (v := (slc pv 0 i14_ 5)) rfl (by kernel_rfl) (fun w hS => x_sliceRS (l := 0) (h := i14_) rfl hP underlying22 z26 (by omega) ⟨_, _, rfl, by omega, by omega, by omega⟩ rfl) hq431_ ?_
      exact hJ196 _ _ ⟨b49_, _, congrArg (fun e => mkA 162 e []) (ch (ch (ch (ch (ch (ch (ch (ch rfl rfl) rfl) rfl) rfl) rfl) rfl) rfl) rfl), H429_, S430_⟩
     refine AllR.cons ?_ ?_
     ·skip
      refine A_op (ls' := #[true, true, true, true, true, false, true, false, false, true, true, true, false, true, true, true, false, true, false, false, false, false, false]) rfl (by kernel_rfl) (T_new (obj := .cells #[(vI .i64 o.w_ID), (Value.string o.w_Key), (Value.string o.w_End), (vB o.w_HasEnd), (vI .i64 o.w_MinRev)] 26) (f := fun b__ => .slice (some ⟨b__, 0, none⟩) 1 1) (A := fun b__ => cl b__ 26 [(vI .i64 o.w_ID), (Value.string o.w_Key), (Value.string o.w_End), (vB o.w_HasEnd), (vI .i64 o.w_MinRev)]) (by kernel_rfl) (fun l h => h.alloc _ _) H429_ ?_)
      intro b432_ w433_ S435_ H434_
      have S436_ := Same.trans S430_ S435_
      refine ⟨⟨Holds.rd H434_ 2 rfl, Holds.rd H434_ 5 rfl, Holds.rd H434_ 6 rfl, (Holds.ro_at H434_ 3 rfl)⟩, ?_⟩
      exact hJ206 _ _ ⟨b49_, b432_, _, congrArg (fun e => mkA 162 e []) (ch (ch (ch (ch (ch (ch (ch (ch (ch rfl rfl) rfl) rfl) rfl) rfl) rfl) rfl) rfl) rfl), H434_, S436_⟩
     refine AllR.cons ?_ AllR.nil
     refine A_op (ls' := #[true, true, true, true, true, false, true, false, false, true, true, false, false, true, true, true, true, true, false, false, false, false, false]) rfl (by kernel_rfl) (T_val (v := pv) (x_load1 rfl underlying22 rfl ((Holds.rd H429_ 3 rfl) 0 pv rfl)) ?_)
     refine ⟨⟨Holds.rd H429_ 1 rfl, Holds.rd H429_ 4 rfl, Holds.rd H429_ 5 rfl, (Holds.ro_at H429_ 2 rfl)⟩, ?_⟩
     have hq437_ := And.intro (Holds.rd H429_ 1 rfl) (And.intro (Holds.rd H429_ 4 rfl) (And.intro (Holds.rd H429_ 5 rfl) ((Holds.ro_at H429_ 2 rfl))))
     refine A_tk 18 (v := (slc pv i14_ (List.length M) 5)) rfl (by kernel_rfl) (fun w hS => x_sliceRS (l := i14_) (h := (List.length M)) rfl hP underlying22 z26 (by omega) rfl ⟨_, _, rfl, by omega, by omega, by omega⟩) hq437_ ?_
     exact hJ208 _ _ ⟨b49_, _, congrArg (fun e => mkA 162 e []) (ch (ch (ch (ch (ch (ch (ch (ch rfl rfl) rfl) rfl) rfl) rfl) rfl) rfl) rfl), H429_, S430_⟩
    intro hJ195
    refine A_cut #[true, false, true, true, true, false, true, false, false, true, true, true, false, true, true, true, false, true, false, false, false, false, false] 11 (fun a__ w1__ => ∃ b167_ : Nat, ∃ h : Env, a__ = mkA 162 (upd (upd (upd (upd (upd (upd (upd (upd h 4 (vQ b7_)) 7 (vQ b27_)) 36 (vQ cb)) 40 (vQ cb)) 42 (vI .i64 (i14_ : Int))) 47 (vS (some ⟨b167_, 0, none⟩) 1 1)) 51 (vQ cb)) 53 (vI .i64 (i14_ : Int))) [] ∧ Holds w1__ (cl b167_ 26 [(vI .i64 o.w_ID), (Value.string o.w_Key), (Value.string o.w_End), (vB o.w_HasEnd), (vI .i64 o.w_MinRev)] :: cl b27_ 42 [(vB false), (vI .i64 0), (vS none 0 0), (vS none 0 0)] :: ro R :: cl cb 59 [pv] :: cl b7_ 42 [(vB false), (vI .i64 0), (vS none 0 0), (vS none 0 0)] :: cl b2_ 29 [(vI .i64 o.kind), (vI .i64 o.w_ID), (Value.string o.w_Key), (Value.string o.w_End), (vB o.w_HasEnd), (vI .i64 o.w_MinRev), (Value.string o.key), (vI .i64 o.cur), (vI .i64 o.compact), o.events] :: F) ∧ Same w w1__) ?_ ?_
    ·rintro _ w438_ ⟨b167_, h, rfl, H439_, S440_⟩
     refine A_ready (i := 1) (rs := [5, 16]) (by kernel_rfl) ?_
     refine AllR.cons ?_ ?_
     ·skip
      refine A_op (ls' := #[true, true, true, true, true, false, true, false, false, true, true, true, false, true, true, true, false, true, false, false, false, false, false]) rfl (by kernel_rfl) (T_new (obj := .cells #[] 26) (f := fun b__ => .slice (some ⟨b__, 0, none⟩) 0 0) (A := fun b__ => cl b__ 26 []) (by kernel_rfl) (fun l h => h.alloc _ _) H439_ ?_)
      intro b441_ w442_ S444_ H443_
      have S445_ := Same.trans S440_ S444_
      refine ⟨⟨Holds.rd H443_ 2 rfl, Holds.rd H443_ 5 rfl, Holds.rd H443_ 6 rfl, (Holds.ro_at H443_ 3 rfl)⟩, ?_⟩
      have H446_ := Holds.pkF H443_ [1, 0, 0, 0, 0, 0, 0] 0
      exact hJ206 _ _ ⟨b441_, b167_, _, congrArg (fun e => mkA 162 e []) (ch (ch (ch (ch (ch (ch (ch (ch (ch rfl rfl) rfl) rfl) rfl) rfl) rfl) rfl) rfl) rfl), H446_, S445_⟩
     refine AllR.cons ?_ ?_
     ·skip
      refine A_op (ls' := #[true, false, true, true, true, true, true, false, false, true, true, true, false, true, true, true, false, true, false, false, false, false, false]) rfl (by kernel_rfl) (T_val (v := pv) (x_load1 rfl underlying22 rfl ((Holds.rd H439_ 3 rfl) 0 pv rfl)) ?_)
      refine ⟨⟨Holds.rd H439_ 1 rfl, Holds.rd H439_ 4 rfl, Holds.rd H439_ 5 rfl, (Holds.ro_at H439_ 2 rfl)⟩, ?_⟩
      have hq447_ := And.intro (Holds.rd H439_ 1 rfl) (And.intro (Holds.rd H439_ 4 rfl) (And.intro (Holds.rd H439_ 5 rfl) ((Holds.ro_at H439_ 2 rfl))))
      refine A_tk 7 (v := (slc pv 0 i14_ 5)) rfl (by kernel_rfl) (fun w hS => x_sliceRS (l := 0) (h := i14_) rfl hP underlying22 z26 (by omega) ⟨_, _, rfl, by omega, by omega, by omega⟩ rfl) hq447_ ?_
      exact hJ210 _ _ ⟨b167_, _, congrArg (fun e => mkA 162 e []) (ch (ch (ch (ch (ch (ch (ch rfl rfl) rfl) rfl) rfl) rfl) rfl) rfl), H439_, S440_⟩
     refine AllR.cons ?_ AllR.nil
     refine A_op (ls' := #[true, false, true, true, true, false, true, false, false, true, true, true, false, true, true, true, true, true, false, false, false, false, false]) rfl (by kernel_rfl) (T_val (v := pv) (x_load1 rfl underlying22 rfl ((Holds.rd H439_ 3 rfl) 0 pv rfl)) ?_)
     refine ⟨⟨Holds.rd H439_ 1 rfl, Holds.rd H439_ 4 rfl, Holds.rd H439_ 5 rfl, (Holds.ro_at H439_ 2 rfl)⟩, ?_⟩
     have hq448_ := And.intro (Holds.rd H439_ 1 rfl) (And.intro (Holds.rd H439_ 4 rfl) (And.intro (Holds.rd H439_ 5 rfl) ((Holds.ro_at H439_ 2 rfl))))
     refine A_tk 18 (v := (slc pv i14_ (List.length M) 5)) rfl (by kernel_rfl) (fun w hS => x_sliceRS (l := i14_) (h := (List.length M)) rfl hP underlying22 z26 (by omega) rfl ⟨_, _, rfl, by omega, by omega, by omega⟩) hq448_ ?_
     exact hJ214 _ _ ⟨b167_, _, congrArg (fun e => mkA 162 e []) (ch (ch (ch (ch (ch (ch (ch rfl rfl) rfl) rfl) rfl) rfl) rfl) rfl), H439_, S440_⟩
    intro hJ213
    have hq449_ := And.intro (Holds.rd H47_ 0 rfl) (And.intro (Holds.rd H47_ 3 rfl) (And.intro (Holds.rd H47_ 4 rfl) ((Holds.ro_at H47_ 1 rfl))))
    refine A_tk 0 (v := (vQ cb)) rfl (by kernel_rfl) (fun w hS => x_move rfl) hq449_ ?_
    refine A_tk 2 (v := (vQ cb)) rfl (by kernel_rfl) (fun w hS => x_move rfl) hq449_ ?_
    refine A_tk 3 (v := (vQ cb)) rfl (by kernel_rfl) (fun w hS => by kernel_rfl) hq449_ ?_
    refine A_tk 4 (v := (vQ cb)) rfl (by kernel_rfl) (fun w hS => by kernel_rfl) hq449_ ?_
    refine A_tk 6 (v := (vI .i64 (i14_ : Int))) rfl (by kernel_rfl) (fun w hS => x_move rfl) hq449_ ?_
    refine A_tk 9 (v := (vP (some ⟨b2_, 1, none⟩))) rfl (by kernel_rfl) (fun w hS => by kernel_rfl) hq449_ ?_
    refine A_tk 10 (v := (vA #[(vI .i64 o.w_ID), (Value.string o.w_Key), (Value.string o.w_End), (vB o.w_HasEnd), (vI .i64 o.w_MinRev)])) rfl (by kernel_rfl) (fun w hS => x_loadN (vs := [(vI .i64 o.w_ID), (Value.string o.w_Key), (Value.string o.w_End), (vB o.w_HasEnd), (vI .i64 o.w_MinRev)]) rfl underlying26 rfl z26 rfl (Rd.cells hS.2.2.1 1 rfl)) hq449_ ?_
    refine A_tk 13 (v := (vQ cb)) rfl (by kernel_rfl) (fun w hS => x_move rfl) hq449_ ?_
    refine A_tk 14 (v := (vQ cb)) rfl (by kernel_rfl) (fun w hS => by kernel_rfl) hq449_ ?_
    refine A_tk 15 (v := (vQ cb)) rfl (by kernel_rfl) (fun w hS => by kernel_rfl) hq449_ ?_
    refine A_tk 17 (v := (vI .i64 (i14_ : Int))) rfl (by kernel_rfl) (fun w hS => x_move rfl) hq449_ ?_
    refine A_ready (i := 1) (rs := [5, 11, 16]) (by kernel_rfl) ?_
    refine AllR.cons ?_ ?_
    ·skip
     refine A_op (ls' := #[true, true, true, true, true, false, true, false, false, true, true, false, false, true, true, true, false, true, false, false, false, false, false]) rfl (by kernel_rfl) (T_new (obj := .cells #[] 26) (f := fun b__ => .slice (some ⟨b__, 0, none⟩) 0 0) (A := fun b__ => cl b__ 26 []) (by kernel_rfl) (fun l h => h.alloc _ _) H47_ ?_)
     intro b450_ w451_ S453_ H452_
     have S454_ := Same.trans (Same.trans S31_ (Same.drew _)) S453_
     refine ⟨⟨Holds.rd H452_ 1 rfl, Holds.rd H452_ 4 rfl, Holds.rd H452_ 5 rfl, (Holds.ro_at H452_ 2 rfl)⟩, ?_⟩
     exact hJ195 _ _ ⟨b450_, _, congrArg (fun e => mkA 162 e []) (ch (ch (ch (ch (ch (ch (ch (ch (ch rfl rfl) rfl) rfl) rfl) rfl) rfl) rfl) rfl) rfl), H452_, S454_⟩
    refine AllR.cons ?_ ?_
    ·skip
     refine A_op (ls' := #[true, false, true, true, true, true, true, false, false, true, true, false, false, true, true, true, false, true, false, false, false, false, false]) rfl (by kernel_rfl) (T_val (v := pv) (x_load1 rfl underlying22 rfl ((Holds.rd H47_ 2 rfl) 0 pv rfl)) ?_)
     refine ⟨⟨Holds.rd H47_ 0 rfl, Holds.rd H47_ 3 rfl, Holds.rd H47_ 4 rfl, (Holds.ro_at H47_ 1 rfl)⟩, ?_⟩
     refine A_tk 7 (v := (slc pv 0 i14_ 5)) rfl (by kernel_rfl) (fun w hS => x_sliceRS (l := 0) (h := i14_) rfl hP underlying22 z26 (by omega) ⟨_, _, rfl, by omega, by omega, by omega⟩ rfl) hq449_ ?_
     exact hJ209 _ _ ⟨_, congrArg (fun e => mkA 162 e []) (ch (ch (ch (ch (ch (ch (ch rfl rfl) rfl) rfl) rfl) rfl) rfl) rfl), H47_, (Same.trans S31_ (Same.drew _))⟩
    refine AllR.cons ?_ ?_
    ·skip
     refine A_op (ls' := #[true, false, true, true, true, false, true, false, false, true, true, true, false, true, true, true, false, true, false, false, false, false, false]) rfl (by kernel_rfl) (T_new (obj := .cells #[(vI .i64 o.w_ID), (Value.string o.w_Key), (Value.string o.w_End), (vB o.w_HasEnd), (vI .i64 o.w_MinRev)] 26) (f := fun b__ => .slice (some ⟨b__, 0, none⟩) 1 1) (A := fun b__ => cl b__ 26 [(vI .i64 o.w_ID), (Value.string o.w_Key), (Value.string o.w_End), (vB o.w_HasEnd), (vI .i64 o.w_MinRev)]) (by kernel_rfl) (fun l h => h.alloc _ _) H47_ ?_)
     intro b455_ w456_ S458_ H457_
     have S459_ := Same.trans (Same.trans S31_ (Same.drew _)) S458_
     refine ⟨⟨Holds.rd H457_ 1 rfl, Holds.rd H457_ 4 rfl, Holds.rd H457_ 5 rfl, (Holds.ro_at H457_ 2 rfl)⟩, ?_⟩
     exact hJ213 _ _ ⟨b455_, _, congrArg (fun e => mkA 162 e []) (ch (ch (ch (ch (ch (ch (ch (ch rfl rfl) rfl) rfl) rfl) rfl) rfl) rfl) rfl), H457_, S459_⟩
    refine AllR.cons ?_ AllR.nil
    refine A_op (ls' := #[true, false, true, true, true, false, true, false, false, true, true, false, false, true, true, true, true, true, false, false, false, false, false]) rfl (by kernel_rfl) (T_val (v := pv) (x_load1 rfl underlying22 rfl ((Holds.rd H47_ 2 rfl) 0 pv rfl)) ?_)
    refine ⟨⟨Holds.rd H47_ 0 rfl, Holds.rd H47_ 3 rfl, Holds.rd H47_ 4 rfl, (Holds.ro_at H47_ 1 rfl)⟩, ?_⟩
    refine A_tk 18 (v := (slc pv i14_ (List.length M) 5)) rfl (by kernel_rfl) (fun w hS => x_sliceRS (l := i14_) (h := (List.length M)) rfl hP underlying22 z26 (by omega) rfl ⟨_, _, rfl, by omega, by omega, by omega⟩) hq449_ ?_
    exact hJ215 _ _ ⟨_, congrArg (fun e => mkA 162 e []) (ch (ch (ch (ch (ch (ch (ch rfl rfl) rfl) rfl) rfl) rfl) rfl) rfl), H47_, (Same.trans S31_ (Same.drew _))⟩
 ·have c35_fp : ¬ (o.kind = 1) := of_decide_eq_false c35_f
  omega

set_option maxHeartbeats 16000000 in
theorem crAsk (R : HP) (cb : Nat) (pv : Value) (M : List GW) (o : GO) (hP : RS R 5 pv (List.length M) (M.flatMap GW.cells)) (hMl : M.length ≤ 100000) (hk : o.kind = 3) :
    TriG Tryz.prog 22 #[(vQ cb), (vA #[(vI .i64 o.kind), (vI .i64 o.w_ID), (Value.string o.w_Key), (Value.string o.w_End), (vB o.w_HasEnd), (vI .i64 o.w_MinRev), (Value.string o.key), (vI .i64 o.cur), (vI .i64 o.compact), o.events])] R [cl cb 59 [pv]] (fun R' v__ post__ => v__ = (vA #[(vB (List.any M (fun x => seesB x o.key))), (vI .i64 0), (vS none 0 0), (vS none 0 0)]) ∧ post__ = [cl cb 59 [pv]]) := by
 refine TriG.into (n := 162) (al := [(vQ cb), (vA #[(vI .i64 o.kind), (vI .i64 o.w_ID), (Value.string o.w_Key), (Value.string o.w_End), (vB o.w_HasEnd), (vI .i64 o.w_MinRev), (Value.string o.key), (vI .i64 o.cur), (vI .i64 o.compact), o.events])]) func22 rfl ntmps22 rfl rfl fun w F H => ?_
 refine cr fun _ hK1_ => ?_
 refine S_list (T_box (v := (vA #[(vI .i64 o.kind), (vI .i64 o.w_ID), (Value.string o.w_Key), (Value.string o.w_End), (vB o.w_HasEnd), (vI .i64 o.w_MinRev), (Value.string o.key), (vI .i64 o.cur), (vI .i64 o.compact), o.events])) rfl H ?_)
 intro b2_ w3_ S5_ H4_
 have S6_ := Same.trans (Same.refl w) S5_
 refine S_list (T_alloc z42 H4_ ?_)
 intro b7_ w8_ S10_ H9_
 have S11_ := Same.trans S6_ S10_
 refine wn (hK1_ _ _ ?_)
 refine cr fun _ hK12_ => ?_
 refine sm (vQ cb) ?_
 refine sv (v := (vP (some ⟨b2_, 1, none⟩))) (by kernel_rfl) ?_
 refine sv (v := (vP (some ⟨b2_, 1, none⟩))) (by kernel_rfl) ?_
 refine sv (v := (vI .i64 o.w_ID)) (x_load1 rfl underlying2 rfl ((Holds.rd H9_ 1 rfl) 1 (vI .i64 o.w_ID) rfl)) ?_
 have H20_ := ((Holds.bring (Holds.bring H9_ 3 rfl) 3 rfl) :)
 refine S_list (T_call (al := [(vQ cb), (vI .i64 o.w_ID)]) (pre := [cl cb 59 [pv]]) rfl rfl cb34 (crFind R cb pv M o.w_ID (hP) (hMl)) H20_ ?_)
 rintro v13_ p24_ w21_ ⟨i14_, b15_, rfl, rfl, he16_, he17_, he18_, he19_⟩ S23_ H22_
 have S25_ := Same.trans S11_ S23_
 refine sm (vT #[(vI .i64 (i14_ : Int)), (vB b15_)]) ?_
 refine sv (v := (vI .i64 (i14_ : Int))) (by kernel_rfl) ?_
 refine sv (v := (vB b15_)) (by kernel_rfl) ?_
 refine sv (v := (vI .i64 (i14_ : Int))) (x_assign rfl) ?_
 refine sv (v := (vB b15_)) (x_assign rfl) ?_
 refine wn (hK12_ _ _ ?_)
 refine cr fun _ hK26_ => ?_
 refine S_list (T_alloc z42 H22_ ?_)
 intro b27_ w28_ S30_ H29_
 have S31_ := Same.trans S25_ S30_
 refine wn (hK26_ _ _ ?_)
 refine C_seq (fun _ hK32_ => ?_)
 refine cr fun _ hK33_ => ?_
 refine sv (v := (vQ b2_)) (by kernel_rfl) ?_
 refine sv (v := (vI .i64 o.kind)) (x_load1 rfl underlying3 rfl ((Holds.rd H29_ 4 rfl) 0 (vI .i64 o.kind) rfl)) ?_
 refine wn (hK33_ _ _ ?_)
 refine C_block ?_
 refine cr fun _ hK34_ => ?_
 refine sv (v := (vB (decide (o.kind = 1)))) (x_bin rfl rfl rfl) ?_
 refine sv (v := (vB (decide (o.kind = 1)))) (x_assign rfl) ?_
 refine wn (hK34_ _ _ ?_)
 refine C_cond (b := decide (o.kind = 1)) rfl (fun c35_t => ?_) (fun c35_f => ?_)
 ·have c35_tp : o.kind = 1 := of_decide_eq_true c35_t
  omega
 ·have c35_fp : ¬ (o.kind = 1) := of_decide_eq_false c35_f
  refine cr fun _ hK36_ => ?_
  refine sv (v := (vB (decide (o.kind = 2)))) (x_bin rfl rfl rfl) ?_
  refine sv (v := (vB (decide (o.kind = 2)))) (x_assign rfl) ?_
  refine wn (hK36_ _ _ ?_)
  refine C_cond (b := decide (o.kind = 2)) rfl (fun c37_t => ?_) (fun c37_f => ?_)
  ·have c37_tp : o.kind = 2 := of_decide_eq_true c37_t
   omega
  ·have c37_fp : ¬ (o.kind = 2) := of_decide_eq_false c37_f
   refine C_seq (fun _ hK38_ => ?_)
   refine cr fun _ hK39_ => ?_
   refine sv (v := (vB (decide (o.kind = 3)))) (x_bin rfl rfl rfl) ?_
   refine sv (v := (vB (decide (o.kind = 3)))) (x_assign rfl) ?_
   refine wn (hK39_ _ _ ?_)
   refine C_cond (b := decide (o.kind = 3)) rfl (fun c40_t => ?_) (fun c40_f => ?_)
   ·have c40_tp : o.kind = 3 := of_decide_eq_true c40_t
    refine C_skip (X_then (hK38_ _ _ ?_))
    refine C_condT (congrArg vB c40_t) ?_
    refine C_seq (fun _ hK41_ => ?_)
    refine cr fun _ hK42_ => ?_
    refine sm (vQ cb) ?_
    refine sv (v := (vQ cb)) (by kernel_rfl) ?_
    refine sv (v := (vQ cb)) (by kernel_rfl) ?_
    refine sv (v := pv) (x_load1 rfl underlying22 rfl ((Holds.rd H29_ 2 rfl) 0 pv rfl)) ?_
    refine sv (v := (vI .i64 ((List.length M) : Int))) (x_lenRS rfl hP underlying22) ?_
    refine sm (vI .i64 0) ?_
    refine wn (hK42_ _ _ ?_)
    refine C_block ?_
    have H43_ : Holds w28_ (sl 2 1 (vS none 0 0) (List.length ([] : List Int)) (([] : List Int).map (vI .i64)) :: cl b27_ 42 [(vB false), (vI .i64 0), (vS none 0 0), (vS none 0 0)] :: ro R :: cl cb 59 [pv] :: cl b7_ 42 [(vB false), (vI .i64 0), (vS none 0 0), (vS none 0 0)] :: cl b2_ 29 [(vI .i64 o.kind), (vI .i64 o.w_ID), (Value.string o.w_Key), (Value.string o.w_End), (vB o.w_HasEnd), (vI .i64 o.w_MinRev), (Value.string o.key), (vI .i64 o.cur), (vI .i64 o.compact), o.events] :: F) := Holds.add_nil H29_ 2 1
    have H44_ := Holds.resl H43_ 0 rfl ((by first | rfl | (simp [GW.cells, GO.cells, GA.cells]; done)) : ([] : List Int).map (vI .i64) = (seeN (List.take 0 M) o.key).map (vI .i64)) ((by first | rfl | omega | (simp; done) | (simp; omega)) : (List.length ([] : List Int)) = (List.length (seeN (List.take 0 M) o.key)))
    have H45_ := Holds.recl H44_ 1 rfl ((lcons rfl (lcons rfl (lcons (rfl : (vS none 0 0) = ((vS none 0 0))) rfl))) : [(vB false), (vI .i64 0), (vS none 0 0), (vS none 0 0)] = [(vB false), (vI .i64 0), ((vS none 0 0)), (vS none 0 0)])
    refine C_loop (γ := Nat × Value) (fun x__ a__ w1__ => match x__ with | ⟨j, iv⟩ => ∃ h : Env, a__ = mkA 162 (upd (upd (upd (upd (upd (upd h 3 (vQ b2_)) 4 (vQ b7_)) 7 (vQ b27_)) 89 pv) 90 (vI .i64 ((List.length M) : Int))) 91 (vI .i64 (j : Int))) [] ∧ Holds w1__ (sl 2 1 iv (List.length (seeN (List.take j M) o.key)) ((seeN (List.take j M) o.key).map (vI .i64)) :: cl b27_ 42 [(vB false), (vI .i64 0), iv, (vS none 0 0)] :: ro R :: cl cb 59 [pv] :: cl b7_ 42 [(vB false), (vI .i64 0), (vS none 0 0), (vS none 0 0)] :: cl b2_ 29 [(vI .i64 o.kind), (vI .i64 o.w_ID), (Value.string o.w_Key), (Value.string o.w_End), (vB o.w_HasEnd), (vI .i64 o.w_MinRev), (Value.string o.key), (vI .i64 o.cur), (vI .i64 o.compact), o.events] :: F) ∧ Same w w1__ ∧ (j ≤ M.length)) (fun x__ => match x__ with | ⟨j, iv⟩ => M.length - j) (⟨0, (vS none 0 0)⟩) ⟨_, congrArg (fun e => mkA 162 e []) (ch (ch (ch (ch (ch (ch rfl rfl) rfl) rfl) rfl) rfl) (congrArg (vI .i64) ((by first | rfl | omega | (simp; done) | (simp; omega)) : 0 = (0 : Int)))), H45_, S31_, (by first | assumption | omega | exact rfl)⟩ ?_
    rintro ⟨j, iv⟩ _ w46_ ⟨h, rfl, H47_, S48_, hjj⟩
    refine cr fun _ hK49_ => ?_
    refine sv (v := (vB (decide ((j : Int) < ((List.length M) : Int))))) (x_bin rfl rfl rfl) ?_
    refine wn (hK49_ _ _ ?_)
    refine C_seq (fun _ hK50_ => ?_)
    refine C_cond (b := decide ((j : Int) < ((List.length M) : Int))) rfl (fun c51_t => ?_) (fun c51_f => ?_)
    ·have c51_tp : (j : Int) < ((List.length M) : Int) := of_decide_eq_true c51_t
     refine C_skip (X_then (hK50_ _ _ ?_))
     refine C_seq (fun _ hK52_ => ?_)
     refine C_block ?_
     refine cr fun _ hK53_ => ?_
     obtain ⟨x54_, hx55_, hm56_⟩ := elem_at M j (by omega)
     refine sv (v := (vP (some ⟨(sb pv), so pv + (j * 5 + 0), none⟩))) (x_idxRS (v := pv) rfl hP rfl underlying22 z26 (by omega) (by omega) (by omega : _ = j) rfl) ?_
     refine sv (v := (vA #[(vI .i64 x54_.iD), (Value.string x54_.key), (Value.string x54_.end_), (vB x54_.hasEnd), (vI .i64 x54_.minRev)])) (x_loadN (vs := [(vI .i64 x54_.iD), (Value.string x54_.key), (Value.string x54_.end_), (vB x54_.hasEnd), (vI .i64 x54_.minRev)]) rfl underlying26 rfl z26 rfl (RC.cells (RS.rc hP) (Holds.ro_at H47_ 2 rfl) (j * 5 + 0) (fm_cells GW.len hx55_ (i := 0) rfl))) ?_
     refine S_list (T_alloc z26 H47_ ?_)
     intro b57_ w58_ S60_ H59_
     have S61_ := Same.trans S48_ S60_
     refine S_list0 (T_storeN (vs := [(vI .i64 x54_.iD), (Value.string x54_.key), (Value.string x54_.end_), (vB x54_.hasEnd), (vI .i64 x54_.minRev)]) rfl rfl z26 rfl (by simp [Value.oneCell']) H59_ 0 rfl (Nat.le_of_ble_eq_true (by rfl)) ?_)
     intro w62_ S64_ H63_
     have S65_ := Same.trans S61_ S64_
     refine wn (hK53_ _ _ ?_)
     refine cr fun _ hK66_ => ?_
     refine sv (v := (vA #[(vI .i64 x54_.iD), (Value.string x54_.key), (Value.string x54_.end_), (vB x54_.hasEnd), (vI .i64 x54_.minRev)])) (x_loadN (vs := [(vI .i64 x54_.iD), (Value.string x54_.key), (Value.string x54_.end_), (vB x54_.hasEnd), (vI .i64 x54_.minRev)]) rfl underlying26 rfl z26 rfl (Rd.cells (Holds.rd H63_ 0 rfl) 0 rfl)) ?_
     refine sv (v := (vP (some ⟨b2_, 6, none⟩))) (by kernel_rfl) ?_
     refine sv (v := (Value.string o.key)) (x_load1 rfl underlying9 rfl ((Holds.rd H63_ 6 rfl) 6 (Value.string o.key) rfl)) ?_
     have H68_ := ((Holds.bring H63_ 3 rfl) :)
     refine S_list (T_call (al := [(vA #[(vI .i64 x54_.iD), (Value.string x54_.key), (Value.string x54_.end_), (vB x54_.hasEnd), (vI .i64 x54_.minRev)]), (Value.string o.key)]) (pre := []) rfl rfl cb33 (crSees R x54_ o.key) H68_ ?_)
     rintro v67_ p72_ w69_ ⟨rfl, rfl⟩ S71_ H70_
     have S73_ := Same.trans S65_ S71_
     refine wn (hK66_ _ _ ?_)
     refine C_cond (b := seesB x54_ o.key) rfl (fun c74_t => ?_) (fun c74_f => ?_)
     ·skip
      refine C_reg ?_
      refine sv (v := (vP (some ⟨b27_, 2, none⟩))) (by kernel_rfl) ?_
      refine sv (v := iv) (x_load1 rfl underlying40 rfl ((Holds.rd H70_ 3 rfl) 2 iv rfl)) ?_
      refine sv (v := (vQ b57_)) (by kernel_rfl) ?_
      refine sv (v := (vI .i64 x54_.iD)) (x_load1 rfl underlying2 rfl ((Holds.rd H70_ 1 rfl) 0 (vI .i64 x54_.iD) rfl)) ?_
      refine S_list (T_new (obj := .cells #[(vI .i64 x54_.iD)] 2) (f := fun b__ => .slice (some ⟨b__, 0, none⟩) 1 1) (A := fun b__ => cl b__ 2 [(vI .i64 x54_.iD)]) (by kernel_rfl) (fun l h => h.alloc _ _) H70_ ?_)
      intro b75_ w76_ S78_ H77_
      have S79_ := Same.trans S73_ S78_
      refine S_list (T_append rfl rfl underlying40 z2 rfl (by decide) H77_ 3 rfl (Holds.cl_src H77_ 0 rfl underlying40 (by simp [Value.oneCell']) rfl) (by have h__ := seeN_len (List.take j M) o.key; rw [List.length_take] at h__; omega) ?_)
      intro v80_ w81_ S83_ H82_
      have S84_ := Same.trans S79_ S83_
      refine sv (v := (vP (some ⟨b27_, 2, none⟩))) (by kernel_rfl) ?_
      refine S_list0 (T_store1 (v := v80_) rfl rfl z40 (Holds.sl_one H82_ 3 rfl) H82_ 4 rfl (Nat.le_of_ble_eq_true (by rfl)) ?_)
      intro w85_ S87_ H86_
      have S88_ := Same.trans S84_ S87_
      refine wpList_nil (X_blkN (X_then (hK52_ _ _ ?_)))
      refine C_reg ?_
      refine sv (v := (vI .i64 ((j : Int) + 1))) (x_bin rfl rfl (ib_add (IntWalk.i64_in _ (by omega)))) ?_
      refine sm (vI .i64 ((j : Int) + 1)) ?_
      refine wpList_nil (X_then ?_)
      have H89_ := Holds.resl H86_ 3 rfl (by rw [seeN_snoc hx55_]; simp [c74_t] : ((seeN (List.take j M) o.key).map (vI .i64)) ++ [(vI .i64 x54_.iD)] = (seeN (List.take (j + 1) M) o.key).map (vI .i64)) (by rw [seeN_snoc hx55_]; simp [c74_t] : (List.length (seeN (List.take j M) o.key)) + 1 = (List.length (seeN (List.take (j + 1) M) o.key)))
      have H90_ := Holds.pkF H89_ [3, 3, 1, 2, 2, 2] 2
      exact ⟨⟨j + 1, v80_⟩, ⟨_, congrArg (fun e => mkA 162 e []) (ch (ch (ch (ch (ch (ch rfl rfl) rfl) rfl) rfl) rfl) (congrArg (vI .i64) ((by first | rfl | omega | (simp; done) | (simp; omega)) : (j : Int) + 1 = ((j + 1 : Nat) : Int)))), H90_, S88_, (by first | assumption | omega | exact rfl)⟩, by first | omega | (dsimp only; omega) | (simp; omega)⟩
     ·skip
      refine C_skip (X_blkN (X_then (hK52_ _ _ ?_)))
      refine C_reg ?_
      refine sv (v := (vI .i64 ((j : Int) + 1))) (x_bin rfl rfl (ib_add (IntWalk.i64_in _ (by omega)))) ?_
      refine sm (vI .i64 ((j : Int) + 1)) ?_
      refine wpList_nil (X_then ?_)
      have H91_ := Holds.resl H70_ 2 rfl (by rw [seeN_snoc hx55_]; simp [c74_f] : (seeN (List.take j M) o.key).map (vI .i64) = (seeN (List.take (j + 1) M) o.key).map (vI .i64)) (by rw [seeN_snoc hx55_]; simp [c74_f] : (List.length (seeN (List.take j M) o.key)) = (List.length (seeN (List.take (j + 1) M) o.key)))
      have H92_ := Holds.pkF H91_ [2, 2, 0, 1, 1, 1] 1
      exact ⟨⟨j + 1, iv⟩, ⟨_, congrArg (fun e => mkA 162 e []) (ch (ch (ch (ch (ch (ch rfl rfl) rfl) rfl) rfl) rfl) (congrArg (vI .i64) ((by first | rfl | omega | (simp; done) | (simp; omega)) : (j : Int) + 1 = ((j + 1 : Nat) : Int)))), H92_, S73_, (by first | assumption | omega | exact rfl)⟩, by first | omega | (dsimp only; omega) | (simp; omega)⟩
    ·have c51_fp : ¬ ((j : Int) < ((List.length M) : Int)) := of_decide_eq_false c51_f
     refine C_exit (X_thenX (X_thenX (X_blkHit ?_)))
     refine (X_then (hK41_ _ _ ?_))
     refine cr fun _ hK93_ => ?_
     refine sv (v := (vQ b2_)) (by kernel_rfl) ?_
     refine sv (v := (vI .i64 o.kind)) (x_load1 rfl underlying3 rfl ((Holds.rd H47_ 5 rfl) 0 (vI .i64 o.kind) rfl)) ?_
     refine sv (v := (vB (decide (o.kind = 3)))) (x_bin rfl rfl rfl) ?_
     refine wn (hK93_ _ _ ?_)
     refine C_cond (b := decide (o.kind = 3)) rfl (fun c94_t => ?_) (fun c94_f => ?_)
     ·have c94_tp : o.kind = 3 := of_decide_eq_true c94_t
      refine cr fun _ hK95_ => ?_
      refine sv (v := (vP (some ⟨b27_, 2, none⟩))) (by kernel_rfl) ?_
      refine sv (v := iv) (x_load1 rfl underlying40 rfl ((Holds.rd H47_ 1 rfl) 2 iv rfl)) ?_
      refine sv (v := (vI .i64 ((List.length (seeN (List.take j M) o.key)) : Int))) (x_lenSl rfl H47_ 0 rfl underlying40) ?_
      refine sv (v := (vB (decide (0 < ((List.length (seeN (List.take j M) o.key)) : Int))))) (x_bin rfl rfl rfl) ?_
      refine sv (v := (vA #[(vB (decide (0 < ((List.length (seeN (List.take j M) o.key)) : Int)))), (vI .i64 0), (vS none 0 0), (vS none 0 0)])) (by kernel_rfl) ?_
      refine S_list0 (T_storeN (vs := [(vB (decide (0 < ((List.length (seeN (List.take j M) o.key)) : Int)))), (vI .i64 0), (vS none 0 0), (vS none 0 0)]) rfl rfl z42 rfl (by simp [Value.oneCell']) H47_ 4 rfl (Nat.le_of_ble_eq_true (by rfl)) ?_)
      intro w96_ S98_ H97_
      have S99_ := Same.trans S48_ S98_
      refine wn (hK95_ _ _ ?_)
      refine C_ret (X_blkR (X_thenR ?_))
      refine R_any (v := (vA #[(vB (decide (0 < ((List.length (seeN (List.take j M) o.key)) : Int)))), (vI .i64 0), (vS none 0 0), (vS none 0 0)])) (run_results1 rfl ⟨_, rfl, load_resN underlying42 rfl z42 rfl (vs := [(vB (decide (0 < ((List.length (seeN (List.take j M) o.key)) : Int)))), (vI .i64 0), (vS none 0 0), (vS none 0 0)]) (Holds.cl_cells H97_ 4 rfl 0 rfl)⟩) ?_
      have H100_ := Holds.pkF H97_ [2, 2] 4
      exact ⟨R, _, _, rfl, (Sub.rfl' _), ⟨(congrArg (fun l => vA (List.toArray l)) (lcons (congrArg vB ((by rw [List.take_of_length_le (by omega)]; exact seeN_any M o.key) : (decide (0 < ((List.length (seeN (List.take j M) o.key)) : Int))) = (List.any M (fun x => seesB x o.key)))) rfl)), rfl⟩, S99_, H100_⟩
     ·have c94_fp : ¬ (o.kind = 3) := of_decide_eq_false c94_f
      omega
   ·have c40_fp : ¬ (o.kind = 3) := of_decide_eq_false c40_f
    omega
end Go.Proofs.YtlnihndjepjagaaGreat
set_option linter.unusedVariables false
set_option linter.unusedSimpArgs false
namespace Go.Proofs.YtlnihndjepjagaaGreat
open Go Go.RowKit Gw Tryz
open Go.Value renaming int → vI, bool → vB, slice → vS, pointer → vP, agg → vA, tuple → vT

/-! ### What the guards let in -/
def GoodO (o : GO) : Prop := (o.kind = 1 → WProper (wOf o)) ∧ (o.kind = 3 → o.key.size ≠ 0)
def addOp (x : GW) : GO := ⟨1, x.iD, x.key, x.end_, x.hasEnd, x.minRev, ByteArray.empty, 0, 0, .slice none 0 0⟩
theorem good_snoc {Q : GO → Prop} {L : List GO} {k : Nat} {x : GO} (h : ∀ y ∈ L.take k, Q y) (hx : L[k]? = some x) (hq : Q x) : ∀ y ∈ L.take (k + 1), Q y := by
  rw [gtake hx]
  intro y hy
  rcases List.mem_append.1 hy with hy | hy
  · exact h y hy
  · rw [List.mem_singleton.1 hy]; exact hq
def GSz (x : GW) : Prop := x.key.size ≤ 2147483647 ∧ x.end_.size ≤ 2147483647
theorem gsz_snoc {L : List GW} {k : Nat} {x : GW} (h : ∀ y ∈ L.take k, GSz y) (hx : L[k]? = some x) (hq : GSz x) : ∀ y ∈ L.take (k + 1), GSz y := by
  rw [gtake hx]
  intro y hy
  rcases List.mem_append.1 hy with hy | hy
  · exact h y hy
  · rw [List.mem_singleton.1 hy]; exact hq
theorem ne_size {s : ByteArray} (h : (!(s.toList == (ByteArray.mk #[]).toList)) = true) : s.size ≠ 0 := fun e => by rw [empty_iff.2 e] at h; cases h
theorem nf_size {s : ByteArray} (h : (s.toList == (ByteArray.mk #[]).toList) = false) : s.size ≠ 0 := fun e => by rw [empty_iff.2 e] at h; cases h
/-! ### A group that is alive -/
def kK : ByteArray := ByteArray.mk #[107]
def liveL : List GO := [⟨1, 3, kK, ByteArray.empty, false, 0, ByteArray.empty, 0, 0, .slice none 0 0⟩, ⟨4, 0, ByteArray.empty, ByteArray.empty, false, 0, kK, 0, 0, .slice none 0 0⟩]
theorem liveOk : ∀ k o, liveL[k]? = some o → OpL liveL k o := by
  intro k o h
  match k, h with
  | 0, h =>
    cases h
    exact .inl ⟨rfl, (fun h => by cases h), by decide⟩
  | 1, h =>
    cases h
    exact .inr (.inr ⟨rfl, ⟨3, kK, ByteArray.empty, false, 0⟩, rfl, rfl, rfl, by decide⟩)
  | k + 2, h => simp [liveL] at h
theorem live_ans {R : HP} {A : List GA} (h : AnsL R liveL A) {a : GA} (ha : A[1]? = some a) : RS R 1 a.iDs (List.length [(3 : Int)]) ([(3 : Int)].map (vI .i64)) := by
  obtain ⟨x, h1, h2⟩ := (h 1 _ a rfl ha).2 rfl
  have : gMs (liveL.take 1) = [⟨3, kK, ByteArray.empty, false, 0⟩] := rfl
  rw [this] at h1
  simp only [List.cons.injEq, and_true] at h1
  subst h1
  exact h2
set_option maxHeartbeats 1600000 in
theorem lwProper (R : HP) (x : GW) :
    Tri Tryz.prog 17 #[(vA #[(vI .i64 x.iD), (Value.string x.key), (Value.string x.end_), (vB x.hasEnd), (vI .i64 x.minRev)])] R [] (fun v__ post__ => ∃ (b : Bool), v__ = (vB b) ∧ post__ = [] ∧ (b = true → WProper x)) := by
 refine Tri.into (n := 23) (al := [(vA #[(vI .i64 x.iD), (Value.string x.key), (Value.string x.end_), (vB x.hasEnd), (vI .i64 x.minRev)])]) func17 rfl ntmps17 rfl rfl fun w F H => ?_
 refine cr fun _ hK1_ => ?_
 refine S_list (T_box (v := (vA #[(vI .i64 x.iD), (Value.string x.key), (Value.string x.end_), (vB x.hasEnd), (vI .i64 x.minRev)])) rfl H ?_)
 intro b2_ w3_ S5_ H4_
 have S6_ := Same.trans (Same.refl w) S5_
 refine sv (v := (vB false)) (x_assign rfl) ?_
 refine wn (hK1_ _ _ ?_)
 refine cr fun _ hK7_ => ?_
 refine sv (v := (vP (some ⟨b2_, 3, none⟩))) (by kernel_rfl) ?_
 refine sv (v := (vB x.hasEnd)) (x_load1 rfl underlying4 rfl ((Holds.rd H4_ 0 rfl) 3 (vB x.hasEnd) rfl)) ?_
 refine sv (v := (vB (!x.hasEnd))) (x_not rfl) ?_
 refine sm (vB (!x.hasEnd)) ?_
 rcases Bool.eq_false_or_eq_true (!x.hasEnd) with c8_t | c8_f
 ·skip
  refine S_no (j := 3) (dj := 6) (b := true) rfl rfl (congrArg vB c8_t) (by decide) ?_
  refine S_no (j := 3) (dj := 6) (b := true) rfl rfl (congrArg vB c8_t) (by decide) ?_
  refine S_no (j := 3) (dj := 6) (b := true) rfl rfl (congrArg vB c8_t) (by decide) ?_
  refine S_no (j := 3) (dj := 6) (b := true) rfl rfl (congrArg vB c8_t) (by decide) ?_
  refine S_noU (j := 7) (dj := 10) rfl rfl rfl ?_
  refine S_noU (j := 7) (dj := 10) rfl rfl rfl ?_
  refine S_noU (j := 7) (dj := 10) rfl rfl rfl ?_
  refine S_noU (j := 7) (dj := 10) rfl rfl rfl ?_
  refine S_noU (j := 11) (dj := 14) rfl rfl rfl ?_
  refine S_noU (j := 11) (dj := 14) rfl rfl rfl ?_
  refine S_noU (j := 11) (dj := 14) rfl rfl rfl ?_
  refine S_noU (j := 11) (dj := 14) rfl rfl rfl ?_
  refine S_noU (j := 11) (dj := 14) rfl rfl rfl ?_
  refine S_noU (j := 7) (dj := 10) rfl rfl rfl ?_
  refine S_no (j := 3) (dj := 6) (b := true) rfl rfl (congrArg vB c8_t) (by decide) ?_
  refine S_list (T_pickT (v := (vB true)) (congrArg vB c8_t) rfl ?_)
  refine sv (v := (vB true)) (x_assign rfl) ?_
  refine wn (hK7_ _ _ ?_)
  refine C_ret ?_
  refine R_any (v := (vB true)) (run_results1 rfl rfl) ?_
  have H9_ := Holds.pkF H4_ [1] 1
  exact ⟨_, _, rfl, ⟨true, rfl, rfl, (fun _ hx => by rw [show x.hasEnd = false by simpa using c8_t] at hx; cases hx)⟩, S6_, H9_⟩
 ·skip
  refine S_yes (j := 3) (dj := 6) (b := false) rfl rfl (congrArg vB c8_f) (T_val (v := (vP (some ⟨b2_, 1, none⟩))) (by kernel_rfl) ?_)
  refine S_yes (j := 3) (dj := 6) (b := false) rfl rfl (congrArg vB c8_f) (T_val (v := (Value.string x.key)) (x_load1 rfl underlying9 rfl ((Holds.rd H4_ 0 rfl) 1 (Value.string x.key) rfl)) ?_)
  refine S_yes (j := 3) (dj := 6) (b := false) rfl rfl (congrArg vB c8_f) (T_val (v := (vB (!(x.key.toList == (ByteArray.mk #[]).toList)))) (x_str rfl rfl rfl (by decide)) ?_)
  refine S_yes (j := 3) (dj := 6) (b := false) rfl rfl (congrArg vB c8_f) (T_val (v := (vB (!(x.key.toList == (ByteArray.mk #[]).toList)))) (x_move rfl) ?_)
  rcases Bool.eq_false_or_eq_true (!(x.key.toList == (ByteArray.mk #[]).toList)) with c10_t | c10_f
  ·skip
   refine S_yes (j := 7) (dj := 10) (b := true) rfl rfl (congrArg vB c10_t) (T_val (v := (vP (some ⟨b2_, 2, none⟩))) (by kernel_rfl) ?_)
   refine S_yes (j := 7) (dj := 10) (b := true) rfl rfl (congrArg vB c10_t) (T_val (v := (Value.string x.end_)) (x_load1 rfl underlying9 rfl ((Holds.rd H4_ 0 rfl) 2 (Value.string x.end_) rfl)) ?_)
   refine S_yes (j := 7) (dj := 10) (b := true) rfl rfl (congrArg vB c10_t) (T_val (v := (vB (x.end_.toList == (ByteArray.mk #[]).toList))) (x_str rfl rfl rfl (by decide)) ?_)
   refine S_yes (j := 7) (dj := 10) (b := true) rfl rfl (congrArg vB c10_t) (T_val (v := (vB (x.end_.toList == (ByteArray.mk #[]).toList))) (x_move rfl) ?_)
   rcases Bool.eq_false_or_eq_true (x.end_.toList == (ByteArray.mk #[]).toList) with c11_t | c11_f
   ·skip
    refine S_no (j := 11) (dj := 14) (b := true) rfl rfl (congrArg vB c11_t) (by decide) ?_
    refine S_no (j := 11) (dj := 14) (b := true) rfl rfl (congrArg vB c11_t) (by decide) ?_
    refine S_no (j := 11) (dj := 14) (b := true) rfl rfl (congrArg vB c11_t) (by decide) ?_
    refine S_no (j := 11) (dj := 14) (b := true) rfl rfl (congrArg vB c11_t) (by decide) ?_
    refine S_no (j := 11) (dj := 14) (b := true) rfl rfl (congrArg vB c11_t) (by decide) ?_
    refine S_yes (j := 7) (dj := 10) (b := true) rfl rfl (congrArg vB c10_t) (T_pickT (v := (vB true)) (congrArg vB c11_t) rfl ?_)
    refine S_yes (j := 3) (dj := 6) (b := false) rfl rfl (congrArg vB c8_f) (T_pickT (v := (vB true)) (congrArg vB c10_t) rfl ?_)
    refine S_list (T_pickF (v := (vB true)) (congrArg vB c8_f) rfl ?_)
    refine sv (v := (vB true)) (x_assign rfl) ?_
    refine wn (hK7_ _ _ ?_)
    refine C_ret ?_
    refine R_any (v := (vB true)) (run_results1 rfl rfl) ?_
    have H12_ := Holds.pkF H4_ [1] 1
    exact ⟨_, _, rfl, ⟨true, rfl, rfl, (fun _ _ => ⟨ne_size c10_t, .inl (empty_iff.1 c11_t)⟩)⟩, S6_, H12_⟩
   ·skip
    refine S_yes (j := 11) (dj := 14) (b := false) rfl rfl (congrArg vB c11_f) (T_val (v := (vP (some ⟨b2_, 1, none⟩))) (by kernel_rfl) ?_)
    refine S_yes (j := 11) (dj := 14) (b := false) rfl rfl (congrArg vB c11_f) (T_val (v := (Value.string x.key)) (x_load1 rfl underlying9 rfl ((Holds.rd H4_ 0 rfl) 1 (Value.string x.key) rfl)) ?_)
    refine S_yes (j := 11) (dj := 14) (b := false) rfl rfl (congrArg vB c11_f) (T_val (v := (vP (some ⟨b2_, 2, none⟩))) (by kernel_rfl) ?_)
    refine S_yes (j := 11) (dj := 14) (b := false) rfl rfl (congrArg vB c11_f) (T_val (v := (Value.string x.end_)) (x_load1 rfl underlying9 rfl ((Holds.rd H4_ 0 rfl) 2 (Value.string x.end_) rfl)) ?_)
    refine S_yes (j := 11) (dj := 14) (b := false) rfl rfl (congrArg vB c11_f) (T_val (v := (vB (Op.bytesLess x.key.toList x.end_.toList))) (x_str rfl rfl rfl (by decide)) ?_)
    refine S_yes (j := 7) (dj := 10) (b := true) rfl rfl (congrArg vB c10_t) (T_pickF (v := (vB (Op.bytesLess x.key.toList x.end_.toList))) (congrArg vB c11_f) rfl ?_)
    refine S_yes (j := 3) (dj := 6) (b := false) rfl rfl (congrArg vB c8_f) (T_pickT (v := (vB (Op.bytesLess x.key.toList x.end_.toList))) (congrArg vB c10_t) rfl ?_)
    refine S_list (T_pickF (v := (vB (Op.bytesLess x.key.toList x.end_.toList))) (congrArg vB c8_f) rfl ?_)
    refine sv (v := (vB (Op.bytesLess x.key.toList x.end_.toList))) (x_assign rfl) ?_
    refine wn (hK7_ _ _ ?_)
    refine C_ret ?_
    refine R_any (v := (vB (Op.bytesLess x.key.toList x.end_.toList))) (run_results1 rfl rfl) ?_
    have H13_ := Holds.pkF H4_ [1] 1
    exact ⟨_, _, rfl, ⟨Op.bytesLess x.key.toList x.end_.toList, rfl, rfl, (fun h _ => ⟨ne_size c10_t, .inr h⟩)⟩, S6_, H13_⟩
  ·skip
   refine S_no (j := 7) (dj := 10) (b := false) rfl rfl (congrArg vB c10_f) (by decide) ?_
   refine S_no (j := 7) (dj := 10) (b := false) rfl rfl (congrArg vB c10_f) (by decide) ?_
   refine S_no (j := 7) (dj := 10) (b := false) rfl rfl (congrArg vB c10_f) (by decide) ?_
   refine S_no (j := 7) (dj := 10) (b := false) rfl rfl (congrArg vB c10_f) (by decide) ?_
   refine S_noU (j := 11) (dj := 14) rfl rfl rfl ?_
   refine S_noU (j := 11) (dj := 14) rfl rfl rfl ?_
   refine S_noU (j := 11) (dj := 14) rfl rfl rfl ?_
   refine S_noU (j := 11) (dj := 14) rfl rfl rfl ?_
   refine S_noU (j := 11) (dj := 14) rfl rfl rfl ?_
   refine S_no (j := 7) (dj := 10) (b := false) rfl rfl (congrArg vB c10_f) (by decide) ?_
   refine S_yes (j := 3) (dj := 6) (b := false) rfl rfl (congrArg vB c8_f) (T_pickF (v := (vB false)) (congrArg vB c10_f) rfl ?_)
   refine S_list (T_pickF (v := (vB false)) (congrArg vB c8_f) rfl ?_)
   refine sv (v := (vB false)) (x_assign rfl) ?_
   refine wn (hK7_ _ _ ?_)
   refine C_ret ?_
   refine R_any (v := (vB false)) (run_results1 rfl rfl) ?_
   have H14_ := Holds.pkF H4_ [1] 1
   exact ⟨_, _, rfl, ⟨false, rfl, rfl, (fun h => by cases h)⟩, S6_, H14_⟩

set_option maxHeartbeats 1600000 in
theorem lwF17 (R : HP) (x : GW) :
    Tri Tryz.prog 21 #[(vA #[(vI .i64 x.iD), (Value.string x.key), (Value.string x.end_), (vB x.hasEnd), (vI .i64 x.minRev)])] R [] (fun v__ post__ => ∃ (b : Bool), v__ = (vB b) ∧ post__ = [] ∧ (b = true → GSz x)) := by
 refine Tri.into (n := 11) (al := [(vA #[(vI .i64 x.iD), (Value.string x.key), (Value.string x.end_), (vB x.hasEnd), (vI .i64 x.minRev)])]) func21 rfl ntmps21 rfl rfl fun w F H => ?_
 refine cr fun _ hK1_ => ?_
 refine S_list (T_box (v := (vA #[(vI .i64 x.iD), (Value.string x.key), (Value.string x.end_), (vB x.hasEnd), (vI .i64 x.minRev)])) rfl H ?_)
 intro b2_ w3_ S5_ H4_
 have S6_ := Same.trans (Same.refl w) S5_
 refine sv (v := (vB false)) (x_assign rfl) ?_
 refine wn (hK1_ _ _ ?_)
 refine C_seq (fun _ hK7_ => ?_)
 refine cr fun _ hK8_ => ?_
 refine sv (v := (vP (some ⟨b2_, 1, none⟩))) (by kernel_rfl) ?_
 refine sv (v := (Value.string x.key)) (x_load1 rfl underlying9 rfl ((Holds.rd H4_ 0 rfl) 1 (Value.string x.key) rfl)) ?_
 refine sv (v := (vI .i64 (x.key.size : Int))) (x_lenT rfl underlying9) ?_
 refine sv (v := (vB (decide (2147483647 < (x.key.size : Int))))) (x_bin rfl rfl rfl) ?_
 refine wn (hK8_ _ _ ?_)
 refine C_cond (b := decide (2147483647 < (x.key.size : Int))) rfl (fun c9_t => ?_) (fun c9_f => ?_)
 ·have c9_tp : 2147483647 < (x.key.size : Int) := of_decide_eq_true c9_t
  refine cr fun _ hK10_ => ?_
  refine sv (v := (vB false)) (x_assign rfl) ?_
  refine wn (hK10_ _ _ ?_)
  refine C_ret (X_thenR ?_)
  refine R_any (v := (vB false)) (run_results1 rfl rfl) ?_
  have H11_ := Holds.pkF H4_ [1] 1
  exact ⟨_, _, rfl, ⟨false, rfl, rfl, (fun h => by cases h)⟩, S6_, H11_⟩
 ·have c9_fp : ¬ (2147483647 < (x.key.size : Int)) := of_decide_eq_false c9_f
  refine C_skip (X_then (hK7_ _ _ ?_))
  refine C_seq (fun _ hK12_ => ?_)
  refine cr fun _ hK13_ => ?_
  refine sv (v := (vP (some ⟨b2_, 2, none⟩))) (by kernel_rfl) ?_
  refine sv (v := (Value.string x.end_)) (x_load1 rfl underlying9 rfl ((Holds.rd H4_ 0 rfl) 2 (Value.string x.end_) rfl)) ?_
  refine sv (v := (vI .i64 (x.end_.size : Int))) (x_lenT rfl underlying9) ?_
  refine sv (v := (vB (decide (2147483647 < (x.end_.size : Int))))) (x_bin rfl rfl rfl) ?_
  refine wn (hK13_ _ _ ?_)
  refine C_cond (b := decide (2147483647 < (x.end_.size : Int))) rfl (fun c14_t => ?_) (fun c14_f => ?_)
  ·have c14_tp : 2147483647 < (x.end_.size : Int) := of_decide_eq_true c14_t
   refine cr fun _ hK15_ => ?_
   refine sv (v := (vB false)) (x_assign rfl) ?_
   refine wn (hK15_ _ _ ?_)
   refine C_ret (X_thenR ?_)
   refine R_any (v := (vB false)) (run_results1 rfl rfl) ?_
   have H16_ := Holds.pkF H4_ [1] 1
   exact ⟨_, _, rfl, ⟨false, rfl, rfl, (fun h => by cases h)⟩, S6_, H16_⟩
  ·have c14_fp : ¬ (2147483647 < (x.end_.size : Int)) := of_decide_eq_false c14_f
   refine C_skip (X_then (hK12_ _ _ ?_))
   refine cr fun _ hK17_ => ?_
   refine sv (v := (vB true)) (x_assign rfl) ?_
   refine wn (hK17_ _ _ ?_)
   refine C_ret ?_
   refine R_any (v := (vB true)) (run_results1 rfl rfl) ?_
   have H18_ := Holds.pkF H4_ [1] 1
   exact ⟨_, _, rfl, ⟨true, rfl, rfl, (fun _ => ⟨by omega, by omega⟩)⟩, S6_, H18_⟩

set_option maxHeartbeats 1600000 in
theorem lwF20 (R : HP) (v : Value) (l : List GW) (hv : RS R 5 v (List.length l) (l.flatMap GW.cells)) :
    Tri Tryz.prog 6 #[v] R [] (fun v__ post__ => ∃ (b : Bool), v__ = (vB b) ∧ post__ = [] ∧ (b = true → l.length ≤ 2147483647 ∧ ∀ s ∈ l, GSz s)) := by
 refine Tri.into (n := 18) (al := [v]) func6 rfl ntmps6 rfl rfl fun w F H => ?_
 refine cr fun _ hK1_ => ?_
 refine sv (v := (vB false)) (x_assign rfl) ?_
 refine wn (hK1_ _ _ ?_)
 refine C_seq (fun _ hK2_ => ?_)
 refine cr fun _ hK3_ => ?_
 refine sv (v := v) (x_move rfl) ?_
 refine sv (v := (vI .i64 ((List.length l) : Int))) (x_lenRS rfl hv underlying22) ?_
 refine sv (v := (vB (decide (2147483647 < ((List.length l) : Int))))) (x_bin rfl rfl rfl) ?_
 refine wn (hK3_ _ _ ?_)
 refine C_cond (b := decide (2147483647 < ((List.length l) : Int))) rfl (fun c4_t => ?_) (fun c4_f => ?_)
 ·have c4_tp : 2147483647 < ((List.length l) : Int) := of_decide_eq_true c4_t
  refine cr fun _ hK5_ => ?_
  refine sv (v := (vB false)) (x_assign rfl) ?_
  refine wn (hK5_ _ _ ?_)
  refine C_ret (X_thenR ?_)
  refine R_any (v := (vB false)) (run_results1 rfl rfl) ?_
  exact ⟨_, _, rfl, ⟨false, rfl, rfl, (fun h => by cases h)⟩, (Same.refl w), H⟩
 ·have c4_fp : ¬ (2147483647 < ((List.length l) : Int)) := of_decide_eq_false c4_f
  refine C_skip (X_then (hK2_ _ _ ?_))
  refine C_seq (fun _ hK6_ => ?_)
  refine cr fun _ hK7_ => ?_
  refine sv (v := v) (x_move rfl) ?_
  refine sv (v := (vI .i64 ((List.length l) : Int))) (x_lenRS rfl hv underlying22) ?_
  refine sm (vI .i64 0) ?_
  refine wn (hK7_ _ _ ?_)
  refine C_block ?_
  refine C_loop (γ := Nat × Bool) (fun x__ a__ w1__ => match x__ with | ⟨k, t2_v⟩ => ∃ h : Env, a__ = mkA 18 (upd (upd (upd (upd h 2 (vB t2_v)) 8 v) 9 (vI .i64 ((List.length l) : Int))) 10 (vI .i64 (k : Int))) [] ∧ Holds w1__ (ro R :: F) ∧ Same w w1__ ∧ (k ≤ l.length) ∧ (∀ s ∈ l.take k, GSz s)) (fun x__ => match x__ with | ⟨k, t2_v⟩ => l.length - k) (⟨0, false⟩) ⟨_, congrArg (fun e => mkA 18 e []) (ch (ch (ch (ch rfl rfl) rfl) rfl) (congrArg (vI .i64) ((by first | rfl | omega | (simp; done) | (simp; omega)) : 0 = (0 : Int)))), H, (Same.refl w), (by first | assumption | omega | exact rfl), (fun s h => by simp at h)⟩ ?_
  rintro ⟨k, t2_v⟩ _ w8_ ⟨h, rfl, H9_, S10_, hkk, hok⟩
  refine cr fun _ hK11_ => ?_
  refine sv (v := (vB (decide ((k : Int) < ((List.length l) : Int))))) (x_bin rfl rfl rfl) ?_
  refine wn (hK11_ _ _ ?_)
  refine C_seq (fun _ hK12_ => ?_)
  refine C_cond (b := decide ((k : Int) < ((List.length l) : Int))) rfl (fun c13_t => ?_) (fun c13_f => ?_)
  ·have c13_tp : (k : Int) < ((List.length l) : Int) := of_decide_eq_true c13_t
   refine C_skip (X_then (hK12_ _ _ ?_))
   refine C_seq (fun _ hK14_ => ?_)
   refine C_block ?_
   refine cr fun _ hK15_ => ?_
   obtain ⟨x16_, hx17_, hm18_⟩ := elem_at l k (by omega)
   refine sv (v := (vP (some ⟨(sb v), so v + (k * 5 + 0), none⟩))) (x_idxRS (v := v) rfl hv rfl underlying22 z26 (by omega) (by omega) (by omega : _ = k) rfl) ?_
   refine sv (v := (vA #[(vI .i64 x16_.iD), (Value.string x16_.key), (Value.string x16_.end_), (vB x16_.hasEnd), (vI .i64 x16_.minRev)])) (x_loadN (vs := [(vI .i64 x16_.iD), (Value.string x16_.key), (Value.string x16_.end_), (vB x16_.hasEnd), (vI .i64 x16_.minRev)]) rfl underlying26 rfl z26 rfl (RC.cells (RS.rc hv) (Holds.ro_at H9_ 0 rfl) (k * 5 + 0) (fm_cells GW.len hx17_ (i := 0) rfl))) ?_
   refine S_list (T_alloc z26 H9_ ?_)
   intro b19_ w20_ S22_ H21_
   have S23_ := Same.trans S10_ S22_
   refine S_list0 (T_storeN (vs := [(vI .i64 x16_.iD), (Value.string x16_.key), (Value.string x16_.end_), (vB x16_.hasEnd), (vI .i64 x16_.minRev)]) rfl rfl z26 rfl (by simp [Value.oneCell']) H21_ 0 rfl (Nat.le_of_ble_eq_true (by rfl)) ?_)
   intro w24_ S26_ H25_
   have S27_ := Same.trans S23_ S26_
   refine wn (hK15_ _ _ ?_)
   refine cr fun _ hK28_ => ?_
   refine sv (v := (vA #[(vI .i64 x16_.iD), (Value.string x16_.key), (Value.string x16_.end_), (vB x16_.hasEnd), (vI .i64 x16_.minRev)])) (x_loadN (vs := [(vI .i64 x16_.iD), (Value.string x16_.key), (Value.string x16_.end_), (vB x16_.hasEnd), (vI .i64 x16_.minRev)]) rfl underlying26 rfl z26 rfl (Rd.cells (Holds.rd H25_ 0 rfl) 0 rfl)) ?_
   have H32_ := ((Holds.bring H25_ 1 rfl) :)
   refine S_list (T_call (al := [(vA #[(vI .i64 x16_.iD), (Value.string x16_.key), (Value.string x16_.end_), (vB x16_.hasEnd), (vI .i64 x16_.minRev)])]) (pre := []) rfl rfl cb21 (lwF17 R x16_) H32_ ?_)
   rintro v29_ p36_ w33_ ⟨b30_, rfl, rfl, he31_⟩ S35_ H34_
   have S37_ := Same.trans S27_ S35_
   refine sv (v := (vB (!b30_))) (x_not rfl) ?_
   refine wn (hK28_ _ _ ?_)
   refine C_cond (b := !b30_) rfl (fun c38_t => ?_) (fun c38_f => ?_)
   ·skip
    refine cr fun _ hK39_ => ?_
    refine sv (v := (vB false)) (x_assign rfl) ?_
    refine wn (hK39_ _ _ ?_)
    refine C_ret (X_blkR (X_thenR (X_thenR (X_blkR (X_thenR ?_)))))
    refine R_any (v := (vB false)) (run_results1 rfl rfl) ?_
    have H40_ := Holds.pkF H34_ [0] 1
    exact ⟨_, _, rfl, ⟨false, rfl, rfl, (fun h => by cases h)⟩, S37_, H40_⟩
   ·skip
    refine C_skip (X_blkN (X_then (hK14_ _ _ ?_)))
    refine C_reg ?_
    refine sv (v := (vI .i64 ((k : Int) + 1))) (x_bin rfl rfl (ib_add (IntWalk.i64_in _ (by omega)))) ?_
    refine sm (vI .i64 ((k : Int) + 1)) ?_
    refine wpList_nil (X_then ?_)
    have H41_ := Holds.pkF H34_ [0] 1
    exact ⟨⟨k + 1, t2_v⟩, ⟨_, congrArg (fun e => mkA 18 e []) (ch (ch (ch (ch rfl rfl) rfl) rfl) (congrArg (vI .i64) ((by first | rfl | omega | (simp; done) | (simp; omega)) : (k : Int) + 1 = ((k + 1 : Nat) : Int)))), H41_, S37_, (by first | assumption | omega | exact rfl), (gsz_snoc hok hx17_ (he31_ (by simpa using c38_f)))⟩, by first | omega | (dsimp only; omega) | (simp; omega)⟩
  ·have c13_fp : ¬ ((k : Int) < ((List.length l) : Int)) := of_decide_eq_false c13_f
   refine C_exit (X_thenX (X_thenX (X_blkHit ?_)))
   refine (X_then (hK6_ _ _ ?_))
   refine cr fun _ hK42_ => ?_
   refine sv (v := (vB true)) (x_assign rfl) ?_
   refine wn (hK42_ _ _ ?_)
   refine C_ret ?_
   refine R_any (v := (vB true)) (run_results1 rfl rfl) ?_
   exact ⟨_, _, rfl, ⟨true, rfl, rfl, (fun _ => ⟨by omega, fun s hm => hok s (by rw [List.take_of_length_le (by omega)]; exact hm)⟩)⟩, S10_, H9_⟩

set_option maxHeartbeats 16000000 in
theorem lwGood (R : HP) (v : Value) (L : List GO) (hv : RS R 10 v (List.length L) (L.flatMap GO.cells)) (hev : ∀ o ∈ L, o.events = .slice none 0 0) (hl : L.length ≤ 1000000000000) :
    Tri Tryz.prog 10 #[v] R [] (fun v__ post__ => ∃ (b : Bool), v__ = (vB b) ∧ post__ = [] ∧ (b = true → L.length ≤ 200 ∧ ∀ o ∈ L, GoodO o)) := by
 refine Tri.into (n := 67) (al := [v]) func10 rfl ntmps10 rfl rfl fun w F H => ?_
 refine cr fun _ hK1_ => ?_
 refine sv (v := (vB false)) (x_assign rfl) ?_
 refine wn (hK1_ _ _ ?_)
 refine C_seq (fun _ hK2_ => ?_)
 refine cr fun _ hK3_ => ?_
 refine sv (v := v) (x_move rfl) ?_
 refine sv (v := (vI .i64 ((List.length L) : Int))) (x_lenRS rfl hv underlying32) ?_
 refine sv (v := (vB (decide (200 < ((List.length L) : Int))))) (x_bin rfl rfl rfl) ?_
 refine wn (hK3_ _ _ ?_)
 refine C_cond (b := decide (200 < ((List.length L) : Int))) rfl (fun c4_t => ?_) (fun c4_f => ?_)
 ·have c4_tp : 200 < ((List.length L) : Int) := of_decide_eq_true c4_t
  refine cr fun _ hK5_ => ?_
  refine sv (v := (vB false)) (x_assign rfl) ?_
  refine wn (hK5_ _ _ ?_)
  refine C_ret (X_thenR ?_)
  refine R_any (v := (vB false)) (run_results1 rfl rfl) ?_
  exact ⟨_, _, rfl, ⟨false, rfl, rfl, (fun h => by cases h)⟩, (Same.refl w), H⟩
 ·have c4_fp : ¬ (200 < ((List.length L) : Int)) := of_decide_eq_false c4_f
  refine C_skip (X_then (hK2_ _ _ ?_))
  refine C_seq (fun _ hK6_ => ?_)
  refine cr fun _ hK7_ => ?_
  refine sv (v := v) (x_move rfl) ?_
  refine sv (v := (vI .i64 ((List.length L) : Int))) (x_lenRS rfl hv underlying32) ?_
  refine sm (vI .i64 0) ?_
  refine wn (hK7_ _ _ ?_)
  refine C_block ?_
  refine C_loop (γ := Nat × Bool) (fun x__ a__ w1__ => match x__ with | ⟨k, s2_v⟩ => ∃ h : Env, a__ = mkA 67 (upd (upd (upd (upd h 2 (vB s2_v)) 10 v) 11 (vI .i64 ((List.length L) : Int))) 12 (vI .i64 (k : Int))) [] ∧ Holds w1__ (ro R :: F) ∧ Same w w1__ ∧ (k ≤ L.length) ∧ (∀ o ∈ L.take k, GoodO o)) (fun x__ => match x__ with | ⟨k, s2_v⟩ => L.length - k) (⟨0, false⟩) ⟨_, congrArg (fun e => mkA 67 e []) (ch (ch (ch (ch rfl rfl) rfl) rfl) (congrArg (vI .i64) ((by first | rfl | omega | (simp; done) | (simp; omega)) : 0 = (0 : Int)))), H, (Same.refl w), (by first | assumption | omega | exact rfl), (fun o h => by simp at h)⟩ ?_
  rintro ⟨k, s2_v⟩ _ w8_ ⟨h, rfl, H9_, S10_, hkk, hok⟩
  refine cr fun _ hK11_ => ?_
  refine sv (v := (vB (decide ((k : Int) < ((List.length L) : Int))))) (x_bin rfl rfl rfl) ?_
  refine wn (hK11_ _ _ ?_)
  refine C_seq (fun _ hK12_ => ?_)
  refine C_cond (b := decide ((k : Int) < ((List.length L) : Int))) rfl (fun c13_t => ?_) (fun c13_f => ?_)
  ·have c13_tp : (k : Int) < ((List.length L) : Int) := of_decide_eq_true c13_t
   refine C_skip (X_then (hK12_ _ _ ?_))
   refine C_seq (fun _ hK14_ => ?_)
   refine C_block ?_
   refine cr fun _ hK15_ => ?_
   obtain ⟨x16_, hx17_, hm18_⟩ := elem_at L k (by omega)
   have hp19_ := hev x16_ hm18_
   have hev20_ := hev x16_ hm18_
   refine sv (v := (vP (some ⟨(sb v), so v + (k * 10 + 0), none⟩))) (x_idxRS (v := v) rfl hv rfl underlying32 z29 (by omega) (by omega) (by omega : _ = k) rfl) ?_
   refine sv (v := (vA #[(vI .i64 x16_.kind), (vI .i64 x16_.w_ID), (Value.string x16_.w_Key), (Value.string x16_.w_End), (vB x16_.w_HasEnd), (vI .i64 x16_.w_MinRev), (Value.string x16_.key), (vI .i64 x16_.cur), (vI .i64 x16_.compact), x16_.events])) (x_loadN (vs := [(vI .i64 x16_.kind), (vI .i64 x16_.w_ID), (Value.string x16_.w_Key), (Value.string x16_.w_End), (vB x16_.w_HasEnd), (vI .i64 x16_.w_MinRev), (Value.string x16_.key), (vI .i64 x16_.cur), (vI .i64 x16_.compact), x16_.events]) rfl underlying29 rfl z29 rfl (RC.cells (RS.rc hv) (Holds.ro_at H9_ 0 rfl) (k * 10 + 0) (fm_cells GO.len hx17_ (i := 0) rfl))) ?_
   refine S_list (T_alloc z29 H9_ ?_)
   intro b21_ w22_ S24_ H23_
   have S25_ := Same.trans S10_ S24_
   refine S_list0 (T_storeN (vs := [(vI .i64 x16_.kind), (vI .i64 x16_.w_ID), (Value.string x16_.w_Key), (Value.string x16_.w_End), (vB x16_.w_HasEnd), (vI .i64 x16_.w_MinRev), (Value.string x16_.key), (vI .i64 x16_.cur), (vI .i64 x16_.compact), x16_.events]) rfl rfl z29 rfl (List.forall_mem_cons.2 ⟨rfl, (List.forall_mem_cons.2 ⟨rfl, (List.forall_mem_cons.2 ⟨rfl, (List.forall_mem_cons.2 ⟨rfl, (List.forall_mem_cons.2 ⟨rfl, (List.forall_mem_cons.2 ⟨rfl, (List.forall_mem_cons.2 ⟨rfl, (List.forall_mem_cons.2 ⟨rfl, (List.forall_mem_cons.2 ⟨rfl, (List.forall_mem_cons.2 ⟨(by rw [hev20_]; rfl), (fun _ h__ => by cases h__)⟩)⟩)⟩)⟩)⟩)⟩)⟩)⟩)⟩)⟩) H23_ 0 rfl (Nat.le_of_ble_eq_true (by rfl)) ?_)
   intro w26_ S28_ H27_
   have S29_ := Same.trans S25_ S28_
   refine wn (hK15_ _ _ ?_)
   refine C_seq (fun _ hK30_ => ?_)
   refine cr fun _ hK31_ => ?_
   refine sv (v := (vQ b21_)) (by kernel_rfl) ?_
   refine sv (v := (vI .i64 x16_.kind)) (x_load1 rfl underlying3 rfl ((Holds.rd H27_ 0 rfl) 0 (vI .i64 x16_.kind) rfl)) ?_
   refine sv (v := (vB (decide (x16_.kind < 1)))) (x_bin rfl rfl rfl) ?_
   refine sm (vB (decide (x16_.kind < 1))) ?_
   rcases Bool.eq_false_or_eq_true (decide (x16_.kind < 1)) with c32_t | c32_f
   ·have c32_tp : x16_.kind < 1 := of_decide_eq_true c32_t
    refine S_no (j := 3) (dj := 19) (b := true) rfl rfl (congrArg vB c32_t) (by decide) ?_
    refine S_no (j := 3) (dj := 19) (b := true) rfl rfl (congrArg vB c32_t) (by decide) ?_
    refine S_no (j := 3) (dj := 19) (b := true) rfl rfl (congrArg vB c32_t) (by decide) ?_
    refine S_list (T_pickT (v := (vB true)) (congrArg vB c32_t) rfl ?_)
    refine sm (vB true) ?_
    refine S_no (j := 8) (dj := 24) (b := true) rfl rfl rfl (by decide) ?_
    refine S_no (j := 8) (dj := 24) (b := true) rfl rfl rfl (by decide) ?_
    refine S_no (j := 8) (dj := 24) (b := true) rfl rfl rfl (by decide) ?_
    refine S_no (j := 8) (dj := 24) (b := true) rfl rfl rfl (by decide) ?_
    refine S_list (T_pickT (v := (vB true)) rfl rfl ?_)
    refine sm (vB true) ?_
    refine S_no (j := 14) (dj := 30) (b := true) rfl rfl rfl (by decide) ?_
    refine S_no (j := 14) (dj := 30) (b := true) rfl rfl rfl (by decide) ?_
    refine S_no (j := 14) (dj := 30) (b := true) rfl rfl rfl (by decide) ?_
    refine S_no (j := 14) (dj := 30) (b := true) rfl rfl rfl (by decide) ?_
    refine S_noU (j := 18) (dj := 34) rfl rfl rfl ?_
    refine S_noU (j := 18) (dj := 34) rfl rfl rfl ?_
    refine S_noU (j := 18) (dj := 34) rfl rfl rfl ?_
    refine S_noU (j := 18) (dj := 34) rfl rfl rfl ?_
    refine S_no (j := 14) (dj := 30) (b := true) rfl rfl rfl (by decide) ?_
    refine S_list (T_pickT (v := (vB true)) rfl rfl ?_)
    refine wn (hK31_ _ _ ?_)
    refine C_condT rfl ?_
    refine cr fun _ hK33_ => ?_
    refine sv (v := (vB false)) (x_assign rfl) ?_
    refine wn (hK33_ _ _ ?_)
    refine C_ret (X_thenR (X_blkR (X_thenR (X_thenR (X_blkR (X_thenR ?_))))))
    refine R_any (v := (vB false)) (run_results1 rfl rfl) ?_
    have H34_ := Holds.pkF H27_ [1] 1
    exact ⟨_, _, rfl, ⟨false, rfl, rfl, (fun h => by cases h)⟩, S29_, H34_⟩
   ·have c32_fp : ¬ (x16_.kind < 1) := of_decide_eq_false c32_f
    refine S_yes (j := 3) (dj := 19) (b := false) rfl rfl (congrArg vB c32_f) (T_val (v := (vQ b21_)) (by kernel_rfl) ?_)
    refine S_yes (j := 3) (dj := 19) (b := false) rfl rfl (congrArg vB c32_f) (T_val (v := (vI .i64 x16_.kind)) (x_load1 rfl underlying3 rfl ((Holds.rd H27_ 0 rfl) 0 (vI .i64 x16_.kind) rfl)) ?_)
    refine S_yes (j := 3) (dj := 19) (b := false) rfl rfl (congrArg vB c32_f) (T_val (v := (vB (decide (7 < x16_.kind)))) (x_bin rfl rfl rfl) ?_)
    refine S_list (T_pickF (v := (vB (decide (7 < x16_.kind)))) (congrArg vB c32_f) rfl ?_)
    refine sm (vB (decide (7 < x16_.kind))) ?_
    rcases Bool.eq_false_or_eq_true (decide (7 < x16_.kind)) with c35_t | c35_f
    ·have c35_tp : 7 < x16_.kind := of_decide_eq_true c35_t
     refine S_no (j := 8) (dj := 24) (b := true) rfl rfl (congrArg vB c35_t) (by decide) ?_
     refine S_no (j := 8) (dj := 24) (b := true) rfl rfl (congrArg vB c35_t) (by decide) ?_
     refine S_no (j := 8) (dj := 24) (b := true) rfl rfl (congrArg vB c35_t) (by decide) ?_
     refine S_no (j := 8) (dj := 24) (b := true) rfl rfl (congrArg vB c35_t) (by decide) ?_
     refine S_list (T_pickT (v := (vB true)) (congrArg vB c35_t) rfl ?_)
     refine sm (vB true) ?_
     refine S_no (j := 14) (dj := 30) (b := true) rfl rfl rfl (by decide) ?_
     refine S_no (j := 14) (dj := 30) (b := true) rfl rfl rfl (by decide) ?_
     refine S_no (j := 14) (dj := 30) (b := true) rfl rfl rfl (by decide) ?_
     refine S_no (j := 14) (dj := 30) (b := true) rfl rfl rfl (by decide) ?_
     refine S_noU (j := 18) (dj := 34) rfl rfl rfl ?_
     refine S_noU (j := 18) (dj := 34) rfl rfl rfl ?_
     refine S_noU (j := 18) (dj := 34) rfl rfl rfl ?_
     refine S_noU (j := 18) (dj := 34) rfl rfl rfl ?_
     refine S_no (j := 14) (dj := 30) (b := true) rfl rfl rfl (by decide) ?_
     refine S_list (T_pickT (v := (vB true)) rfl rfl ?_)
     refine wn (hK31_ _ _ ?_)
     refine C_condT rfl ?_
     refine cr fun _ hK36_ => ?_
     refine sv (v := (vB false)) (x_assign rfl) ?_
     refine wn (hK36_ _ _ ?_)
     refine C_ret (X_thenR (X_blkR (X_thenR (X_thenR (X_blkR (X_thenR ?_))))))
     refine R_any (v := (vB false)) (run_results1 rfl rfl) ?_
     have H37_ := Holds.pkF H27_ [1] 1
     exact ⟨_, _, rfl, ⟨false, rfl, rfl, (fun h => by cases h)⟩, S29_, H37_⟩
    ·have c35_fp : ¬ (7 < x16_.kind) := of_decide_eq_false c35_f
     refine S_yes (j := 8) (dj := 24) (b := false) rfl rfl (congrArg vB c35_f) (T_val (v := (vP (some ⟨b21_, 9, none⟩))) (by kernel_rfl) ?_)
     refine S_yes (j := 8) (dj := 24) (b := false) rfl rfl (congrArg vB c35_f) (T_val (v := x16_.events) (x_load1 rfl underlying27 rfl ((Holds.rd H27_ 0 rfl) 9 x16_.events rfl)) ?_)
     refine S_yes (j := 8) (dj := 24) (b := false) rfl rfl (congrArg vB c35_f) (T_val (v := (vI .i64 ((List.length ([] : List Value)) : Int))) (x_lenRS rfl (show RS R 7 x16_.events (List.length ([] : List Value)) [] by rw [hev20_]; exact RS.nil _ _) underlying27) ?_)
     refine S_yes (j := 8) (dj := 24) (b := false) rfl rfl (congrArg vB c35_f) (T_val (v := (vB (decide (200 < ((List.length ([] : List Value)) : Int))))) (x_bin rfl rfl rfl) ?_)
     refine S_list (T_pickF (v := (vB (decide (200 < ((List.length ([] : List Value)) : Int))))) (congrArg vB c35_f) rfl ?_)
     refine sv (v := (vB (decide (200 < ((List.length ([] : List Value)) : Int))))) (x_move rfl) ?_
     rcases Bool.eq_false_or_eq_true (decide (200 < ((List.length ([] : List Value)) : Int))) with c38_t | c38_f
     ·have c38_tp : 200 < ((List.length ([] : List Value)) : Int) := of_decide_eq_true c38_t
      refine S_no (j := 14) (dj := 30) (b := true) rfl rfl (congrArg vB c38_t) (by decide) ?_
      refine S_no (j := 14) (dj := 30) (b := true) rfl rfl (congrArg vB c38_t) (by decide) ?_
      refine S_no (j := 14) (dj := 30) (b := true) rfl rfl (congrArg vB c38_t) (by decide) ?_
      refine S_no (j := 14) (dj := 30) (b := true) rfl rfl (congrArg vB c38_t) (by decide) ?_
      refine S_noU (j := 18) (dj := 34) rfl rfl rfl ?_
      refine S_noU (j := 18) (dj := 34) rfl rfl rfl ?_
      refine S_noU (j := 18) (dj := 34) rfl rfl rfl ?_
      refine S_noU (j := 18) (dj := 34) rfl rfl rfl ?_
      refine S_no (j := 14) (dj := 30) (b := true) rfl rfl (congrArg vB c38_t) (by decide) ?_
      refine S_list (T_pickT (v := (vB true)) (congrArg vB c38_t) rfl ?_)
      refine wn (hK31_ _ _ ?_)
      refine C_condT rfl ?_
      refine cr fun _ hK39_ => ?_
      refine sv (v := (vB false)) (x_assign rfl) ?_
      refine wn (hK39_ _ _ ?_)
      refine C_ret (X_thenR (X_blkR (X_thenR (X_thenR (X_blkR (X_thenR ?_))))))
      refine R_any (v := (vB false)) (run_results1 rfl rfl) ?_
      have H40_ := Holds.pkF H27_ [1] 1
      exact ⟨_, _, rfl, ⟨false, rfl, rfl, (fun h => by cases h)⟩, S29_, H40_⟩
     ·have c38_fp : ¬ (200 < ((List.length ([] : List Value)) : Int)) := of_decide_eq_false c38_f
      refine S_yes (j := 14) (dj := 30) (b := false) rfl rfl (congrArg vB c38_f) (T_val (v := (vQ b21_)) (by kernel_rfl) ?_)
      refine S_yes (j := 14) (dj := 30) (b := false) rfl rfl (congrArg vB c38_f) (T_val (v := (vI .i64 x16_.kind)) (x_load1 rfl underlying3 rfl ((Holds.rd H27_ 0 rfl) 0 (vI .i64 x16_.kind) rfl)) ?_)
      refine S_yes (j := 14) (dj := 30) (b := false) rfl rfl (congrArg vB c38_f) (T_val (v := (vB (decide (x16_.kind = 1)))) (x_bin rfl rfl rfl) ?_)
      refine S_yes (j := 14) (dj := 30) (b := false) rfl rfl (congrArg vB c38_f) (T_val (v := (vB (decide (x16_.kind = 1)))) (x_move rfl) ?_)
      rcases Bool.eq_false_or_eq_true (decide (x16_.kind = 1)) with c41_t | c41_f
      ·have c41_tp : x16_.kind = 1 := of_decide_eq_true c41_t
       refine S_yes (j := 18) (dj := 34) (b := true) rfl rfl (congrArg vB c41_t) (T_val (v := (vP (some ⟨b21_, 1, none⟩))) (by kernel_rfl) ?_)
       refine S_yes (j := 18) (dj := 34) (b := true) rfl rfl (congrArg vB c41_t) (T_val (v := (vA #[(vI .i64 x16_.w_ID), (Value.string x16_.w_Key), (Value.string x16_.w_End), (vB x16_.w_HasEnd), (vI .i64 x16_.w_MinRev)])) (x_loadN (vs := [(vI .i64 x16_.w_ID), (Value.string x16_.w_Key), (Value.string x16_.w_End), (vB x16_.w_HasEnd), (vI .i64 x16_.w_MinRev)]) rfl underlying26 rfl z26 rfl (Rd.cells (Holds.rd H27_ 0 rfl) 1 rfl)) ?_)
       have H45_ := ((Holds.bring H27_ 1 rfl) :)
       refine S_yes (j := 18) (dj := 34) (b := true) rfl rfl (congrArg vB c41_t) (T_call (al := [(vA #[(vI .i64 ((wOf x16_).iD)), (Value.string ((wOf x16_).key)), (Value.string ((wOf x16_).end_)), (vB ((wOf x16_).hasEnd)), (vI .i64 ((wOf x16_).minRev))])]) (pre := []) rfl (lcons (congrArg (fun l => vA (List.toArray l)) (lcons (congrArg (vI .i64) ((by first | rfl | omega | (simp; done) | (simp; omega)) : x16_.w_ID = (wOf x16_).iD)) (lcons (congrArg Value.string ((by first | rfl | omega | (simp; done) | (simp; omega)) : x16_.w_Key = ((wOf x16_).key))) (lcons (congrArg Value.string ((by first | rfl | omega | (simp; done) | (simp; omega)) : x16_.w_End = ((wOf x16_).end_))) (lcons (congrArg vB ((by first | rfl | omega | (simp; done) | (simp; omega)) : x16_.w_HasEnd = ((wOf x16_).hasEnd))) (lcons (congrArg (vI .i64) ((by first | rfl | omega | (simp; done) | (simp; omega)) : x16_.w_MinRev = (wOf x16_).minRev)) rfl)))))) rfl) cb17 (lwProper R (wOf x16_)) H45_ ?_)
       rintro v42_ p49_ w46_ ⟨b43_, rfl, rfl, he44_⟩ S48_ H47_
       have S50_ := Same.trans S29_ S48_
       refine S_yes (j := 18) (dj := 34) (b := true) rfl rfl (congrArg vB c41_t) (T_val (v := (vB (!b43_))) (x_not rfl) ?_)
       refine S_yes (j := 14) (dj := 30) (b := false) rfl rfl (congrArg vB c38_f) (T_pickT (v := (vB (!b43_))) (congrArg vB c41_t) rfl ?_)
       refine S_list (T_pickF (v := (vB (!b43_))) (congrArg vB c38_f) rfl ?_)
       refine wn (hK31_ _ _ ?_)
       refine C_cond (b := !b43_) rfl (fun c51_t => ?_) (fun c51_f => ?_)
       ·skip
        refine cr fun _ hK52_ => ?_
        refine sv (v := (vB false)) (x_assign rfl) ?_
        refine wn (hK52_ _ _ ?_)
        refine C_ret (X_thenR (X_blkR (X_thenR (X_thenR (X_blkR (X_thenR ?_))))))
        refine R_any (v := (vB false)) (run_results1 rfl rfl) ?_
        have H53_ := Holds.pkF H47_ [0] 1
        exact ⟨_, _, rfl, ⟨false, rfl, rfl, (fun h => by cases h)⟩, S50_, H53_⟩
       ·skip
        refine C_skip (X_then (hK30_ _ _ ?_))
        refine C_seq (fun _ hK54_ => ?_)
        refine cr fun _ hK55_ => ?_
        refine sv (v := (vQ b21_)) (by kernel_rfl) ?_
        refine sv (v := (vI .i64 x16_.kind)) (x_load1 rfl underlying3 rfl ((Holds.rd H47_ 1 rfl) 0 (vI .i64 x16_.kind) rfl)) ?_
        refine sv (v := (vB (decide (x16_.kind = 3)))) (x_bin rfl rfl rfl) ?_
        refine sm (vB (decide (x16_.kind = 3))) ?_
        rcases Bool.eq_false_or_eq_true (decide (x16_.kind = 3)) with c56_t | c56_f
        ·have c56_tp : x16_.kind = 3 := of_decide_eq_true c56_t
         refine S_no (j := 3) (dj := 44) (b := true) rfl rfl (congrArg vB c56_t) (by decide) ?_
         refine S_no (j := 3) (dj := 44) (b := true) rfl rfl (congrArg vB c56_t) (by decide) ?_
         refine S_no (j := 3) (dj := 44) (b := true) rfl rfl (congrArg vB c56_t) (by decide) ?_
         refine S_list (T_pickT (v := (vB true)) (congrArg vB c56_t) rfl ?_)
         refine sm (vB true) ?_
         refine S_yes (j := 8) (dj := 49) (b := true) rfl rfl rfl (T_val (v := (vP (some ⟨b21_, 6, none⟩))) (by kernel_rfl) ?_)
         refine S_yes (j := 8) (dj := 49) (b := true) rfl rfl rfl (T_val (v := (Value.string x16_.key)) (x_load1 rfl underlying9 rfl ((Holds.rd H47_ 1 rfl) 6 (Value.string x16_.key) rfl)) ?_)
         refine S_yes (j := 8) (dj := 49) (b := true) rfl rfl rfl (T_val (v := (vB (x16_.key.toList == (ByteArray.mk #[]).toList))) (x_str rfl rfl rfl (by decide)) ?_)
         refine S_list (T_pickT (v := (vB (x16_.key.toList == (ByteArray.mk #[]).toList))) rfl rfl ?_)
         refine wn (hK55_ _ _ ?_)
         refine C_cond (b := x16_.key.toList == (ByteArray.mk #[]).toList) rfl (fun c57_t => ?_) (fun c57_f => ?_)
         ·skip
          refine cr fun _ hK58_ => ?_
          refine sv (v := (vB false)) (x_assign rfl) ?_
          refine wn (hK58_ _ _ ?_)
          refine C_ret (X_thenR (X_blkR (X_thenR (X_thenR (X_blkR (X_thenR ?_))))))
          refine R_any (v := (vB false)) (run_results1 rfl rfl) ?_
          have H59_ := Holds.pkF H47_ [0] 1
          exact ⟨_, _, rfl, ⟨false, rfl, rfl, (fun h => by cases h)⟩, S50_, H59_⟩
         ·skip
          refine C_skip (X_then (hK54_ _ _ ?_))
          refine cr fun _ hK60_ => ?_
          refine sv (v := (vP (some ⟨b21_, 9, none⟩))) (by kernel_rfl) ?_
          refine sv (v := x16_.events) (x_load1 rfl underlying27 rfl ((Holds.rd H47_ 1 rfl) 9 x16_.events rfl)) ?_
          refine sv (v := (vI .i64 ((List.length ([] : List Value)) : Int))) (x_lenRS rfl (show RS R 7 x16_.events (List.length ([] : List Value)) [] by rw [hev20_]; exact RS.nil _ _) underlying27) ?_
          refine sm (vI .i64 0) ?_
          refine wn (hK60_ _ _ ?_)
          refine C_block ?_
          have hgo61_ : GoodO x16_ := ⟨fun _ => he44_ (by simpa using c51_f), fun _ => nf_size c57_f⟩
          refine C_loop (γ := Nat × Bool) (fun x__ a__ w1__ => match x__ with | ⟨m, s2_v⟩ => ∃ h : Env, a__ = mkA 67 (upd (upd (upd (upd (upd (upd (upd h 2 (vB s2_v)) 10 v) 11 (vI .i64 ((List.length L) : Int))) 12 (vI .i64 (k : Int))) 55 x16_.events) 56 (vI .i64 ((List.length ([] : List Value)) : Int))) 57 (vI .i64 (m : Int))) [] ∧ Holds w1__ (ro R :: cl b21_ 29 [(vI .i64 x16_.kind), (vI .i64 x16_.w_ID), (Value.string x16_.w_Key), (Value.string x16_.w_End), (vB x16_.w_HasEnd), (vI .i64 x16_.w_MinRev), (Value.string x16_.key), (vI .i64 x16_.cur), (vI .i64 x16_.compact), x16_.events] :: F) ∧ Same w w1__) (fun x__ => match x__ with | ⟨m, s2_v⟩ => 0) (⟨0, s2_v⟩) ⟨_, congrArg (fun e => mkA 67 e []) (ch (ch (ch (ch (ch (ch (ch rfl rfl) rfl) rfl) rfl) rfl) rfl) (congrArg (vI .i64) ((by first | rfl | omega | (simp; done) | (simp; omega)) : 0 = (0 : Int)))), H47_, S50_⟩ ?_
          rintro ⟨m, s2_v⟩ _ w62_ ⟨h, rfl, H63_, S64_⟩
          refine cr fun _ hK65_ => ?_
          refine sv (v := (vB (decide ((m : Int) < ((List.length ([] : List Value)) : Int))))) (x_bin rfl rfl rfl) ?_
          refine wn (hK65_ _ _ ?_)
          refine C_seq (fun _ hK66_ => ?_)
          refine C_cond (b := decide ((m : Int) < ((List.length ([] : List Value)) : Int))) rfl (fun c67_t => ?_) (fun c67_f => ?_)
          ·have c67_tp : (m : Int) < ((List.length ([] : List Value)) : Int) := of_decide_eq_true c67_t
           exact absurd c67_tp (by simp)
          ·have c67_fp : ¬ ((m : Int) < ((List.length ([] : List Value)) : Int)) := of_decide_eq_false c67_f
           refine C_exit (X_thenX (X_thenX (X_blkHit ?_)))
           refine (X_blkN (X_then (hK14_ _ _ ?_)))
           refine C_reg ?_
           refine sv (v := (vI .i64 ((k : Int) + 1))) (x_bin rfl rfl (ib_add (IntWalk.i64_in _ (by omega)))) ?_
           refine sm (vI .i64 ((k : Int) + 1)) ?_
           refine wpList_nil (X_then ?_)
           have H68_ := Holds.pkF H63_ [0] 1
           exact ⟨⟨k + 1, s2_v⟩, ⟨_, congrArg (fun e => mkA 67 e []) (ch (ch (ch (ch rfl rfl) rfl) rfl) (congrArg (vI .i64) ((by first | rfl | omega | (simp; done) | (simp; omega)) : (k : Int) + 1 = ((k + 1 : Nat) : Int)))), H68_, S64_, (by first | assumption | omega | exact rfl), (good_snoc hok hx17_ hgo61_)⟩, by first | omega | (dsimp only; omega) | (simp; omega)⟩
        ·have c56_fp : ¬ (x16_.kind = 3) := of_decide_eq_false c56_f
         refine S_yes (j := 3) (dj := 44) (b := false) rfl rfl (congrArg vB c56_f) (T_val (v := (vQ b21_)) (by kernel_rfl) ?_)
         refine S_yes (j := 3) (dj := 44) (b := false) rfl rfl (congrArg vB c56_f) (T_val (v := (vI .i64 x16_.kind)) (x_load1 rfl underlying3 rfl ((Holds.rd H47_ 1 rfl) 0 (vI .i64 x16_.kind) rfl)) ?_)
         refine S_yes (j := 3) (dj := 44) (b := false) rfl rfl (congrArg vB c56_f) (T_val (v := (vB (decide (x16_.kind = 4)))) (x_bin rfl rfl rfl) ?_)
         refine S_list (T_pickF (v := (vB (decide (x16_.kind = 4)))) (congrArg vB c56_f) rfl ?_)
         refine sm (vB (decide (x16_.kind = 4))) ?_
         rcases Bool.eq_false_or_eq_true (decide (x16_.kind = 4)) with c69_t | c69_f
         ·have c69_tp : x16_.kind = 4 := of_decide_eq_true c69_t
          refine S_yes (j := 8) (dj := 49) (b := true) rfl rfl (congrArg vB c69_t) (T_val (v := (vP (some ⟨b21_, 6, none⟩))) (by kernel_rfl) ?_)
          refine S_yes (j := 8) (dj := 49) (b := true) rfl rfl (congrArg vB c69_t) (T_val (v := (Value.string x16_.key)) (x_load1 rfl underlying9 rfl ((Holds.rd H47_ 1 rfl) 6 (Value.string x16_.key) rfl)) ?_)
          refine S_yes (j := 8) (dj := 49) (b := true) rfl rfl (congrArg vB c69_t) (T_val (v := (vB (x16_.key.toList == (ByteArray.mk #[]).toList))) (x_str rfl rfl rfl (by decide)) ?_)
          refine S_list (T_pickT (v := (vB (x16_.key.toList == (ByteArray.mk #[]).toList))) (congrArg vB c69_t) rfl ?_)
          refine wn (hK55_ _ _ ?_)
          refine C_cond (b := x16_.key.toList == (ByteArray.mk #[]).toList) rfl (fun c70_t => ?_) (fun c70_f => ?_)
          ·skip
           refine cr fun _ hK71_ => ?_
           refine sv (v := (vB false)) (x_assign rfl) ?_
           refine wn (hK71_ _ _ ?_)
           refine C_ret (X_thenR (X_blkR (X_thenR (X_thenR (X_blkR (X_thenR ?_))))))
           refine R_any (v := (vB false)) (run_results1 rfl rfl) ?_
           have H72_ := Holds.pkF H47_ [0] 1
           exact ⟨_, _, rfl, ⟨false, rfl, rfl, (fun h => by cases h)⟩, S50_, H72_⟩
          ·skip
           refine C_skip (X_then (hK54_ _ _ ?_))
           refine cr fun _ hK73_ => ?_
           refine sv (v := (vP (some ⟨b21_, 9, none⟩))) (by kernel_rfl) ?_
           refine sv (v := x16_.events) (x_load1 rfl underlying27 rfl ((Holds.rd H47_ 1 rfl) 9 x16_.events rfl)) ?_
           refine sv (v := (vI .i64 ((List.length ([] : List Value)) : Int))) (x_lenRS rfl (show RS R 7 x16_.events (List.length ([] : List Value)) [] by rw [hev20_]; exact RS.nil _ _) underlying27) ?_
           refine sm (vI .i64 0) ?_
           refine wn (hK73_ _ _ ?_)
           refine C_block ?_
           have hgo74_ : GoodO x16_ := ⟨fun _ => he44_ (by simpa using c51_f), fun h => by omega⟩
           refine C_loop (γ := Nat × Bool) (fun x__ a__ w1__ => match x__ with | ⟨m, s2_v⟩ => ∃ h : Env, a__ = mkA 67 (upd (upd (upd (upd (upd (upd (upd h 2 (vB s2_v)) 10 v) 11 (vI .i64 ((List.length L) : Int))) 12 (vI .i64 (k : Int))) 55 x16_.events) 56 (vI .i64 ((List.length ([] : List Value)) : Int))) 57 (vI .i64 (m : Int))) [] ∧ Holds w1__ (ro R :: cl b21_ 29 [(vI .i64 x16_.kind), (vI .i64 x16_.w_ID), (Value.string x16_.w_Key), (Value.string x16_.w_End), (vB x16_.w_HasEnd), (vI .i64 x16_.w_MinRev), (Value.string x16_.key), (vI .i64 x16_.cur), (vI .i64 x16_.compact), x16_.events] :: F) ∧ Same w w1__) (fun x__ => match x__ with | ⟨m, s2_v⟩ => 0) (⟨0, s2_v⟩) ⟨_, congrArg (fun e => mkA 67 e []) (ch (ch (ch (ch (ch (ch (ch rfl rfl) rfl) rfl) rfl) rfl) rfl) (congrArg (vI .i64) ((by first | rfl | omega | (simp; done) | (simp; omega)) : 0 = (0 : Int)))), H47_, S50_⟩ ?_
           rintro ⟨m, s2_v⟩ _ w75_ ⟨h, rfl, H76_, S77_⟩
           refine cr fun _ hK78_ => ?_
           refine sv (v := (vB (decide ((m : Int) < ((List.length ([] : List Value)) : Int))))) (x_bin rfl rfl rfl) ?_
           refine wn (hK78_ _ _ ?_)
           refine C_seq (fun _ hK79_ => ?_)
           refine C_cond (b := decide ((m : Int) < ((List.length ([] : List Value)) : Int))) rfl (fun c80_t => ?_) (fun c80_f => ?_)
           ·have c80_tp : (m : Int) < ((List.length ([] : List Value)) : Int) := of_decide_eq_true c80_t
            exact absurd c80_tp (by simp)
           ·have c80_fp : ¬ ((m : Int) < ((List.length ([] : List Value)) : Int)) := of_decide_eq_false c80_f
            refine C_exit (X_thenX (X_thenX (X_blkHit ?_)))
            refine (X_blkN (X_then (hK14_ _ _ ?_)))
            refine C_reg ?_
            refine sv (v := (vI .i64 ((k : Int) + 1))) (x_bin rfl rfl (ib_add (IntWalk.i64_in _ (by omega)))) ?_
            refine sm (vI .i64 ((k : Int) + 1)) ?_
            refine wpList_nil (X_then ?_)
            have H81_ := Holds.pkF H76_ [0] 1
            exact ⟨⟨k + 1, s2_v⟩, ⟨_, congrArg (fun e => mkA 67 e []) (ch (ch (ch (ch rfl rfl) rfl) rfl) (congrArg (vI .i64) ((by first | rfl | omega | (simp; done) | (simp; omega)) : (k : Int) + 1 = ((k + 1 : Nat) : Int)))), H81_, S77_, (by first | assumption | omega | exact rfl), (good_snoc hok hx17_ hgo74_)⟩, by first | omega | (dsimp only; omega) | (simp; omega)⟩
         ·have c69_fp : ¬ (x16_.kind = 4) := of_decide_eq_false c69_f
          refine S_no (j := 8) (dj := 49) (b := false) rfl rfl (congrArg vB c69_f) (by decide) ?_
          refine S_no (j := 8) (dj := 49) (b := false) rfl rfl (congrArg vB c69_f) (by decide) ?_
          refine S_no (j := 8) (dj := 49) (b := false) rfl rfl (congrArg vB c69_f) (by decide) ?_
          refine S_list (T_pickF (v := (vB false)) (congrArg vB c69_f) rfl ?_)
          refine wn (hK55_ _ _ ?_)
          refine C_condF rfl ?_
          refine C_skip (X_then (hK54_ _ _ ?_))
          refine cr fun _ hK82_ => ?_
          refine sv (v := (vP (some ⟨b21_, 9, none⟩))) (by kernel_rfl) ?_
          refine sv (v := x16_.events) (x_load1 rfl underlying27 rfl ((Holds.rd H47_ 1 rfl) 9 x16_.events rfl)) ?_
          refine sv (v := (vI .i64 ((List.length ([] : List Value)) : Int))) (x_lenRS rfl (show RS R 7 x16_.events (List.length ([] : List Value)) [] by rw [hev20_]; exact RS.nil _ _) underlying27) ?_
          refine sm (vI .i64 0) ?_
          refine wn (hK82_ _ _ ?_)
          refine C_block ?_
          have hgo83_ : GoodO x16_ := ⟨fun _ => he44_ (by simpa using c51_f), fun h => by omega⟩
          refine C_loop (γ := Nat × Bool) (fun x__ a__ w1__ => match x__ with | ⟨m, s2_v⟩ => ∃ h : Env, a__ = mkA 67 (upd (upd (upd (upd (upd (upd (upd h 2 (vB s2_v)) 10 v) 11 (vI .i64 ((List.length L) : Int))) 12 (vI .i64 (k : Int))) 55 x16_.events) 56 (vI .i64 ((List.length ([] : List Value)) : Int))) 57 (vI .i64 (m : Int))) [] ∧ Holds w1__ (ro R :: cl b21_ 29 [(vI .i64 x16_.kind), (vI .i64 x16_.w_ID), (Value.string x16_.w_Key), (Value.string x16_.w_End), (vB x16_.w_HasEnd), (vI .i64 x16_.w_MinRev), (Value.string x16_.key), (vI .i64 x16_.cur), (vI .i64 x16_.compact), x16_.events] :: F) ∧ Same w w1__) (fun x__ => match x__ with | ⟨m, s2_v⟩ => 0) (⟨0, s2_v⟩) ⟨_, congrArg (fun e => mkA 67 e []) (ch (ch (ch (ch (ch (ch (ch rfl rfl) rfl) rfl) rfl) rfl) rfl) (congrArg (vI .i64) ((by first | rfl | omega | (simp; done) | (simp; omega)) : 0 = (0 : Int)))), H47_, S50_⟩ ?_
          rintro ⟨m, s2_v⟩ _ w84_ ⟨h, rfl, H85_, S86_⟩
          refine cr fun _ hK87_ => ?_
          refine sv (v := (vB (decide ((m : Int) < ((List.length ([] : List Value)) : Int))))) (x_bin rfl rfl rfl) ?_
          refine wn (hK87_ _ _ ?_)
          refine C_seq (fun _ hK88_ => ?_)
          refine C_cond (b := decide ((m : Int) < ((List.length ([] : List Value)) : Int))) rfl (fun c89_t => ?_) (fun c89_f => ?_)
          ·have c89_tp : (m : Int) < ((List.length ([] : List Value)) : Int) := of_decide_eq_true c89_t
           exact absurd c89_tp (by simp)
          ·have c89_fp : ¬ ((m : Int) < ((List.length ([] : List Value)) : Int)) := of_decide_eq_false c89_f
           refine C_exit (X_thenX (X_thenX (X_blkHit ?_)))
           refine (X_blkN (X_then (hK14_ _ _ ?_)))
           refine C_reg ?_
           refine sv (v := (vI .i64 ((k : Int) + 1))) (x_bin rfl rfl (ib_add (IntWalk.i64_in _ (by omega)))) ?_
           refine sm (vI .i64 ((k : Int) + 1)) ?_
           refine wpList_nil (X_then ?_)
           have H90_ := Holds.pkF H85_ [0] 1
           exact ⟨⟨k + 1, s2_v⟩, ⟨_, congrArg (fun e => mkA 67 e []) (ch (ch (ch (ch rfl rfl) rfl) rfl) (congrArg (vI .i64) ((by first | rfl | omega | (simp; done) | (simp; omega)) : (k : Int) + 1 = ((k + 1 : Nat) : Int)))), H90_, S86_, (by first | assumption | omega | exact rfl), (good_snoc hok hx17_ hgo83_)⟩, by first | omega | (dsimp only; omega) | (simp; omega)⟩
      ·have c41_fp : ¬ (x16_.kind = 1) := of_decide_eq_false c41_f
       refine S_no (j := 18) (dj := 34) (b := false) rfl rfl (congrArg vB c41_f) (by decide) ?_
       refine S_no (j := 18) (dj := 34) (b := false) rfl rfl (congrArg vB c41_f) (by decide) ?_
       refine S_no (j := 18) (dj := 34) (b := false) rfl rfl (congrArg vB c41_f) (by decide) ?_
       refine S_no (j := 18) (dj := 34) (b := false) rfl rfl (congrArg vB c41_f) (by decide) ?_
       refine S_yes (j := 14) (dj := 30) (b := false) rfl rfl (congrArg vB c38_f) (T_pickF (v := (vB false)) (congrArg vB c41_f) rfl ?_)
       refine S_list (T_pickF (v := (vB false)) (congrArg vB c38_f) rfl ?_)
       refine wn (hK31_ _ _ ?_)
       refine C_condF rfl ?_
       refine C_skip (X_then (hK30_ _ _ ?_))
       refine C_seq (fun _ hK91_ => ?_)
       refine cr fun _ hK92_ => ?_
       refine sv (v := (vQ b21_)) (by kernel_rfl) ?_
       refine sv (v := (vI .i64 x16_.kind)) (x_load1 rfl underlying3 rfl ((Holds.rd H27_ 0 rfl) 0 (vI .i64 x16_.kind) rfl)) ?_
       refine sv (v := (vB (decide (x16_.kind = 3)))) (x_bin rfl rfl rfl) ?_
       refine sm (vB (decide (x16_.kind = 3))) ?_
       rcases Bool.eq_false_or_eq_true (decide (x16_.kind = 3)) with c93_t | c93_f
       ·have c93_tp : x16_.kind = 3 := of_decide_eq_true c93_t
        refine S_no (j := 3) (dj := 44) (b := true) rfl rfl (congrArg vB c93_t) (by decide) ?_
        refine S_no (j := 3) (dj := 44) (b := true) rfl rfl (congrArg vB c93_t) (by decide) ?_
        refine S_no (j := 3) (dj := 44) (b := true) rfl rfl (congrArg vB c93_t) (by decide) ?_
        refine S_list (T_pickT (v := (vB true)) (congrArg vB c93_t) rfl ?_)
        refine sm (vB true) ?_
        refine S_yes (j := 8) (dj := 49) (b := true) rfl rfl rfl (T_val (v := (vP (some ⟨b21_, 6, none⟩))) (by kernel_rfl) ?_)
        refine S_yes (j := 8) (dj := 49) (b := true) rfl rfl rfl (T_val (v := (Value.string x16_.key)) (x_load1 rfl underlying9 rfl ((Holds.rd H27_ 0 rfl) 6 (Value.string x16_.key) rfl)) ?_)
        refine S_yes (j := 8) (dj := 49) (b := true) rfl rfl rfl (T_val (v := (vB (x16_.key.toList == (ByteArray.mk #[]).toList))) (x_str rfl rfl rfl (by decide)) ?_)
        refine S_list (T_pickT (v := (vB (x16_.key.toList == (ByteArray.mk #[]).toList))) rfl rfl ?_)
        refine wn (hK92_ _ _ ?_)
        refine C_cond (b := x16_.key.toList == (ByteArray.mk #[]).toList) rfl (fun c94_t => ?_) (fun c94_f => ?_)
        ·skip
         refine cr fun _ hK95_ => ?_
         refine sv (v := (vB false)) (x_assign rfl) ?_
         refine wn (hK95_ _ _ ?_)
         refine C_ret (X_thenR (X_blkR (X_thenR (X_thenR (X_blkR (X_thenR ?_))))))
         refine R_any (v := (vB false)) (run_results1 rfl rfl) ?_
         have H96_ := Holds.pkF H27_ [1] 1
         exact ⟨_, _, rfl, ⟨false, rfl, rfl, (fun h => by cases h)⟩, S29_, H96_⟩
        ·skip
         refine C_skip (X_then (hK91_ _ _ ?_))
         refine cr fun _ hK97_ => ?_
         refine sv (v := (vP (some ⟨b21_, 9, none⟩))) (by kernel_rfl) ?_
         refine sv (v := x16_.events) (x_load1 rfl underlying27 rfl ((Holds.rd H27_ 0 rfl) 9 x16_.events rfl)) ?_
         refine sv (v := (vI .i64 ((List.length ([] : List Value)) : Int))) (x_lenRS rfl (show RS R 7 x16_.events (List.length ([] : List Value)) [] by rw [hev20_]; exact RS.nil _ _) underlying27) ?_
         refine sm (vI .i64 0) ?_
         refine wn (hK97_ _ _ ?_)
         refine C_block ?_
         have hgo98_ : GoodO x16_ := ⟨fun h => by omega, fun _ => nf_size c94_f⟩
         refine C_loop (γ := Nat × Bool) (fun x__ a__ w1__ => match x__ with | ⟨m, s2_v⟩ => ∃ h : Env, a__ = mkA 67 (upd (upd (upd (upd (upd (upd (upd h 2 (vB s2_v)) 10 v) 11 (vI .i64 ((List.length L) : Int))) 12 (vI .i64 (k : Int))) 55 x16_.events) 56 (vI .i64 ((List.length ([] : List Value)) : Int))) 57 (vI .i64 (m : Int))) [] ∧ Holds w1__ (cl b21_ 29 [(vI .i64 x16_.kind), (vI .i64 x16_.w_ID), (Value.string x16_.w_Key), (Value.string x16_.w_End), (vB x16_.w_HasEnd), (vI .i64 x16_.w_MinRev), (Value.string x16_.key), (vI .i64 x16_.cur), (vI .i64 x16_.compact), x16_.events] :: ro R :: F) ∧ Same w w1__) (fun x__ => match x__ with | ⟨m, s2_v⟩ => 0) (⟨0, s2_v⟩) ⟨_, congrArg (fun e => mkA 67 e []) (ch (ch (ch (ch (ch (ch (ch rfl rfl) rfl) rfl) rfl) rfl) rfl) (congrArg (vI .i64) ((by first | rfl | omega | (simp; done) | (simp; omega)) : 0 = (0 : Int)))), H27_, S29_⟩ ?_
         rintro ⟨m, s2_v⟩ _ w99_ ⟨h, rfl, H100_, S101_⟩
         refine cr fun _ hK102_ => ?_
         refine sv (v := (vB (decide ((m : Int) < ((List.length ([] : List Value)) : Int))))) (x_bin rfl rfl rfl) ?_
         refine wn (hK102_ _ _ ?_)
         refine C_seq (fun _ hK103_ => ?_)
         refine C_cond (b := decide ((m : Int) < ((List.length ([] : List Value)) : Int))) rfl (fun c104_t => ?_) (fun c104_f => ?_)
         ·have c104_tp : (m : Int) < ((List.length ([] : List Value)) : Int) := of_decide_eq_true c104_t
          exact absurd c104_tp (by simp)
         ·have c104_fp : ¬ ((m : Int) < ((List.length ([] : List Value)) : Int)) := of_decide_eq_false c104_f
          refine C_exit (X_thenX (X_thenX (X_blkHit ?_)))
          refine (X_blkN (X_then (hK14_ _ _ ?_)))
          refine C_reg ?_
          refine sv (v := (vI .i64 ((k : Int) + 1))) (x_bin rfl rfl (ib_add (IntWalk.i64_in _ (by omega)))) ?_
          refine sm (vI .i64 ((k : Int) + 1)) ?_
          refine wpList_nil (X_then ?_)
          have H105_ := Holds.pkF H100_ [1] 1
          exact ⟨⟨k + 1, s2_v⟩, ⟨_, congrArg (fun e => mkA 67 e []) (ch (ch (ch (ch rfl rfl) rfl) rfl) (congrArg (vI .i64) ((by first | rfl | omega | (simp; done) | (simp; omega)) : (k : Int) + 1 = ((k + 1 : Nat) : Int)))), H105_, S101_, (by first | assumption | omega | exact rfl), (good_snoc hok hx17_ hgo98_)⟩, by first | omega | (dsimp only; omega) | (simp; omega)⟩
       ·have c93_fp : ¬ (x16_.kind = 3) := of_decide_eq_false c93_f
        refine S_yes (j := 3) (dj := 44) (b := false) rfl rfl (congrArg vB c93_f) (T_val (v := (vQ b21_)) (by kernel_rfl) ?_)
        refine S_yes (j := 3) (dj := 44) (b := false) rfl rfl (congrArg vB c93_f) (T_val (v := (vI .i64 x16_.kind)) (x_load1 rfl underlying3 rfl ((Holds.rd H27_ 0 rfl) 0 (vI .i64 x16_.kind) rfl)) ?_)
        refine S_yes (j := 3) (dj := 44) (b := false) rfl rfl (congrArg vB c93_f) (T_val (v := (vB (decide (x16_.kind = 4)))) (x_bin rfl rfl rfl) ?_)
        refine S_list (T_pickF (v := (vB (decide (x16_.kind = 4)))) (congrArg vB c93_f) rfl ?_)
        refine sm (vB (decide (x16_.kind = 4))) ?_
        rcases Bool.eq_false_or_eq_true (decide (x16_.kind = 4)) with c106_t | c106_f
        ·have c106_tp : x16_.kind = 4 := of_decide_eq_true c106_t
         refine S_yes (j := 8) (dj := 49) (b := true) rfl rfl (congrArg vB c106_t) (T_val (v := (vP (some ⟨b21_, 6, none⟩))) (by kernel_rfl) ?_)
         refine S_yes (j := 8) (dj := 49) (b := true) rfl rfl (congrArg vB c106_t) (T_val (v := (Value.string x16_.key)) (x_load1 rfl underlying9 rfl ((Holds.rd H27_ 0 rfl) 6 (Value.string x16_.key) rfl)) ?_)
         refine S_yes (j := 8) (dj := 49) (b := true) rfl rfl (congrArg vB c106_t) (T_val (v := (vB (x16_.key.toList == (ByteArray.mk #[]).toList))) (x_str rfl rfl rfl (by decide)) ?_)
         refine S_list (T_pickT (v := (vB (x16_.key.toList == (ByteArray.mk #[]).toList))) (congrArg vB c106_t) rfl ?_)
         refine wn (hK92_ _ _ ?_)
         refine C_cond (b := x16_.key.toList == (ByteArray.mk #[]).toList) rfl (fun c107_t => ?_) (fun c107_f => ?_)
         ·skip
          refine cr fun _ hK108_ => ?_
          refine sv (v := (vB false)) (x_assign rfl) ?_
          refine wn (hK108_ _ _ ?_)
          refine C_ret (X_thenR (X_blkR (X_thenR (X_thenR (X_blkR (X_thenR ?_))))))
          refine R_any (v := (vB false)) (run_results1 rfl rfl) ?_
          have H109_ := Holds.pkF H27_ [1] 1
          exact ⟨_, _, rfl, ⟨false, rfl, rfl, (fun h => by cases h)⟩, S29_, H109_⟩
         ·skip
          refine C_skip (X_then (hK91_ _ _ ?_))
          refine cr fun _ hK110_ => ?_
          refine sv (v := (vP (some ⟨b21_, 9, none⟩))) (by kernel_rfl) ?_
          refine sv (v := x16_.events) (x_load1 rfl underlying27 rfl ((Holds.rd H27_ 0 rfl) 9 x16_.events rfl)) ?_
          refine sv (v := (vI .i64 ((List.length ([] : List Value)) : Int))) (x_lenRS rfl (show RS R 7 x16_.events (List.length ([] : List Value)) [] by rw [hev20_]; exact RS.nil _ _) underlying27) ?_
          refine sm (vI .i64 0) ?_
          refine wn (hK110_ _ _ ?_)
          refine C_block ?_
          have hgo111_ : GoodO x16_ := ⟨fun h => by omega, fun h => by omega⟩
          refine C_loop (γ := Nat × Bool) (fun x__ a__ w1__ => match x__ with | ⟨m, s2_v⟩ => ∃ h : Env, a__ = mkA 67 (upd (upd (upd (upd (upd (upd (upd h 2 (vB s2_v)) 10 v) 11 (vI .i64 ((List.length L) : Int))) 12 (vI .i64 (k : Int))) 55 x16_.events) 56 (vI .i64 ((List.length ([] : List Value)) : Int))) 57 (vI .i64 (m : Int))) [] ∧ Holds w1__ (cl b21_ 29 [(vI .i64 x16_.kind), (vI .i64 x16_.w_ID), (Value.string x16_.w_Key), (Value.string x16_.w_End), (vB x16_.w_HasEnd), (vI .i64 x16_.w_MinRev), (Value.string x16_.key), (vI .i64 x16_.cur), (vI .i64 x16_.compact), x16_.events] :: ro R :: F) ∧ Same w w1__) (fun x__ => match x__ with | ⟨m, s2_v⟩ => 0) (⟨0, s2_v⟩) ⟨_, congrArg (fun e => mkA 67 e []) (ch (ch (ch (ch (ch (ch (ch rfl rfl) rfl) rfl) rfl) rfl) rfl) (congrArg (vI .i64) ((by first | rfl | omega | (simp; done) | (simp; omega)) : 0 = (0 : Int)))), H27_, S29_⟩ ?_
          rintro ⟨m, s2_v⟩ _ w112_ ⟨h, rfl, H113_, S114_⟩
          refine cr fun _ hK115_ => ?_
          refine sv (v := (vB (decide ((m : Int) < ((List.length ([] : List Value)) : Int))))) (x_bin rfl rfl rfl) ?_
          refine wn (hK115_ _ _ ?_)
          refine C_seq (fun _ hK116_ => ?_)
          refine C_cond (b := decide ((m : Int) < ((List.length ([] : List Value)) : Int))) rfl (fun c117_t => ?_) (fun c117_f => ?_)
          ·have c117_tp : (m : Int) < ((List.length ([] : List Value)) : Int) := of_decide_eq_true c117_t
           exact absurd c117_tp (by simp)
          ·have c117_fp : ¬ ((m : Int) < ((List.length ([] : List Value)) : Int)) := of_decide_eq_false c117_f
           refine C_exit (X_thenX (X_thenX (X_blkHit ?_)))
           refine (X_blkN (X_then (hK14_ _ _ ?_)))
           refine C_reg ?_
           refine sv (v := (vI .i64 ((k : Int) + 1))) (x_bin rfl rfl (ib_add (IntWalk.i64_in _ (by omega)))) ?_
           refine sm (vI .i64 ((k : Int) + 1)) ?_
           refine wpList_nil (X_then ?_)
           have H118_ := Holds.pkF H113_ [1] 1
           exact ⟨⟨k + 1, s2_v⟩, ⟨_, congrArg (fun e => mkA 67 e []) (ch (ch (ch (ch rfl rfl) rfl) rfl) (congrArg (vI .i64) ((by first | rfl | omega | (simp; done) | (simp; omega)) : (k : Int) + 1 = ((k + 1 : Nat) : Int)))), H118_, S114_, (by first | assumption | omega | exact rfl), (good_snoc hok hx17_ hgo111_)⟩, by first | omega | (dsimp only; omega) | (simp; omega)⟩
        ·have c106_fp : ¬ (x16_.kind = 4) := of_decide_eq_false c106_f
         refine S_no (j := 8) (dj := 49) (b := false) rfl rfl (congrArg vB c106_f) (by decide) ?_
         refine S_no (j := 8) (dj := 49) (b := false) rfl rfl (congrArg vB c106_f) (by decide) ?_
         refine S_no (j := 8) (dj := 49) (b := false) rfl rfl (congrArg vB c106_f) (by decide) ?_
         refine S_list (T_pickF (v := (vB false)) (congrArg vB c106_f) rfl ?_)
         refine wn (hK92_ _ _ ?_)
         refine C_condF rfl ?_
         refine C_skip (X_then (hK91_ _ _ ?_))
         refine cr fun _ hK119_ => ?_
         refine sv (v := (vP (some ⟨b21_, 9, none⟩))) (by kernel_rfl) ?_
         refine sv (v := x16_.events) (x_load1 rfl underlying27 rfl ((Holds.rd H27_ 0 rfl) 9 x16_.events rfl)) ?_
         refine sv (v := (vI .i64 ((List.length ([] : List Value)) : Int))) (x_lenRS rfl (show RS R 7 x16_.events (List.length ([] : List Value)) [] by rw [hev20_]; exact RS.nil _ _) underlying27) ?_
         refine sm (vI .i64 0) ?_
         refine wn (hK119_ _ _ ?_)
         refine C_block ?_
         have hgo120_ : GoodO x16_ := ⟨fun h => by omega, fun h => by omega⟩
         refine C_loop (γ := Nat × Bool) (fun x__ a__ w1__ => match x__ with | ⟨m, s2_v⟩ => ∃ h : Env, a__ = mkA 67 (upd (upd (upd (upd (upd (upd (upd h 2 (vB s2_v)) 10 v) 11 (vI .i64 ((List.length L) : Int))) 12 (vI .i64 (k : Int))) 55 x16_.events) 56 (vI .i64 ((List.length ([] : List Value)) : Int))) 57 (vI .i64 (m : Int))) [] ∧ Holds w1__ (cl b21_ 29 [(vI .i64 x16_.kind), (vI .i64 x16_.w_ID), (Value.string x16_.w_Key), (Value.string x16_.w_End), (vB x16_.w_HasEnd), (vI .i64 x16_.w_MinRev), (Value.string x16_.key), (vI .i64 x16_.cur), (vI .i64 x16_.compact), x16_.events] :: ro R :: F) ∧ Same w w1__) (fun x__ => match x__ with | ⟨m, s2_v⟩ => 0) (⟨0, s2_v⟩) ⟨_, congrArg (fun e => mkA 67 e []) (ch (ch (ch (ch (ch (ch (ch rfl rfl) rfl) rfl) rfl) rfl) rfl) (congrArg (vI .i64) ((by first | rfl | omega | (simp; done) | (simp; omega)) : 0 = (0 : Int)))), H27_, S29_⟩ ?_
         rintro ⟨m, s2_v⟩ _ w121_ ⟨h, rfl, H122_, S123_⟩
         refine cr fun _ hK124_ => ?_
         refine sv (v := (vB (decide ((m : Int) < ((List.length ([] : List Value)) : Int))))) (x_bin rfl rfl rfl) ?_
         refine wn (hK124_ _ _ ?_)
         refine C_seq (fun _ hK125_ => ?_)
         refine C_cond (b := decide ((m : Int) < ((List.length ([] : List Value)) : Int))) rfl (fun c126_t => ?_) (fun c126_f => ?_)
         ·have c126_tp : (m : Int) < ((List.length ([] : List Value)) : Int) := of_decide_eq_true c126_t
          exact absurd c126_tp (by simp)
         ·have c126_fp : ¬ ((m : Int) < ((List.length ([] : List Value)) : Int)) := of_decide_eq_false c126_f
          refine C_exit (X_thenX (X_thenX (X_blkHit ?_)))
          refine (X_blkN (X_then (hK14_ _ _ ?_)))
          refine C_reg ?_
          refine sv (v := (vI .i64 ((k : Int) + 1))) (x_bin rfl rfl (ib_add (IntWalk.i64_in _ (by omega)))) ?_
          refine sm (vI .i64 ((k : Int) + 1)) ?_
          refine wpList_nil (X_then ?_)
          have H127_ := Holds.pkF H122_ [1] 1
          exact ⟨⟨k + 1, s2_v⟩, ⟨_, congrArg (fun e => mkA 67 e []) (ch (ch (ch (ch rfl rfl) rfl) rfl) (congrArg (vI .i64) ((by first | rfl | omega | (simp; done) | (simp; omega)) : (k : Int) + 1 = ((k + 1 : Nat) : Int)))), H127_, S123_, (by first | assumption | omega | exact rfl), (good_snoc hok hx17_ hgo120_)⟩, by first | omega | (dsimp only; omega) | (simp; omega)⟩
  ·have c13_fp : ¬ ((k : Int) < ((List.length L) : Int)) := of_decide_eq_false c13_f
   refine C_exit (X_thenX (X_thenX (X_blkHit ?_)))
   refine (X_then (hK6_ _ _ ?_))
   refine cr fun _ hK128_ => ?_
   refine sv (v := (vB true)) (x_assign rfl) ?_
   refine wn (hK128_ _ _ ?_)
   refine C_ret ?_
   refine R_any (v := (vB true)) (run_results1 rfl rfl) ?_
   exact ⟨_, _, rfl, ⟨true, rfl, rfl, (fun _ => ⟨by omega, fun o hm => hok o (by rw [List.take_of_length_le (by omega)]; exact hm)⟩)⟩, S10_, H9_⟩

set_option maxHeartbeats 1600000 in
theorem lwNums0 (R : HP) :
    Tri Tryz.prog 26 #[(vS none 0 0), (vS none 0 0)] R [] (fun v__ post__ => v__ = (vB true) ∧ post__ = []) := by
 refine Tri.into (n := 26) (al := [(vS none 0 0), (vS none 0 0)]) func26 rfl ntmps26 rfl rfl fun w F H => ?_
 refine cr fun _ hK1_ => ?_
 refine sv (v := (vB false)) (x_assign rfl) ?_
 refine wn (hK1_ _ _ ?_)
 refine C_seq (fun _ hK2_ => ?_)
 refine cr fun _ hK3_ => ?_
 refine sm (vS none 0 0) ?_
 refine sv (v := (vI .i64 0)) (x_lenS rfl underlying40) ?_
 refine sm (vS none 0 0) ?_
 refine sv (v := (vI .i64 0)) (x_lenS rfl underlying40) ?_
 refine sv (v := (vB false)) (x_bin rfl rfl rfl) ?_
 refine wn (hK3_ _ _ ?_)
 refine C_condF rfl ?_
 refine C_skip (X_then (hK2_ _ _ ?_))
 refine C_seq (fun _ hK4_ => ?_)
 refine cr fun _ hK5_ => ?_
 refine sm (vS none 0 0) ?_
 refine sv (v := (vI .i64 0)) (x_lenS rfl underlying40) ?_
 refine sm (vI .i64 0) ?_
 refine wn (hK5_ _ _ ?_)
 refine C_block ?_
 refine C_loop (γ := Nat × Bool) (fun x__ a__ w1__ => match x__ with | ⟨m, t4_v⟩ => ∃ h : Env, a__ = mkA 26 (upd (upd (upd (upd (upd h 0 (vS none 0 0)) 1 (vS none 0 0)) 4 (vB t4_v)) 12 (vI .i64 0)) 13 (vI .i64 (m : Int))) [] ∧ Holds w1__ (ro R :: F) ∧ Same w w1__) (fun x__ => match x__ with | ⟨m, t4_v⟩ => 0) (⟨0, false⟩) ⟨_, congrArg (fun e => mkA 26 e []) (ch (ch (ch (ch (ch rfl rfl) rfl) rfl) rfl) (congrArg (vI .i64) ((by first | rfl | omega | (simp; done) | (simp; omega)) : 0 = (0 : Int)))), H, (Same.refl w)⟩ ?_
 rintro ⟨m, t4_v⟩ _ w6_ ⟨h, rfl, H7_, S8_⟩
 refine cr fun _ hK9_ => ?_
 refine sv (v := (vB (decide ((m : Int) < 0)))) (x_bin rfl rfl rfl) ?_
 refine wn (hK9_ _ _ ?_)
 refine C_seq (fun _ hK10_ => ?_)
 refine C_cond (b := decide ((m : Int) < 0)) rfl (fun c11_t => ?_) (fun c11_f => ?_)
 ·have c11_tp : (m : Int) < 0 := of_decide_eq_true c11_t
  omega
 ·have c11_fp : ¬ ((m : Int) < 0) := of_decide_eq_false c11_f
  refine C_exit (X_thenX (X_thenX (X_blkHit ?_)))
  refine (X_then (hK4_ _ _ ?_))
  refine cr fun _ hK12_ => ?_
  refine sv (v := (vB true)) (x_assign rfl) ?_
  refine wn (hK12_ _ _ ?_)
  refine C_ret ?_
  refine R_any (v := (vB true)) (run_results1 rfl rfl) ?_
  exact ⟨_, _, rfl, ⟨rfl, rfl⟩, S8_, H7_⟩

set_option maxHeartbeats 1600000 in
theorem lwSame00 (R : HP) (b : Bool) :
    Tri Tryz.prog 13 #[(vA #[(vB b), (vI .i64 0), (vS none 0 0), (vS none 0 0)]), (vA #[(vB b), (vI .i64 0), (vS none 0 0), (vS none 0 0)])] R [] (fun v__ post__ => v__ = (vB true) ∧ post__ = []) := by
 refine Tri.into (n := 54) (al := [(vA #[(vB b), (vI .i64 0), (vS none 0 0), (vS none 0 0)]), (vA #[(vB b), (vI .i64 0), (vS none 0 0), (vS none 0 0)])]) func13 rfl ntmps13 rfl rfl fun w F H => ?_
 refine cr fun _ hK1_ => ?_
 refine S_list (T_box (v := (vA #[(vB b), (vI .i64 0), (vS none 0 0), (vS none 0 0)])) rfl H ?_)
 intro b2_ w3_ S5_ H4_
 have S6_ := Same.trans (Same.refl w) S5_
 refine S_list (T_box (v := (vA #[(vB b), (vI .i64 0), (vS none 0 0), (vS none 0 0)])) rfl H4_ ?_)
 intro b7_ w8_ S10_ H9_
 have S11_ := Same.trans S6_ S10_
 refine sv (v := (vB false)) (x_assign rfl) ?_
 refine wn (hK1_ _ _ ?_)
 refine C_seq (fun _ hK12_ => ?_)
 refine cr fun _ hK13_ => ?_
 refine sv (v := (vQ b2_)) (by kernel_rfl) ?_
 refine sv (v := (vB b)) (x_load1 rfl underlying4 rfl ((Holds.rd H9_ 1 rfl) 0 (vB b) rfl)) ?_
 refine sv (v := (vQ b7_)) (by kernel_rfl) ?_
 refine sv (v := (vB b)) (x_load1 rfl underlying4 rfl ((Holds.rd H9_ 0 rfl) 0 (vB b) rfl)) ?_
 refine sv (v := (vB false)) (x_cast (x_neqB rfl rfl underlying4) (by simp)) ?_
 refine sm (vB false) ?_
 refine S_yes (j := 5) (dj := 11) (b := false) rfl rfl rfl (T_val (v := (vP (some ⟨b2_, 1, none⟩))) (by kernel_rfl) ?_)
 refine S_yes (j := 5) (dj := 11) (b := false) rfl rfl rfl (T_val (v := (vI .i64 0)) (x_load1 rfl underlying2 rfl ((Holds.rd H9_ 1 rfl) 1 (vI .i64 0) rfl)) ?_)
 refine S_yes (j := 5) (dj := 11) (b := false) rfl rfl rfl (T_val (v := (vP (some ⟨b7_, 1, none⟩))) (by kernel_rfl) ?_)
 refine S_yes (j := 5) (dj := 11) (b := false) rfl rfl rfl (T_val (v := (vI .i64 0)) (x_load1 rfl underlying2 rfl ((Holds.rd H9_ 0 rfl) 1 (vI .i64 0) rfl)) ?_)
 refine S_yes (j := 5) (dj := 11) (b := false) rfl rfl rfl (T_val (v := (vB false)) (x_bin rfl rfl rfl) ?_)
 refine S_list (T_pickF (v := (vB false)) rfl rfl ?_)
 refine sm (vB false) ?_
 refine S_yes (j := 12) (dj := 18) (b := false) rfl rfl rfl (T_val (v := (vP (some ⟨b2_, 2, none⟩))) (by kernel_rfl) ?_)
 refine S_yes (j := 12) (dj := 18) (b := false) rfl rfl rfl (T_val (v := (vS none 0 0)) (x_load1 rfl underlying40 rfl ((Holds.rd H9_ 1 rfl) 2 (vS none 0 0) rfl)) ?_)
 refine S_yes (j := 12) (dj := 18) (b := false) rfl rfl rfl (T_val (v := (vP (some ⟨b7_, 2, none⟩))) (by kernel_rfl) ?_)
 refine S_yes (j := 12) (dj := 18) (b := false) rfl rfl rfl (T_val (v := (vS none 0 0)) (x_load1 rfl underlying40 rfl ((Holds.rd H9_ 0 rfl) 2 (vS none 0 0) rfl)) ?_)
 have H15_ := ((Holds.bring H9_ 2 rfl) :)
 refine S_yes (j := 12) (dj := 18) (b := false) rfl rfl rfl (T_call (al := [(vS none 0 0), (vS none 0 0)]) (pre := []) rfl rfl cb26 (lwNums0 R) H15_ ?_)
 rintro v14_ p19_ w16_ ⟨rfl, rfl⟩ S18_ H17_
 have S20_ := Same.trans S11_ S18_
 refine S_yes (j := 12) (dj := 18) (b := false) rfl rfl rfl (T_val (v := (vB false)) (x_cast (x_not (b := true) rfl) rfl) ?_)
 refine S_list (T_pickF (v := (vB false)) rfl rfl ?_)
 refine sm (vB false) ?_
 refine S_yes (j := 20) (dj := 26) (b := false) rfl rfl rfl (T_val (v := (vP (some ⟨b2_, 3, none⟩))) (by kernel_rfl) ?_)
 refine S_yes (j := 20) (dj := 26) (b := false) rfl rfl rfl (T_val (v := (vS none 0 0)) (x_load1 rfl underlying39 rfl ((Holds.rd H17_ 2 rfl) 3 (vS none 0 0) rfl)) ?_)
 refine S_yes (j := 20) (dj := 26) (b := false) rfl rfl rfl (T_val (v := (vI .i64 0)) (x_lenS rfl underlying39) ?_)
 refine S_yes (j := 20) (dj := 26) (b := false) rfl rfl rfl (T_val (v := (vP (some ⟨b7_, 3, none⟩))) (by kernel_rfl) ?_)
 refine S_yes (j := 20) (dj := 26) (b := false) rfl rfl rfl (T_val (v := (vS none 0 0)) (x_load1 rfl underlying39 rfl ((Holds.rd H17_ 1 rfl) 3 (vS none 0 0) rfl)) ?_)
 refine S_yes (j := 20) (dj := 26) (b := false) rfl rfl rfl (T_val (v := (vI .i64 0)) (x_lenS rfl underlying39) ?_)
 refine S_yes (j := 20) (dj := 26) (b := false) rfl rfl rfl (T_val (v := (vB false)) (x_bin rfl rfl rfl) ?_)
 refine S_list (T_pickF (v := (vB false)) rfl rfl ?_)
 refine wn (hK13_ _ _ ?_)
 refine C_condF rfl ?_
 refine C_skip (X_then (hK12_ _ _ ?_))
 refine C_seq (fun _ hK21_ => ?_)
 refine cr fun _ hK22_ => ?_
 refine sv (v := (vP (some ⟨b2_, 3, none⟩))) (by kernel_rfl) ?_
 refine sv (v := (vS none 0 0)) (x_load1 rfl underlying39 rfl ((Holds.rd H17_ 2 rfl) 3 (vS none 0 0) rfl)) ?_
 refine sv (v := (vI .i64 0)) (x_lenS rfl underlying39) ?_
 refine sm (vI .i64 0) ?_
 refine wn (hK22_ _ _ ?_)
 refine C_block ?_
 refine C_loop (γ := Nat × Bool) (fun x__ a__ w1__ => match x__ with | ⟨m, t4_v⟩ => ∃ h : Env, a__ = mkA 54 (upd (upd (upd (upd (upd h 2 (vQ b2_)) 3 (vQ b7_)) 4 (vB t4_v)) 37 (vI .i64 0)) 38 (vI .i64 (m : Int))) [] ∧ Holds w1__ (ro R :: cl b7_ 42 [(vB b), (vI .i64 0), (vS none 0 0), (vS none 0 0)] :: cl b2_ 42 [(vB b), (vI .i64 0), (vS none 0 0), (vS none 0 0)] :: F) ∧ Same w w1__) (fun x__ => match x__ with | ⟨m, t4_v⟩ => 0) (⟨0, false⟩) ⟨_, congrArg (fun e => mkA 54 e []) (ch (ch (ch (ch (ch rfl rfl) rfl) rfl) rfl) (congrArg (vI .i64) ((by first | rfl | omega | (simp; done) | (simp; omega)) : 0 = (0 : Int)))), H17_, S20_⟩ ?_
 rintro ⟨m, t4_v⟩ _ w23_ ⟨h, rfl, H24_, S25_⟩
 refine cr fun _ hK26_ => ?_
 refine sv (v := (vB (decide ((m : Int) < 0)))) (x_bin rfl rfl rfl) ?_
 refine wn (hK26_ _ _ ?_)
 refine C_seq (fun _ hK27_ => ?_)
 refine C_cond (b := decide ((m : Int) < 0)) rfl (fun c28_t => ?_) (fun c28_f => ?_)
 ·have c28_tp : (m : Int) < 0 := of_decide_eq_true c28_t
  omega
 ·have c28_fp : ¬ ((m : Int) < 0) := of_decide_eq_false c28_f
  refine C_exit (X_thenX (X_thenX (X_blkHit ?_)))
  refine (X_then (hK21_ _ _ ?_))
  refine cr fun _ hK29_ => ?_
  refine sv (v := (vB true)) (x_assign rfl) ?_
  refine wn (hK29_ _ _ ?_)
  refine C_ret ?_
  refine R_any (v := (vB true)) (run_results1 rfl rfl) ?_
  have H30_ := Holds.pkF H24_ [0] 2
  exact ⟨_, _, rfl, ⟨rfl, rfl⟩, S25_, H30_⟩

theorem lwSame0 (R : HP) (a : GA) (b : Bool) (ha : a.oK = b ∧ a.n = 0 ∧ a.iDs = .slice none 0 0 ∧ a.told = .slice none 0 0) :
    Tri Tryz.prog 13 #[(vA #[(vB a.oK), (vI .i64 a.n), a.iDs, a.told]), (vA #[(vB b), (vI .i64 0), (vS none 0 0), (vS none 0 0)])] R [] (fun v__ post__ => v__ = (vB true) ∧ post__ = []) := by
  obtain ⟨h1, h2, h3, h4⟩ := ha
  obtain ⟨o1, n1, i1, t1⟩ := a
  simp only at h1 h2 h3 h4
  subst h1; subst h2; subst h3; subst h4
  exact lwSame00 R o1
end Go.Proofs.YtlnihndjepjagaaGreat
set_option linter.unusedVariables false
set_option linter.unusedSimpArgs false
namespace Go.Proofs.YtlnihndjepjagaaGreat
open Go Go.RowKit Gw Tryz
open Go.Value renaming int → vI, bool → vB, slice → vS, pointer → vP, agg → vA, tuple → vT

set_option maxHeartbeats 8000000 in
theorem lwLive (R : HP) :
    Tri Tryz.prog 11 #[] R [] (fun v__ post__ => v__ = (vB true) ∧ post__ = []) := by
 refine Tri.into (n := 27) (al := []) func11 rfl ntmps11 rfl rfl fun w F H => ?_
 refine cr fun _ hK1_ => ?_
 refine sv (v := (vB false)) (x_assign rfl) ?_
 refine wn (hK1_ _ _ ?_)
 refine cr fun _ hK2_ => ?_
 refine sv (v := (vA #[(vI .i64 3), (Value.string (ByteArray.mk #[107])), (Value.string ByteArray.empty), (vB false), (vI .i64 0)])) (by kernel_rfl) ?_
 refine sv (v := (vA #[(vI .i64 1), (vI .i64 3), (Value.string (ByteArray.mk #[107])), (Value.string ByteArray.empty), (vB false), (vI .i64 0), (Value.string ByteArray.empty), (vI .i64 0), (vI .i64 0), (vS none 0 0)])) (by kernel_rfl) ?_
 refine sv (v := (vA #[(vI .i64 4), (vI .i64 0), (Value.string ByteArray.empty), (Value.string ByteArray.empty), (vB false), (vI .i64 0), (Value.string (ByteArray.mk #[107])), (vI .i64 0), (vI .i64 0), (vS none 0 0)])) (by kernel_rfl) ?_
 refine S_list (T_new (obj := .cells #[(vI .i64 1), (vI .i64 3), (Value.string (ByteArray.mk #[107])), (Value.string ByteArray.empty), (vB false), (vI .i64 0), (Value.string ByteArray.empty), (vI .i64 0), (vI .i64 0), (vS none 0 0), (vI .i64 4), (vI .i64 0), (Value.string ByteArray.empty), (Value.string ByteArray.empty), (vB false), (vI .i64 0), (Value.string (ByteArray.mk #[107])), (vI .i64 0), (vI .i64 0), (vS none 0 0)] 29) (f := fun b__ => .slice (some ⟨b__, 0, none⟩) 2 2) (A := fun b__ => cl b__ 29 [(vI .i64 1), (vI .i64 3), (Value.string (ByteArray.mk #[107])), (Value.string ByteArray.empty), (vB false), (vI .i64 0), (Value.string ByteArray.empty), (vI .i64 0), (vI .i64 0), (vS none 0 0), (vI .i64 4), (vI .i64 0), (Value.string ByteArray.empty), (Value.string ByteArray.empty), (vB false), (vI .i64 0), (Value.string (ByteArray.mk #[107])), (vI .i64 0), (vI .i64 0), (vS none 0 0)]) (by kernel_rfl) (fun l h => h.alloc _ _) H ?_)
 intro b3_ w4_ S6_ H5_
 have S7_ := Same.trans (Same.refl w) S6_
 have H8_ := ((Holds.bring H5_ 1 rfl) :)
 obtain ⟨R9_, hs10_, ⟨R11_, ha12_, hs13_⟩, H14_⟩ := Holds.gift H8_
 have hr15_ : RS R9_ 10 (vS (some ⟨b3_, 0, none⟩) 2 2) 2 (liveL.flatMap GO.cells) := (RS.set_ (cl_RSn (sz := 10) ha12_ (Sub.rfl' _) (by rfl) (by omega)) rfl rfl).mono hs13_
 refine S_list (T_callG (al := [((vS (some ⟨b3_, 0, none⟩) 2 2))]) (pre := []) rfl (lcons (rfl : (vS (some ⟨b3_, 0, none⟩) 2 2) = ((vS (some ⟨b3_, 0, none⟩) 2 2))) rfl) cb12 (gGroup R9_ (vS (some ⟨b3_, 0, none⟩) 2 2) liveL (RS.set_ hr15_ rfl (by first | rfl | omega | (simp; done) | (simp; omega))) (by decide) (liveOk)) H14_ ?_)
 rintro R17_ v18_ p26_ w23_ hs16_ ⟨_, A19_, rfl, rfl, he20_, he21_, he22_⟩ S25_ H24_
 have S27_ := Same.trans S7_ S25_
 have hz_R_R17_ := Sub.trans' hs10_ hs16_
 have hAl_ := he21_
 have hll_ : liveL.length = 2 := rfl
 have hl3_ : (List.length [(3 : Int)]) = 1 := rfl
 refine sv (v := v18_) (x_assign rfl) ?_
 refine wn (hK2_ _ _ ?_)
 refine cr fun _ hK28_ => ?_
 refine sv (v := v18_) (x_move rfl) ?_
 refine sv (v := (vI .i64 ((List.length A19_) : Int))) (x_lenRS rfl he20_ underlying37) ?_
 refine sv (v := (vB (decide (((List.length A19_) : Int) = 2)))) (x_bin rfl rfl rfl) ?_
 refine sv (v := (vB (decide (((List.length A19_) : Int) = 2)))) (x_move rfl) ?_
 rcases Bool.eq_false_or_eq_true (decide (((List.length A19_) : Int) = 2)) with c29_t | c29_f
 ·have c29_tp : ((List.length A19_) : Int) = 2 := of_decide_eq_true c29_t
  refine S_yes (j := 3) (dj := 10) (b := true) rfl rfl (congrArg vB c29_t) (T_val (v := v18_) (x_move rfl) ?_)
  obtain ⟨x30_, hx31_, hm32_⟩ := elem_at A19_ 1 (by omega)
  have hAa33_ := live_ans (he22_) hx31_
  refine S_yes (j := 3) (dj := 10) (b := true) rfl rfl (congrArg vB c29_t) (T_val (v := (vP (some ⟨(sb v18_), so v18_ + (4 + 0), none⟩))) (x_idxRS (v := v18_) rfl he20_ rfl underlying37 z42 (by omega) (by omega) (by omega : _ = 1) rfl) ?_)
  refine S_yes (j := 3) (dj := 10) (b := true) rfl rfl (congrArg vB c29_t) (T_val (v := (vP (some ⟨(sb v18_), so v18_ + (4 + 2), none⟩))) (by kernel_rfl) ?_)
  refine S_yes (j := 3) (dj := 10) (b := true) rfl rfl (congrArg vB c29_t) (T_val (v := x30_.iDs) (x_load1 rfl underlying40 rfl (RC.cell (RS.rc he20_) (Holds.ro_at H24_ 0 rfl) (j := 4 + 2) (u := x30_.iDs) (fm_cell GA.len hx31_ (i := 2) rfl))) ?_)
  refine S_yes (j := 3) (dj := 10) (b := true) rfl rfl (congrArg vB c29_t) (T_val (v := (vI .i64 ((List.length [(3 : Int)]) : Int))) (x_lenRS rfl hAa33_ underlying40) ?_)
  refine S_yes (j := 3) (dj := 10) (b := true) rfl rfl (congrArg vB c29_t) (T_val (v := (vB (decide (((List.length [(3 : Int)]) : Int) = 1)))) (x_bin rfl rfl rfl) ?_)
  refine S_list (T_pickT (v := (vB (decide (((List.length [(3 : Int)]) : Int) = 1)))) (congrArg vB c29_t) rfl ?_)
  refine sv (v := (vB (decide (((List.length [(3 : Int)]) : Int) = 1)))) (x_move rfl) ?_
  rcases Bool.eq_false_or_eq_true (decide (((List.length [(3 : Int)]) : Int) = 1)) with c34_t | c34_f
  ·have c34_tp : ((List.length [(3 : Int)]) : Int) = 1 := of_decide_eq_true c34_t
   refine S_yes (j := 11) (dj := 18) (b := true) rfl rfl (congrArg vB c34_t) (T_val (v := v18_) (x_move rfl) ?_)
   refine S_yes (j := 11) (dj := 18) (b := true) rfl rfl (congrArg vB c34_t) (T_val (v := (vP (some ⟨(sb v18_), so v18_ + (4 + 0), none⟩))) (x_idxRS (v := v18_) rfl he20_ rfl underlying37 z42 (by omega) (by omega) (by omega : _ = 1) rfl) ?_)
   refine S_yes (j := 11) (dj := 18) (b := true) rfl rfl (congrArg vB c34_t) (T_val (v := (vP (some ⟨(sb v18_), so v18_ + (4 + 2), none⟩))) (by kernel_rfl) ?_)
   refine S_yes (j := 11) (dj := 18) (b := true) rfl rfl (congrArg vB c34_t) (T_val (v := x30_.iDs) (x_load1 rfl underlying40 rfl (RC.cell (RS.rc he20_) (Holds.ro_at H24_ 0 rfl) (j := 4 + 2) (u := x30_.iDs) (fm_cell GA.len hx31_ (i := 2) rfl))) ?_)
   obtain ⟨x35_, hx36_, hm37_⟩ := elem_at [(3 : Int)] 0 (by omega)
   have hv4_ : x35_ = 3 := (Option.some.inj hx36_).symm
   refine S_yes (j := 11) (dj := 18) (b := true) rfl rfl (congrArg vB c34_t) (T_val (v := (vP (some ⟨(sb x30_.iDs), so x30_.iDs + 0, none⟩))) (x_idxRS (v := x30_.iDs) rfl hAa33_ rfl underlying40 z2 (by omega) (by omega) (by omega : _ = 0) (by rw [Nat.mul_one])) ?_)
   refine S_yes (j := 11) (dj := 18) (b := true) rfl rfl (congrArg vB c34_t) (T_val (v := (vI .i64 x35_)) (x_load1 rfl underlying2 rfl (RC.cell (RS.rc hAa33_) (Holds.ro_at H24_ 0 rfl) (j := 0) (u := (vI .i64 x35_)) ((map_at hx36_)))) ?_)
   refine S_yes (j := 11) (dj := 18) (b := true) rfl rfl (congrArg vB c34_t) (T_val (v := (vB (decide (x35_ = 3)))) (x_bin rfl rfl rfl) ?_)
   refine S_list (T_pickT (v := (vB (decide (x35_ = 3)))) (congrArg vB c34_t) rfl ?_)
   refine sv (v := (vB (decide (x35_ = 3)))) (x_assign rfl) ?_
   refine wn (hK28_ _ _ ?_)
   refine C_ret ?_
   refine R_any (v := (vB (decide (x35_ = 3)))) (run_results1 rfl rfl) ?_
   have H38_ : Holds w23_ (ro R :: F) := Holds.ro_less H24_ hz_R_R17_
   exact ⟨_, _, rfl, ⟨(congrArg vB ((by have h__ := hv4_; rw [h__]; rfl) : (decide (x35_ = 3)) = true)), rfl⟩, S27_, H38_⟩
  ·have c34_fp : ¬ (((List.length [(3 : Int)]) : Int) = 1) := of_decide_eq_false c34_f
   omega
 ·have c29_fp : ¬ (((List.length A19_) : Int) = 2) := of_decide_eq_false c29_f
  omega
end Go.Proofs.YtlnihndjepjagaaGreat
set_option linter.unusedVariables false
set_option linter.unusedSimpArgs false
namespace Go.Proofs.YtlnihndjepjagaaGreat
open Go Go.RowKit Gw Tryz
open Go.Value renaming int → vI, bool → vB, slice → vS, pointer → vP, agg → vA, tuple → vT

/-! ### Watchers that join, and one question -/
def askL (l : List GW) (o : GO) : List GO := l.map addOp ++ [o]
theorem askL_len (l : List GW) (o : GO) : (askL l o).length = l.length + 1 := by unfold askL; simp
theorem askL_ev {l : List GW} {o : GO} (h : o.events = .slice none 0 0) : ∀ x ∈ askL l o, x.events = .slice none 0 0 := by
  intro x hx
  rcases List.mem_append.1 hx with hx | hx
  · obtain ⟨y, _, rfl⟩ := List.mem_map.1 hx; rfl
  · rw [List.mem_singleton.1 hx]; exact h
theorem askL_at {l : List GW} {o x : GO} {k : Nat} (hk : o.kind = 3) (h : (askL l o)[k]? = some x) : (x.kind = 1 ∧ k < l.length ∧ ∃ y ∈ l, x = addOp y) ∨ (x = o ∧ k = l.length) := by
  unfold askL at h
  by_cases hl : k < (l.map addOp).length
  · rw [List.getElem?_append_left hl] at h
    obtain ⟨y, hy, rfl⟩ := List.mem_map.1 (List.mem_of_getElem? h)
    exact .inl ⟨rfl, by simpa using hl, y, hy, rfl⟩
  · rw [List.getElem?_append_right (by omega)] at h
    have : k - (l.map addOp).length = 0 := by
      have := (List.getElem?_eq_some_iff.1 h).1
      simp at this
      simp; omega
    rw [this] at h
    cases h
    exact .inr ⟨rfl, by simp at this hl; omega⟩
theorem askL_last {l : List GW} {o : GO} : (askL l o)[l.length]? = some o := by
  unfold askL
  rw [List.getElem?_append_right (by simp)]
  simp
theorem askL_ok {l : List GW} {o : GO} (hk : o.kind = 3) (hs : o.key.size ≤ 1000000000000000) (hz : ∀ x ∈ l, GSz x) (hg : ∀ x ∈ askL l o, GoodO x) : ∀ k x, (askL l o)[k]? = some x → OpL (askL l o) k x := by
  intro k x h
  have hm := hg x (List.mem_of_getElem? h)
  rcases askL_at hk h with ⟨h1, _, y, hy, rfl⟩ | ⟨rfl, _⟩
  · exact .inl ⟨rfl, hm.1 rfl, (hz y hy).2⟩
  · exact .inr (.inl ⟨hk, hm.2 hk, hs⟩)
theorem any_mem {M N : List GW} {p : GW → Bool} (h : ∀ y, y ∈ M ↔ y ∈ N) : M.any p = N.any p := by
  rw [Bool.eq_iff_iff, List.any_eq_true, List.any_eq_true]
  constructor <;> rintro ⟨x, h1, h2⟩
  · exact ⟨x, (h x).1 h1, h2⟩
  · exact ⟨x, (h x).2 h1, h2⟩
theorem mem_dup {M N : List GW} {w : GW} (h : ∀ y, y ∈ M ↔ y ∈ N) (hd : ∃ x ∈ M, x.iD = w.iD) : ∀ y, y ∈ M ↔ y ∈ addW N w := by
  unfold addW
  rw [if_pos]
  · exact h
  · obtain ⟨x, h1, h2⟩ := hd
    exact List.any_eq_true.2 ⟨x, (h x).1 h1, decide_eq_true h2⟩
theorem mem_new {M M' N : List GW} {w : GW} (h : ∀ y, y ∈ M ↔ y ∈ N) (h' : ∀ y, y ∈ M' ↔ y ∈ M ∨ y = w) (hd : ∀ x ∈ M, x.iD ≠ w.iD) : ∀ y, y ∈ M' ↔ y ∈ addW N w := by
  intro y
  unfold addW
  rw [if_neg, h', h, List.mem_append, List.mem_singleton]
  rw [List.any_eq_true]
  rintro ⟨x, h1, h2⟩
  exact hd x ((h x).2 h1) (of_decide_eq_true h2)


set_option maxHeartbeats 16000000 in
theorem lwAfter (R : HP) (v : Value) (l : List GW) (o : GO) (hv : RS R 5 v (List.length l) (l.flatMap GW.cells)) (hl : l.length ≤ 2147483647) (hoe : o.events = .slice none 0 0) :
    TriG Tryz.prog 9 #[v, (vA #[(vI .i64 o.kind), (vI .i64 o.w_ID), (Value.string o.w_Key), (Value.string o.w_End), (vB o.w_HasEnd), (vI .i64 o.w_MinRev), (Value.string o.key), (vI .i64 o.cur), (vI .i64 o.compact), o.events])] R [] (fun R' v__ post__ => ∃ (v' : Value) (b : Bool), v__ = (vT #[v', (vB b)]) ∧ post__ = [] ∧ (RS R' 10 v' (List.length (askL l o)) ((askL l o).flatMap GO.cells)) ∧ (b = true → (askL l o).length ≤ 200 ∧ ∀ x ∈ (askL l o), GoodO x)) := by
 have hoe1_ : o.events.oneCell' = true := by rw [hoe]; rfl
 refine TriG.into (n := 28) (al := [v, (vA #[(vI .i64 o.kind), (vI .i64 o.w_ID), (Value.string o.w_Key), (Value.string o.w_End), (vB o.w_HasEnd), (vI .i64 o.w_MinRev), (Value.string o.key), (vI .i64 o.cur), (vI .i64 o.compact), o.events])]) func9 rfl ntmps9 rfl rfl fun w F H => ?_
 refine cr fun _ hK1_ => ?_
 refine S_list (T_box (v := (vA #[(vI .i64 o.kind), (vI .i64 o.w_ID), (Value.string o.w_Key), (Value.string o.w_End), (vB o.w_HasEnd), (vI .i64 o.w_MinRev), (Value.string o.key), (vI .i64 o.cur), (vI .i64 o.compact), o.events])) rfl H ?_)
 intro b2_ w3_ S5_ H4_
 have S6_ := Same.trans (Same.refl w) S5_
 refine sv (v := (vS none 0 0)) (x_assign rfl) ?_
 refine sv (v := (vB false)) (x_assign rfl) ?_
 refine wn (hK1_ _ _ ?_)
 refine cr fun _ hK7_ => ?_
 refine sv (v := (vS none 0 0)) (x_assign rfl) ?_
 refine wn (hK7_ _ _ ?_)
 refine C_seq (fun _ hK8_ => ?_)
 refine cr fun _ hK9_ => ?_
 refine sv (v := v) (x_move rfl) ?_
 refine sv (v := (vI .i64 ((List.length l) : Int))) (x_lenRS rfl hv underlying22) ?_
 refine sm (vI .i64 0) ?_
 refine wn (hK9_ _ _ ?_)
 refine C_block ?_
 have H10_ : Holds w3_ (sl 29 10 (vS none 0 0) (List.length ([] : List GO)) (([] : List GO).flatMap GO.cells) :: cl b2_ 29 [(vI .i64 o.kind), (vI .i64 o.w_ID), (Value.string o.w_Key), (Value.string o.w_End), (vB o.w_HasEnd), (vI .i64 o.w_MinRev), (Value.string o.key), (vI .i64 o.cur), (vI .i64 o.compact), o.events] :: ro R :: F) := Holds.add_nil H4_ 29 10
 have H11_ := Holds.resl H10_ 0 rfl ((by first | rfl | (simp [GW.cells, GO.cells, GA.cells]; done)) : ([] : List GO).flatMap GO.cells = (List.map addOp (List.take 0 l)).flatMap GO.cells) ((by first | rfl | omega | (simp; done) | (simp; omega)) : (List.length ([] : List GO)) = (List.length (List.map addOp (List.take 0 l))))
 refine C_loop (γ := Nat × Value) (fun x__ a__ w1__ => match x__ with | ⟨k, cv⟩ => ∃ h : Env, a__ = mkA 28 (upd (upd (upd (upd (upd (upd (upd h 3 (vQ b2_)) 4 (vS none 0 0)) 5 (vB false)) 6 cv) 9 v) 10 (vI .i64 ((List.length l) : Int))) 11 (vI .i64 (k : Int))) [] ∧ Holds w1__ (sl 29 10 cv (List.length (List.map addOp (List.take k l))) ((List.map addOp (List.take k l)).flatMap GO.cells) :: cl b2_ 29 [(vI .i64 o.kind), (vI .i64 o.w_ID), (Value.string o.w_Key), (Value.string o.w_End), (vB o.w_HasEnd), (vI .i64 o.w_MinRev), (Value.string o.key), (vI .i64 o.cur), (vI .i64 o.compact), o.events] :: ro R :: F) ∧ Same w w1__ ∧ (k ≤ l.length)) (fun x__ => match x__ with | ⟨k, cv⟩ => l.length - k) (⟨0, (vS none 0 0)⟩) ⟨_, congrArg (fun e => mkA 28 e []) (ch (ch (ch (ch (ch (ch (ch rfl rfl) rfl) rfl) (rfl : (vS none 0 0) = ((vS none 0 0)))) rfl) rfl) (congrArg (vI .i64) ((by first | rfl | omega | (simp; done) | (simp; omega)) : 0 = (0 : Int)))), H11_, S6_, (by first | assumption | omega | exact rfl)⟩ ?_
 rintro ⟨k, cv⟩ _ w12_ ⟨h, rfl, H13_, S14_, hkk⟩
 refine cr fun _ hK15_ => ?_
 refine sv (v := (vB (decide ((k : Int) < ((List.length l) : Int))))) (x_bin rfl rfl rfl) ?_
 refine wn (hK15_ _ _ ?_)
 refine C_seq (fun _ hK16_ => ?_)
 refine C_cond (b := decide ((k : Int) < ((List.length l) : Int))) rfl (fun c17_t => ?_) (fun c17_f => ?_)
 ·have c17_tp : (k : Int) < ((List.length l) : Int) := of_decide_eq_true c17_t
  refine C_skip (X_then (hK16_ _ _ ?_))
  refine C_seq (fun _ hK18_ => ?_)
  refine C_block ?_
  refine cr fun _ hK19_ => ?_
  obtain ⟨x20_, hx21_, hm22_⟩ := elem_at l k (by omega)
  refine sv (v := (vP (some ⟨(sb v), so v + (k * 5 + 0), none⟩))) (x_idxRS (v := v) rfl hv rfl underlying22 z26 (by omega) (by omega) (by omega : _ = k) rfl) ?_
  refine sv (v := (vA #[(vI .i64 x20_.iD), (Value.string x20_.key), (Value.string x20_.end_), (vB x20_.hasEnd), (vI .i64 x20_.minRev)])) (x_loadN (vs := [(vI .i64 x20_.iD), (Value.string x20_.key), (Value.string x20_.end_), (vB x20_.hasEnd), (vI .i64 x20_.minRev)]) rfl underlying26 rfl z26 rfl (RC.cells (RS.rc hv) (Holds.ro_at H13_ 2 rfl) (k * 5 + 0) (fm_cells GW.len hx21_ (i := 0) rfl))) ?_
  refine S_list (T_alloc z26 H13_ ?_)
  intro b23_ w24_ S26_ H25_
  have S27_ := Same.trans S14_ S26_
  refine S_list0 (T_storeN (vs := [(vI .i64 x20_.iD), (Value.string x20_.key), (Value.string x20_.end_), (vB x20_.hasEnd), (vI .i64 x20_.minRev)]) rfl rfl z26 rfl (by simp [Value.oneCell']) H25_ 0 rfl (Nat.le_of_ble_eq_true (by rfl)) ?_)
  intro w28_ S30_ H29_
  have S31_ := Same.trans S27_ S30_
  refine wn (hK19_ _ _ ?_)
  refine C_reg ?_
  refine sv (v := cv) (x_move rfl) ?_
  refine sv (v := (vA #[(vI .i64 x20_.iD), (Value.string x20_.key), (Value.string x20_.end_), (vB x20_.hasEnd), (vI .i64 x20_.minRev)])) (x_loadN (vs := [(vI .i64 x20_.iD), (Value.string x20_.key), (Value.string x20_.end_), (vB x20_.hasEnd), (vI .i64 x20_.minRev)]) rfl underlying26 rfl z26 rfl (Rd.cells (Holds.rd H29_ 0 rfl) 0 rfl)) ?_
  refine sv (v := (vA #[(vI .i64 1), (vI .i64 x20_.iD), (Value.string x20_.key), (Value.string x20_.end_), (vB x20_.hasEnd), (vI .i64 x20_.minRev), (Value.string ByteArray.empty), (vI .i64 0), (vI .i64 0), (vS none 0 0)])) (by kernel_rfl) ?_
  refine S_list (T_new (obj := .cells #[(vI .i64 1), (vI .i64 x20_.iD), (Value.string x20_.key), (Value.string x20_.end_), (vB x20_.hasEnd), (vI .i64 x20_.minRev), (Value.string ByteArray.empty), (vI .i64 0), (vI .i64 0), (vS none 0 0)] 29) (f := fun b__ => .slice (some ⟨b__, 0, none⟩) 1 1) (A := fun b__ => cl b__ 29 [(vI .i64 1), (vI .i64 x20_.iD), (Value.string x20_.key), (Value.string x20_.end_), (vB x20_.hasEnd), (vI .i64 x20_.minRev), (Value.string ByteArray.empty), (vI .i64 0), (vI .i64 0), (vS none 0 0)]) (by kernel_rfl) (fun l h => h.alloc _ _) H29_ ?_)
  intro b32_ w33_ S35_ H34_
  have S36_ := Same.trans S31_ S35_
  refine S_list (T_append rfl rfl underlying32 z29 rfl (by decide) H34_ 2 rfl (Holds.cl_src H34_ 0 rfl underlying32 (by simp [Value.oneCell']) rfl) (by simp only [List.length_map, List.length_take]; omega) ?_)
  intro v37_ w38_ S40_ H39_
  have S41_ := Same.trans S36_ S40_
  refine sv (v := v37_) (x_assign rfl) ?_
  refine wpList_nil (X_blkN (X_then (hK18_ _ _ ?_)))
  refine C_reg ?_
  refine sv (v := (vI .i64 ((k : Int) + 1))) (x_bin rfl rfl (ib_add (IntWalk.i64_in _ (by omega)))) ?_
  refine sm (vI .i64 ((k : Int) + 1)) ?_
  refine wpList_nil (X_then ?_)
  have H42_ := Holds.resl H39_ 2 rfl (by rw [gtake hx21_, List.map_append, List.flatMap_append]; rfl : ((List.map addOp (List.take k l)).flatMap GO.cells) ++ [(vI .i64 1), (vI .i64 x20_.iD), (Value.string x20_.key), (Value.string x20_.end_), (vB x20_.hasEnd), (vI .i64 x20_.minRev), (Value.string ByteArray.empty), (vI .i64 0), (vI .i64 0), (vS none 0 0)] = (List.map addOp (List.take (k + 1) l)).flatMap GO.cells) (by rw [gtake hx21_, List.map_append, List.length_append]; rfl : (List.length (List.map addOp (List.take k l))) + 1 = (List.length (List.map addOp (List.take (k + 1) l))))
  have H43_ := Holds.pkF H42_ [2, 2, 2] 2
  exact ⟨⟨k + 1, v37_⟩, ⟨_, congrArg (fun e => mkA 28 e []) (ch (ch (ch (ch (ch (ch (ch rfl rfl) rfl) rfl) rfl) rfl) rfl) (congrArg (vI .i64) ((by first | rfl | omega | (simp; done) | (simp; omega)) : (k : Int) + 1 = ((k + 1 : Nat) : Int)))), H43_, S41_, (by first | assumption | omega | exact rfl)⟩, by first | omega | (dsimp only; omega) | (simp; omega)⟩
 ·have c17_fp : ¬ ((k : Int) < ((List.length l) : Int)) := of_decide_eq_false c17_f
  refine C_exit (X_thenX (X_thenX (X_blkHit ?_)))
  refine (X_then (hK8_ _ _ ?_))
  refine cr fun _ hK44_ => ?_
  refine sv (v := cv) (x_move rfl) ?_
  refine sv (v := (vA #[(vI .i64 o.kind), (vI .i64 o.w_ID), (Value.string o.w_Key), (Value.string o.w_End), (vB o.w_HasEnd), (vI .i64 o.w_MinRev), (Value.string o.key), (vI .i64 o.cur), (vI .i64 o.compact), o.events])) (x_loadN (vs := [(vI .i64 o.kind), (vI .i64 o.w_ID), (Value.string o.w_Key), (Value.string o.w_End), (vB o.w_HasEnd), (vI .i64 o.w_MinRev), (Value.string o.key), (vI .i64 o.cur), (vI .i64 o.compact), o.events]) rfl underlying29 rfl z29 rfl (Rd.cells (Holds.rd H13_ 1 rfl) 0 rfl)) ?_
  refine S_list (T_new (obj := .cells #[(vI .i64 o.kind), (vI .i64 o.w_ID), (Value.string o.w_Key), (Value.string o.w_End), (vB o.w_HasEnd), (vI .i64 o.w_MinRev), (Value.string o.key), (vI .i64 o.cur), (vI .i64 o.compact), o.events] 29) (f := fun b__ => .slice (some ⟨b__, 0, none⟩) 1 1) (A := fun b__ => cl b__ 29 [(vI .i64 o.kind), (vI .i64 o.w_ID), (Value.string o.w_Key), (Value.string o.w_End), (vB o.w_HasEnd), (vI .i64 o.w_MinRev), (Value.string o.key), (vI .i64 o.cur), (vI .i64 o.compact), o.events]) (by kernel_rfl) (fun l h => h.alloc _ _) H13_ ?_)
  intro b45_ w46_ S48_ H47_
  have S49_ := Same.trans S14_ S48_
  refine S_list (T_append rfl rfl underlying32 z29 rfl (by decide) H47_ 1 rfl (Holds.cl_src H47_ 0 rfl underlying32 (List.forall_mem_cons.2 ⟨rfl, (List.forall_mem_cons.2 ⟨rfl, (List.forall_mem_cons.2 ⟨rfl, (List.forall_mem_cons.2 ⟨rfl, (List.forall_mem_cons.2 ⟨rfl, (List.forall_mem_cons.2 ⟨rfl, (List.forall_mem_cons.2 ⟨rfl, (List.forall_mem_cons.2 ⟨rfl, (List.forall_mem_cons.2 ⟨rfl, (List.forall_mem_cons.2 ⟨(by rw [hoe]; rfl), (fun _ h__ => by cases h__)⟩)⟩)⟩)⟩)⟩)⟩)⟩)⟩)⟩)⟩) rfl) (by simp only [List.length_map, List.length_take]; omega) ?_)
  intro v50_ w51_ S53_ H52_
  have S54_ := Same.trans S49_ S53_
  refine sv (v := v50_) (x_assign rfl) ?_
  refine wn (hK44_ _ _ ?_)
  refine cr fun _ hK55_ => ?_
  refine sv (v := v50_) (x_move rfl) ?_
  refine sv (v := v50_) (x_move rfl) ?_
  have H56_ := Holds.resl H52_ 1 rfl (by unfold askL; rw [List.take_of_length_le (by omega), List.flatMap_append]; rfl : ((List.map addOp (List.take k l)).flatMap GO.cells) ++ [(vI .i64 o.kind), (vI .i64 o.w_ID), (Value.string o.w_Key), (Value.string o.w_End), (vB o.w_HasEnd), (vI .i64 o.w_MinRev), (Value.string o.key), (vI .i64 o.cur), (vI .i64 o.compact), o.events] = (askL l o).flatMap GO.cells) (by unfold askL; rw [List.take_of_length_le (by omega), List.length_append]; rfl : (List.length (List.map addOp (List.take k l))) + 1 = (List.length (askL l o)))
  have hal_ := askL_len l o
  have H57_ := ((Holds.bring (Holds.bring H56_ 1 rfl) 3 rfl) :)
  obtain ⟨R58_, hs59_, ⟨R60_, ha61_, hs62_⟩, H63_⟩ := Holds.gift H57_
  have hr64_ : RS R58_ 10 v50_ (List.length (askL l o)) ((askL l o).flatMap GO.cells) := (sl_RS ha61_ (Sub.rfl' _)).mono hs62_
  refine S_list (T_call (al := [v50_]) (pre := []) rfl rfl cb10 (lwGood R58_ v50_ (askL l o) hr64_ ((askL_ev hoe)) (by omega)) H63_ ?_)
  rintro v65_ p71_ w68_ ⟨b66_, rfl, rfl, he67_⟩ S70_ H69_
  have S72_ := Same.trans S54_ S70_
  refine sv (v := v50_) (x_assign rfl) ?_
  refine sv (v := (vB b66_)) (x_assign rfl) ?_
  refine wn (hK55_ _ _ ?_)
  refine C_ret ?_
  refine R_any (v := (vT #[v50_, (vB b66_)])) (run_results2 rfl rfl rfl) ?_
  have H73_ := Holds.pkF H69_ [0] 2
  exact ⟨R58_, _, _, rfl, hs59_, ⟨v50_, b66_, rfl, rfl, (hr64_), (he67_)⟩, S72_, H73_⟩
end Go.Proofs.YtlnihndjepjagaaGreat
set_option linter.unusedVariables false
set_option linter.unusedSimpArgs false
namespace Go.Proofs.YtlnihndjepjagaaGreat
open Go Go.RowKit Gw Tryz
open Go.Value renaming int → vI, bool → vB, slice → vS, pointer → vP, agg → vA, tuple → vT

theorem crDo (R : HP) (cb : Nat) (pv : Value) (M : List GW) (o : GO) (hP : RS R 5 pv (List.length M) (M.flatMap GW.cells)) (hMl : M.length ≤ 100000) (hR : Ris M) (hop : o.kind = 1 ∨ o.kind = 3) (h5 : M.length < 500) :
    TriG Tryz.prog 22 #[(vQ cb), (vA #[(vI .i64 o.kind), (vI .i64 o.w_ID), (Value.string o.w_Key), (Value.string o.w_End), (vB o.w_HasEnd), (vI .i64 o.w_MinRev), (Value.string o.key), (vI .i64 o.cur), (vI .i64 o.compact), o.events])] R [cl cb 59 [pv]] (fun R' v__ post__ => (v__ = (vA #[(vB false), (vI .i64 0), (vS none 0 0), (vS none 0 0)]) ∧ post__ = [cl cb 59 [pv]] ∧ (o.kind = 1) ∧ (∃ x ∈ M, x.iD = o.w_ID)) ∨ (∃ (pv' : Value) (M' : List GW), v__ = (vA #[(vB true), (vI .i64 0), (vS none 0 0), (vS none 0 0)]) ∧ post__ = [cl cb 59 [pv']] ∧ (o.kind = 1) ∧ (RS R' 5 pv' (List.length M') (M'.flatMap GW.cells)) ∧ (Ris M') ∧ (∀ y, y ∈ M' ↔ y ∈ M ∨ y = wOf o) ∧ (∀ x ∈ M, x.iD ≠ o.w_ID) ∧ (M'.length = M.length + 1)) ∨ (v__ = (vA #[(vB (List.any M (fun x => seesB x o.key))), (vI .i64 0), (vS none 0 0), (vS none 0 0)]) ∧ post__ = [cl cb 59 [pv]] ∧ (o.kind = 3))) := by
  rcases hop with h | h
  · refine TriG.mono (crAdd R cb pv M o hP hMl hR h h5) fun R' v l q => ?_
    rcases q with ⟨e1, e2, e3⟩ | ⟨pv', M', e1, e2, e3⟩
    · exact .inl ⟨e1, e2, h, e3⟩
    · exact .inr (.inl ⟨pv', M', e1, e2, h, e3⟩)
  · refine TriG.mono (crAsk R cb pv M o hP hMl h) fun R' v l q => ?_
    obtain ⟨e1, e2⟩ := q
    exact .inr (.inr ⟨e1, e2, h⟩)
theorem askL_kind {l : List GW} {o x : GO} {k : Nat} (hk : o.kind = 3) (h : (askL l o)[k]? = some x) : x.kind = 1 ∨ x.kind = 3 := by
  rcases askL_at hk h with ⟨h1, _⟩ | ⟨rfl, _⟩
  · exact .inl h1
  · exact .inr hk

set_option maxHeartbeats 16000000 in
theorem lwLast (R : HP) (v : Value) (l : List GW) (o : GO) (hv : RS R 5 v (List.length l) (l.flatMap GW.cells)) (hl : l.length ≤ 2147483647) (hz : ∀ x ∈ l, GSz x) (hoe : o.events = .slice none 0 0) (hk : o.kind = 3) (hs : o.key.size ≤ 1000000000000000) :
    Tri Tryz.prog 7 #[v, (vA #[(vI .i64 o.kind), (vI .i64 o.w_ID), (Value.string o.w_Key), (Value.string o.w_End), (vB o.w_HasEnd), (vI .i64 o.w_MinRev), (Value.string o.key), (vI .i64 o.cur), (vI .i64 o.compact), o.events])] R [] (fun v__ post__ => v__ = (vB true) ∧ post__ = []) := by
 refine Tri.into (n := 53) (al := [v, (vA #[(vI .i64 o.kind), (vI .i64 o.w_ID), (Value.string o.w_Key), (Value.string o.w_End), (vB o.w_HasEnd), (vI .i64 o.w_MinRev), (Value.string o.key), (vI .i64 o.cur), (vI .i64 o.compact), o.events])]) func7 rfl ntmps7 rfl rfl fun w F H => ?_
 refine cr fun _ hK1_ => ?_
 refine S_list (T_box (v := (vA #[(vI .i64 o.kind), (vI .i64 o.w_ID), (Value.string o.w_Key), (Value.string o.w_End), (vB o.w_HasEnd), (vI .i64 o.w_MinRev), (Value.string o.key), (vI .i64 o.cur), (vI .i64 o.compact), o.events])) rfl H ?_)
 intro b2_ w3_ S5_ H4_
 have S6_ := Same.trans (Same.refl w) S5_
 refine sv (v := (vB false)) (x_assign rfl) ?_
 refine wn (hK1_ _ _ ?_)
 refine cr fun _ hK7_ => ?_
 refine sv (v := v) (x_move rfl) ?_
 refine sv (v := (vA #[(vI .i64 o.kind), (vI .i64 o.w_ID), (Value.string o.w_Key), (Value.string o.w_End), (vB o.w_HasEnd), (vI .i64 o.w_MinRev), (Value.string o.key), (vI .i64 o.cur), (vI .i64 o.compact), o.events])) (x_loadN (vs := [(vI .i64 o.kind), (vI .i64 o.w_ID), (Value.string o.w_Key), (Value.string o.w_End), (vB o.w_HasEnd), (vI .i64 o.w_MinRev), (Value.string o.key), (vI .i64 o.cur), (vI .i64 o.compact), o.events]) rfl underlying29 rfl z29 rfl (Rd.cells (Holds.rd H4_ 0 rfl) 0 rfl)) ?_
 have H15_ := ((Holds.bring H4_ 1 rfl) :)
 refine S_list (T_callG (al := [v, (vA #[(vI .i64 o.kind), (vI .i64 o.w_ID), (Value.string o.w_Key), (Value.string o.w_End), (vB o.w_HasEnd), (vI .i64 o.w_MinRev), (Value.string o.key), (vI .i64 o.cur), (vI .i64 o.compact), o.events])]) (pre := []) rfl rfl cb9 (lwAfter R v l o hv (hl) (hoe)) H15_ ?_)
 rintro R9_ v10_ p19_ w16_ hs8_ ⟨v11_, b12_, rfl, rfl, he13_, he14_⟩ S18_ H17_
 have S20_ := Same.trans S6_ S18_
 have hal_ := askL_len l o
 refine sm (vT #[v11_, (vB b12_)]) ?_
 refine sv (v := v11_) (by kernel_rfl) ?_
 refine sv (v := (vB b12_)) (by kernel_rfl) ?_
 refine sv (v := v11_) (x_assign rfl) ?_
 refine sv (v := (vB b12_)) (x_assign rfl) ?_
 refine wn (hK7_ _ _ ?_)
 refine C_seq (fun _ hK21_ => ?_)
 refine cr fun _ hK22_ => ?_
 refine sm (vB b12_) ?_
 refine sv (v := (vB (!b12_))) (x_not rfl) ?_
 refine wn (hK22_ _ _ ?_)
 refine C_cond (b := !b12_) rfl (fun c23_t => ?_) (fun c23_f => ?_)
 ·skip
  refine cr fun _ hK24_ => ?_
  refine S_list (T_call (al := []) (pre := []) rfl rfl cb11 (lwLive R9_) H17_ ?_)
  rintro v25_ p29_ w26_ ⟨rfl, rfl⟩ S28_ H27_
  have S30_ := Same.trans S20_ S28_
  refine sv (v := (vB true)) (x_assign rfl) ?_
  refine wn (hK24_ _ _ ?_)
  refine C_ret (X_thenR ?_)
  refine R_any (v := (vB true)) (run_results1 rfl rfl) ?_
  have H31_ : Holds w26_ (ro R :: cl b2_ 29 [(vI .i64 o.kind), (vI .i64 o.w_ID), (Value.string o.w_Key), (Value.string o.w_End), (vB o.w_HasEnd), (vI .i64 o.w_MinRev), (Value.string o.key), (vI .i64 o.cur), (vI .i64 o.compact), o.events] :: F) := Holds.ro_less H27_ hs8_
  have H32_ := Holds.pkF H31_ [0] 1
  exact ⟨_, _, rfl, ⟨rfl, rfl⟩, S30_, H32_⟩
 ·skip
  refine C_skip (X_then (hK21_ _ _ ?_))
  refine cr fun _ hK33_ => ?_
  refine sv (v := v11_) (x_move rfl) ?_
  have hgd_ := he14_ (by simpa using c23_f)
  have hg2_ := hgd_.1
  refine S_list (T_callG (al := [v11_]) (pre := []) rfl rfl cb12 (gGroup R9_ v11_ (askL l o) he13_ (by omega) ((askL_ok hk hs hz hgd_.2))) H17_ ?_)
  rintro R35_ v36_ p44_ w41_ hs34_ ⟨_, A37_, rfl, rfl, he38_, he39_, he40_⟩ S43_ H42_
  have S45_ := Same.trans S20_ S43_
  have hz_R_R35_ := Sub.trans' hs8_ hs34_
  have hAl_ := he39_
  refine sv (v := v36_) (x_assign rfl) ?_
  refine wn (hK33_ _ _ ?_)
  refine cr fun _ hK46_ => ?_
  refine sv (v := (vA #[(vS none 0 0)])) (by kernel_rfl) ?_
  refine S_list (T_box (v := (vA #[(vS none 0 0)])) rfl H42_ ?_)
  intro b47_ w48_ S50_ H49_
  have S51_ := Same.trans S45_ S50_
  refine sv (v := (vQ b47_)) (x_assign rfl) ?_
  refine wn (hK46_ _ _ ?_)
  refine cr fun _ hK52_ => ?_
  refine S_list (T_alloc z42 H49_ ?_)
  intro b53_ w54_ S56_ H55_
  have S57_ := Same.trans S51_ S56_
  refine wn (hK52_ _ _ ?_)
  refine C_seq (fun _ hK58_ => ?_)
  refine cr fun _ hK59_ => ?_
  refine sv (v := v11_) (x_move rfl) ?_
  refine sv (v := (vI .i64 ((List.length (askL l o)) : Int))) (x_lenRS rfl (RS.mono he13_ hs34_) underlying32) ?_
  refine sm (vI .i64 0) ?_
  refine wn (hK59_ _ _ ?_)
  refine C_block ?_
  have H60_ := Holds.recl H55_ 1 rfl ((lcons (rfl : (vS none 0 0) = ((vS none 0 0))) rfl) : [(vS none 0 0)] = [((vS none 0 0))])
  have H61_ := Holds.pkF H60_ [0, 0, 0] 1
  refine C_loop (γ := HP × Nat × Value × (List GW) × Bool) (fun x__ a__ w1__ => match x__ with | ⟨R1, j, pv, M, wb⟩ => ∃ h : Env, a__ = mkA 53 (upd (upd (upd (upd (upd (upd (upd (upd h 4 (vB false)) 5 v11_) 7 v36_) 8 (vQ b47_)) 9 (vQ b53_)) 25 v11_) 26 (vI .i64 ((List.length (askL l o)) : Int))) 27 (vI .i64 (j : Int))) [] ∧ Holds w1__ (cl b53_ 42 [(vB wb), (vI .i64 0), (vS none 0 0), (vS none 0 0)] :: cl b47_ 59 [pv] :: ro R1 :: F) ∧ Same w w1__ ∧ (Sub R35_ R1) ∧ (j ≤ ((askL l o)).length) ∧ (RS R1 5 pv (List.length M) (M.flatMap GW.cells)) ∧ (Ris M) ∧ (M.length ≤ j) ∧ (∀ y, y ∈ M ↔ y ∈ gMs (List.take j (askL l o))) ∧ (∀ o', 0 < j → ((askL l o))[j - 1]? = some o' → o'.kind = 3 → wb = (gMs (List.take (j - 1) (askL l o))).any (fun x => seesB x o'.key))) (fun x__ => match x__ with | ⟨R1, j, pv, M, wb⟩ => ((askL l o)).length - j) (⟨R35_, 0, (vS none 0 0), ([] : List GW), false⟩) ⟨_, congrArg (fun e => mkA 53 e []) (ch (ch (ch (ch (ch (ch (ch (ch rfl rfl) rfl) rfl) rfl) rfl) rfl) rfl) (congrArg (vI .i64) ((by first | rfl | omega | (simp; done) | (simp; omega)) : 0 = (0 : Int)))), H61_, S57_, (Sub.rfl' _), (by first | assumption | omega | exact rfl), (RS.nil _ _), (List.Pairwise.nil), (Nat.le_refl _), (fun y => Iff.rfl), (fun o' h => absurd h (Nat.lt_irrefl 0))⟩ ?_
  rintro ⟨R1, j, pv, M, wb⟩ _ w62_ ⟨h, rfl, H63_, S64_, hsR1, hjj, hP, hR, hml, hmem, hwb⟩
  have hz_R_R1 := Sub.trans' hz_R_R35_ hsR1
  have hz_R9__R1 := Sub.trans' hs34_ hsR1
  refine cr fun _ hK65_ => ?_
  refine sv (v := (vB (decide ((j : Int) < ((List.length (askL l o)) : Int))))) (x_bin rfl rfl rfl) ?_
  refine wn (hK65_ _ _ ?_)
  refine C_seq (fun _ hK66_ => ?_)
  refine C_cond (b := decide ((j : Int) < ((List.length (askL l o)) : Int))) rfl (fun c67_t => ?_) (fun c67_f => ?_)
  ·have c67_tp : (j : Int) < ((List.length (askL l o)) : Int) := of_decide_eq_true c67_t
   refine C_skip (X_then (hK66_ _ _ ?_))
   refine C_seq (fun _ hK68_ => ?_)
   refine C_block ?_
   refine cr fun _ hK69_ => ?_
   obtain ⟨x70_, hx71_, hm72_⟩ := elem_at (askL l o) j (by omega)
   refine sv (v := (vP (some ⟨(sb v11_), so v11_ + (j * 10 + 0), none⟩))) (x_idxRS (v := v11_) rfl (RS.mono he13_ hz_R9__R1) rfl underlying32 z29 (by omega) (by omega) (by omega : _ = j) rfl) ?_
   refine sv (v := (vA #[(vI .i64 x70_.kind), (vI .i64 x70_.w_ID), (Value.string x70_.w_Key), (Value.string x70_.w_End), (vB x70_.w_HasEnd), (vI .i64 x70_.w_MinRev), (Value.string x70_.key), (vI .i64 x70_.cur), (vI .i64 x70_.compact), x70_.events])) (x_loadN (vs := [(vI .i64 x70_.kind), (vI .i64 x70_.w_ID), (Value.string x70_.w_Key), (Value.string x70_.w_End), (vB x70_.w_HasEnd), (vI .i64 x70_.w_MinRev), (Value.string x70_.key), (vI .i64 x70_.cur), (vI .i64 x70_.compact), x70_.events]) rfl underlying29 rfl z29 rfl (RC.cells (RS.rc (RS.mono he13_ hz_R9__R1)) (Holds.ro_at H63_ 2 rfl) (j * 10 + 0) (fm_cells GO.len hx71_ (i := 0) rfl))) ?_
   refine S_list (T_alloc z29 H63_ ?_)
   intro b73_ w74_ S76_ H75_
   have S77_ := Same.trans S64_ S76_
   refine S_list0 (T_storeN (vs := [(vI .i64 x70_.kind), (vI .i64 x70_.w_ID), (Value.string x70_.w_Key), (Value.string x70_.w_End), (vB x70_.w_HasEnd), (vI .i64 x70_.w_MinRev), (Value.string x70_.key), (vI .i64 x70_.cur), (vI .i64 x70_.compact), x70_.events]) rfl rfl z29 rfl (List.forall_mem_cons.2 ⟨rfl, (List.forall_mem_cons.2 ⟨rfl, (List.forall_mem_cons.2 ⟨rfl, (List.forall_mem_cons.2 ⟨rfl, (List.forall_mem_cons.2 ⟨rfl, (List.forall_mem_cons.2 ⟨rfl, (List.forall_mem_cons.2 ⟨rfl, (List.forall_mem_cons.2 ⟨rfl, (List.forall_mem_cons.2 ⟨rfl, (List.forall_mem_cons.2 ⟨(by rw [askL_ev hoe x70_ hm72_]; rfl), (fun _ h__ => by cases h__)⟩)⟩)⟩)⟩)⟩)⟩)⟩)⟩)⟩)⟩) H75_ 0 rfl (Nat.le_of_ble_eq_true (by rfl)) ?_)
   intro w78_ S80_ H79_
   have S81_ := Same.trans S77_ S80_
   refine wn (hK69_ _ _ ?_)
   refine C_reg ?_
   refine sm (vQ b47_) ?_
   refine sv (v := (vA #[(vI .i64 x70_.kind), (vI .i64 x70_.w_ID), (Value.string x70_.w_Key), (Value.string x70_.w_End), (vB x70_.w_HasEnd), (vI .i64 x70_.w_MinRev), (Value.string x70_.key), (vI .i64 x70_.cur), (vI .i64 x70_.compact), x70_.events])) (x_loadN (vs := [(vI .i64 x70_.kind), (vI .i64 x70_.w_ID), (Value.string x70_.w_Key), (Value.string x70_.w_End), (vB x70_.w_HasEnd), (vI .i64 x70_.w_MinRev), (Value.string x70_.key), (vI .i64 x70_.cur), (vI .i64 x70_.compact), x70_.events]) rfl underlying29 rfl z29 rfl (Rd.cells (Holds.rd H79_ 0 rfl) 0 rfl)) ?_
   have H96_ := ((Holds.bring (Holds.bring H79_ 2 rfl) 3 rfl) :)
   refine S_list (T_callG (al := [(vQ b47_), (vA #[(vI .i64 x70_.kind), (vI .i64 x70_.w_ID), (Value.string x70_.w_Key), (Value.string x70_.w_End), (vB x70_.w_HasEnd), (vI .i64 x70_.w_MinRev), (Value.string x70_.key), (vI .i64 x70_.cur), (vI .i64 x70_.compact), x70_.events])]) (pre := [cl b47_ 59 [pv]]) rfl rfl cb22 (crDo R1 b47_ pv M x70_ (hP) (by omega) (hR) ((askL_kind hk hx71_)) (by omega)) H96_ ?_)
   rintro R83_ v84_ p100_ w97_ hs82_ hq101_ S99_ H98_
   rcases hq101_ with ⟨rfl, rfl, he85_, he86_⟩ | ⟨pv87_, M88_, rfl, rfl, he89_, he90_, he91_, he92_, he93_, he94_⟩ | ⟨rfl, rfl, he95_⟩
   ·skip
    have S102_ := Same.trans S81_ S99_
    have hz_R_R83_ := Sub.trans' hz_R_R1 hs82_
    have hz_R9__R83_ := Sub.trans' hz_R9__R1 hs82_
    have hz_R35__R83_ := Sub.trans' hsR1 hs82_
    refine S_list0 (T_storeN (vs := [(vB false), (vI .i64 0), (vS none 0 0), (vS none 0 0)]) rfl rfl z42 rfl (by simp [Value.oneCell']) H98_ 3 rfl (Nat.le_of_ble_eq_true (by rfl)) ?_)
    intro w105_ S107_ H106_
    have S108_ := Same.trans S102_ S107_
    refine wpList_nil (X_blkN (X_then (hK68_ _ _ ?_)))
    refine C_reg ?_
    refine sv (v := (vI .i64 ((j : Int) + 1))) (x_bin rfl rfl (ib_add (IntWalk.i64_in _ (by omega)))) ?_
    refine sm (vI .i64 ((j : Int) + 1)) ?_
    refine wpList_nil (X_then ?_)
    have H109_ := Holds.pkF H106_ [3, 1, 0] 1
    exact ⟨⟨R83_, j + 1, pv, M, false⟩, ⟨_, congrArg (fun e => mkA 53 e []) (ch (ch (ch (ch (ch (ch (ch (ch rfl rfl) rfl) rfl) rfl) rfl) rfl) rfl) (congrArg (vI .i64) ((by first | rfl | omega | (simp; done) | (simp; omega)) : (j : Int) + 1 = ((j + 1 : Nat) : Int)))), H109_, S108_, (hz_R35__R83_), (by first | assumption | omega | exact rfl), ((hP.mono hs82_)), (hR), (by omega), (by rw [gMs_snoc hx71_, if_pos he85_]; exact mem_dup (w := wOf x70_) hmem he86_), (fun o' _ ho h3 => by rw [Nat.add_sub_cancel] at ho ⊢; rw [hx71_] at ho; cases ho; omega)⟩, by first | omega | (dsimp only; omega) | (simp; omega)⟩
   ·skip
    have S103_ := Same.trans S81_ S99_
    have hz_R_R83_ := Sub.trans' hz_R_R1 hs82_
    have hz_R9__R83_ := Sub.trans' hz_R9__R1 hs82_
    have hz_R35__R83_ := Sub.trans' hsR1 hs82_
    refine S_list0 (T_storeN (vs := [(vB true), (vI .i64 0), (vS none 0 0), (vS none 0 0)]) rfl rfl z42 rfl (by simp [Value.oneCell']) H98_ 3 rfl (Nat.le_of_ble_eq_true (by rfl)) ?_)
    intro w110_ S112_ H111_
    have S113_ := Same.trans S103_ S112_
    refine wpList_nil (X_blkN (X_then (hK68_ _ _ ?_)))
    refine C_reg ?_
    refine sv (v := (vI .i64 ((j : Int) + 1))) (x_bin rfl rfl (ib_add (IntWalk.i64_in _ (by omega)))) ?_
    refine sm (vI .i64 ((j : Int) + 1)) ?_
    refine wpList_nil (X_then ?_)
    have H114_ := Holds.pkF H111_ [3, 1, 0] 1
    exact ⟨⟨R83_, j + 1, pv87_, M88_, true⟩, ⟨_, congrArg (fun e => mkA 53 e []) (ch (ch (ch (ch (ch (ch (ch (ch rfl rfl) rfl) rfl) rfl) rfl) rfl) rfl) (congrArg (vI .i64) ((by first | rfl | omega | (simp; done) | (simp; omega)) : (j : Int) + 1 = ((j + 1 : Nat) : Int)))), H114_, S113_, (hz_R35__R83_), (by first | assumption | omega | exact rfl), (he90_), (he91_), (by have h__ := he94_; omega), (by rw [gMs_snoc hx71_, if_pos he89_]; exact mem_new (w := wOf x70_) hmem he92_ he93_), (fun o' _ ho h3 => by rw [Nat.add_sub_cancel] at ho ⊢; rw [hx71_] at ho; cases ho; omega)⟩, by first | omega | (dsimp only; omega) | (simp; omega)⟩
   ·skip
    have S104_ := Same.trans S81_ S99_
    have hz_R_R83_ := Sub.trans' hz_R_R1 hs82_
    have hz_R9__R83_ := Sub.trans' hz_R9__R1 hs82_
    have hz_R35__R83_ := Sub.trans' hsR1 hs82_
    refine S_list0 (T_storeN (vs := [(vB (List.any M (fun x => seesB x x70_.key))), (vI .i64 0), (vS none 0 0), (vS none 0 0)]) rfl rfl z42 rfl (by simp [Value.oneCell']) H98_ 3 rfl (Nat.le_of_ble_eq_true (by rfl)) ?_)
    intro w115_ S117_ H116_
    have S118_ := Same.trans S104_ S117_
    refine wpList_nil (X_blkN (X_then (hK68_ _ _ ?_)))
    refine C_reg ?_
    refine sv (v := (vI .i64 ((j : Int) + 1))) (x_bin rfl rfl (ib_add (IntWalk.i64_in _ (by omega)))) ?_
    refine sm (vI .i64 ((j : Int) + 1)) ?_
    refine wpList_nil (X_then ?_)
    have H119_ := Holds.pkF H116_ [3, 1, 0] 1
    exact ⟨⟨R83_, j + 1, pv, M, (List.any M (fun x => seesB x x70_.key))⟩, ⟨_, congrArg (fun e => mkA 53 e []) (ch (ch (ch (ch (ch (ch (ch (ch rfl rfl) rfl) rfl) rfl) rfl) rfl) rfl) (congrArg (vI .i64) ((by first | rfl | omega | (simp; done) | (simp; omega)) : (j : Int) + 1 = ((j + 1 : Nat) : Int)))), H119_, S118_, (hz_R35__R83_), (by first | assumption | omega | exact rfl), ((hP.mono hs82_)), (hR), (by omega), (by rw [gMs_snoc hx71_, if_neg (by omega)]; exact hmem), (fun o' _ ho h3 => by rw [Nat.add_sub_cancel] at ho ⊢; rw [hx71_] at ho; cases ho; exact any_mem hmem)⟩, by first | omega | (dsimp only; omega) | (simp; omega)⟩
  ·have c67_fp : ¬ ((j : Int) < ((List.length (askL l o)) : Int)) := of_decide_eq_false c67_f
   refine C_exit (X_thenX (X_thenX (X_blkHit ?_)))
   refine (X_then (hK58_ _ _ ?_))
   refine C_seq (fun _ hK120_ => ?_)
   have hj_ : j = l.length + 1 := by omega
   have hw_ : wb = (gMs (List.take l.length (askL l o))).any (fun x => seesB x o.key) := by have h__ := hwb o (by omega) (by rw [hj_, Nat.add_sub_cancel]; exact askL_last) hk; rw [hj_, Nat.add_sub_cancel] at h__; exact h__
   ·skip
    refine A_start (S := fun w => Rd b53_ [(vB wb), (vI .i64 0), (vS none 0 0), (vS none 0 0)] w ∧ Sub R1 (hp w)) (N := 19) foll rfl rfl ?_
    have H121_ := Holds.drew_ H63_
    have hq122_ := And.intro (Holds.rd H121_ 0 rfl) ((Holds.ro_at H121_ 2 rfl))
    refine A_tk 0 (v := v36_) rfl (by kernel_rfl) (fun w hS => x_move rfl) hq122_ ?_
    refine A_tk 1 (v := (vI .i64 ((List.length A37_) : Int))) rfl (by kernel_rfl) (fun w hS => x_lenRS rfl (RS.mono he38_ hsR1) underlying37) hq122_ ?_
    refine A_tk 2 (v := v11_) rfl (by kernel_rfl) (fun w hS => x_move rfl) hq122_ ?_
    refine A_tk 3 (v := (vI .i64 ((List.length (askL l o)) : Int))) rfl (by kernel_rfl) (fun w hS => x_lenRS rfl (RS.mono he13_ hz_R9__R1) underlying32) hq122_ ?_
    refine A_tk 4 (v := (vB (decide (((List.length A37_) : Int) = ((List.length (askL l o)) : Int))))) rfl (by kernel_rfl) (fun w hS => x_bin rfl rfl rfl) hq122_ ?_
    refine A_tk 5 (v := (vB (decide (((List.length A37_) : Int) = ((List.length (askL l o)) : Int))))) rfl (by kernel_rfl) (fun w hS => x_move rfl) hq122_ ?_
    rcases Bool.eq_false_or_eq_true (decide (((List.length A37_) : Int) = ((List.length (askL l o)) : Int))) with c123_t | c123_f
    ·have c123_tp : ((List.length A37_) : Int) = ((List.length (askL l o)) : Int) := of_decide_eq_true c123_t
     refine A_tkY 6 (j := 5) (dj := 40) (b := true) (v := v36_) rfl (by kernel_rfl) rfl rfl (congrArg vB c123_t) (fun w hS => x_move rfl) hq122_ ?_
     refine A_tkY 7 (j := 5) (dj := 40) (b := true) (v := v11_) rfl (by kernel_rfl) rfl rfl (congrArg vB c123_t) (fun w hS => x_move rfl) hq122_ ?_
     refine A_tkY 8 (j := 5) (dj := 40) (b := true) (v := (vI .i64 ((List.length (askL l o)) : Int))) rfl (by kernel_rfl) rfl rfl (congrArg vB c123_t) (fun w hS => x_lenRS rfl (RS.mono he13_ hz_R9__R1) underlying32) hq122_ ?_
     refine A_tkY 9 (j := 5) (dj := 40) (b := true) (v := (vI .i64 (((List.length (askL l o)) : Int) - 1))) rfl (by kernel_rfl) rfl rfl (congrArg vB c123_t) (fun w hS => x_bin rfl rfl (ib_sub (IntWalk.i64_in _ (by omega)))) hq122_ ?_
     obtain ⟨x124_, hx125_, hm126_⟩ := elem_at A37_ (List.length l) (by omega)
     refine A_tkY 10 (j := 5) (dj := 40) (b := true) (v := (vP (some ⟨(sb v36_), so v36_ + ((List.length l) * 4 + 0), none⟩))) rfl (by kernel_rfl) rfl rfl (congrArg vB c123_t) (fun w hS => x_idxRS (v := v36_) rfl (RS.mono he38_ hsR1) rfl underlying37 z42 (by omega) (by omega) (by omega : _ = List.length l) rfl) hq122_ ?_
     refine A_tkY 11 (j := 5) (dj := 40) (b := true) (v := (vA #[(vB x124_.oK), (vI .i64 x124_.n), x124_.iDs, x124_.told])) rfl (by kernel_rfl) rfl rfl (congrArg vB c123_t) (fun w hS => x_loadN (vs := [(vB x124_.oK), (vI .i64 x124_.n), x124_.iDs, x124_.told]) rfl underlying42 rfl z42 rfl (RC.cells (RS.rc (RS.mono he38_ hsR1)) hS.2 ((List.length l) * 4 + 0) (fm_cells GA.len hx125_ (i := 0) rfl))) hq122_ ?_
     refine A_tkY 12 (j := 5) (dj := 40) (b := true) (v := (vA #[(vB wb), (vI .i64 0), (vS none 0 0), (vS none 0 0)])) rfl (by kernel_rfl) rfl rfl (congrArg vB c123_t) (fun w hS => x_loadN (vs := [(vB wb), (vI .i64 0), (vS none 0 0), (vS none 0 0)]) rfl underlying42 rfl z42 rfl (Rd.cells hS.1 0 rfl)) hq122_ ?_
     refine A_ready (i := 13) (rs := []) (by kernel_rfl) ?_
     refine AllR.cons ?_ AllR.nil
     have han127_ := (he40_ l.length o x124_ askL_last hx125_).1 hk
     have H129_ := ((Holds.bring H121_ 2 rfl) :)
     refine A_opYes (ls' := #[true, true, true, true, true, true, true, true, true, true, true, true, true, true, false, false, false, false, false]) (j := 5) (dj := 40) (b := true) rfl (by kernel_rfl) rfl rfl (congrArg vB c123_t) (T_call (al := [(vA #[(vB x124_.oK), (vI .i64 x124_.n), x124_.iDs, x124_.told]), (vA #[(vB wb), (vI .i64 0), (vS none 0 0), (vS none 0 0)])]) (pre := []) rfl rfl cb13 (lwSame0 R1 x124_ wb (⟨han127_.1.trans hw_.symm, han127_.2.1, han127_.2.2.1, han127_.2.2.2⟩)) H129_ ?_)
     rintro v128_ p133_ w130_ ⟨rfl, rfl⟩ S132_ H131_
     have S134_ := Same.trans (Same.trans S64_ (Same.drew _)) S132_
     refine ⟨⟨Holds.rd H131_ 1 rfl, (Holds.ro_at H131_ 0 rfl)⟩, ?_⟩
     have hq135_ := And.intro (Holds.rd H131_ 1 rfl) ((Holds.ro_at H131_ 0 rfl))
     refine A_tk 14 (v := (vB true)) rfl (by kernel_rfl) (fun w hS => (x_pickT (congrArg vB c123_t) rfl)) hq135_ ?_
     refine A_tk 15 (v := (vB true)) rfl (by kernel_rfl) (fun w hS => x_move rfl) hq135_ ?_
     refine A_ready (i := 16) (rs := []) (by kernel_rfl) ?_
     refine AllR.cons ?_ AllR.nil
     refine A_opYes (ls' := #[true, true, true, true, true, true, true, true, true, true, true, true, true, true, true, true, true, false, false]) (j := 15) (dj := 50) (b := true) rfl (by kernel_rfl) rfl rfl rfl (T_call (al := []) (pre := []) rfl rfl cb11 (lwLive R1) H131_ ?_)
     rintro v136_ p140_ w137_ ⟨rfl, rfl⟩ S139_ H138_
     have S141_ := Same.trans S134_ S139_
     refine ⟨⟨Holds.rd H138_ 1 rfl, (Holds.ro_at H138_ 0 rfl)⟩, ?_⟩
     have hq142_ := And.intro (Holds.rd H138_ 1 rfl) ((Holds.ro_at H138_ 0 rfl))
     refine A_tk 17 (v := (vB true)) rfl (by kernel_rfl) (fun w hS => (x_pickT rfl rfl)) hq142_ ?_
     refine A_tk 18 (v := (vB true)) rfl (by kernel_rfl) (fun w hS => x_assign rfl) hq142_ ?_
     refine A_done (by kernel_rfl) ?_
     refine (X_then (hK120_ _ _ ?_))
     refine C_ret ?_
     refine R_any (v := (vB true)) (run_results1 rfl rfl) ?_
     have H143_ : Holds w137_ (ro R :: cl b53_ 42 [(vB wb), (vI .i64 0), (vS none 0 0), (vS none 0 0)] :: cl b47_ 59 [pv] :: F) := Holds.ro_less H138_ hz_R_R1
     have H144_ := Holds.pkF H143_ [0] 2
     exact ⟨_, _, rfl, ⟨rfl, rfl⟩, S141_, H144_⟩
    ·have c123_fp : ¬ (((List.length A37_) : Int) = ((List.length (askL l o)) : Int)) := of_decide_eq_false c123_f
     omega
end Go.Proofs.YtlnihndjepjagaaGreat
set_option linter.unusedVariables false
set_option linter.unusedSimpArgs false
namespace Go.Proofs.YtlnihndjepjagaaGreat
open Go Go.RowKit Gw Tryz
open Go.Value renaming int → vI, bool → vB, slice → vS, pointer → vP, agg → vA, tuple → vT

set_option maxHeartbeats 8000000 in
theorem fnGroupContains (R : HP) (v : Value) (l : List GW) (key : ByteArray) (hv : RS R 5 v (List.length l) (l.flatMap GW.cells)) :
    Tri Tryz.prog 3 #[v, (Value.string key)] R [] (fun v__ post__ => v__ = (vB true) ∧ post__ = []) := by
 refine Tri.into (n := 17) (al := [v, (Value.string key)]) func3 rfl ntmps3 rfl rfl fun w F H => ?_
 refine cr fun _ hK1_ => ?_
 refine sv (v := (vB false)) (x_assign rfl) ?_
 refine wn (hK1_ _ _ ?_)
 refine C_seq (fun _ hK2_ => ?_)
 refine cr fun _ hK3_ => ?_
 refine sv (v := v) (x_move rfl) ?_
 refine S_list (T_call (al := [v]) (pre := []) rfl rfl cb6 (lwF20 R v l hv) H ?_)
 rintro v4_ p10_ w7_ ⟨b5_, rfl, rfl, he6_⟩ S9_ H8_
 have S11_ := Same.trans (Same.refl w) S9_
 refine sv (v := (vB (!b5_))) (x_not rfl) ?_
 refine sm (vB (!b5_)) ?_
 rcases Bool.eq_false_or_eq_true (!b5_) with c12_t | c12_f
 ·skip
  refine S_no (j := 3) (dj := 8) (b := true) rfl rfl (congrArg vB c12_t) (by decide) ?_
  refine S_no (j := 3) (dj := 8) (b := true) rfl rfl (congrArg vB c12_t) (by decide) ?_
  refine S_no (j := 3) (dj := 8) (b := true) rfl rfl (congrArg vB c12_t) (by decide) ?_
  refine S_list (T_pickT (v := (vB true)) (congrArg vB c12_t) rfl ?_)
  refine wn (hK3_ _ _ ?_)
  refine C_condT rfl ?_
  refine cr fun _ hK13_ => ?_
  refine sv (v := (vB true)) (x_assign rfl) ?_
  refine wn (hK13_ _ _ ?_)
  refine C_ret (X_thenR ?_)
  refine R_any (v := (vB true)) (run_results1 rfl rfl) ?_
  exact ⟨_, _, rfl, ⟨rfl, rfl⟩, S11_, H8_⟩
 ·skip
  refine S_yes (j := 3) (dj := 8) (b := false) rfl rfl (congrArg vB c12_f) (T_val (v := (Value.string key)) (x_move rfl) ?_)
  refine S_yes (j := 3) (dj := 8) (b := false) rfl rfl (congrArg vB c12_f) (T_val (v := (vI .i64 (key.size : Int))) (x_lenT rfl underlying9) ?_)
  refine S_yes (j := 3) (dj := 8) (b := false) rfl rfl (congrArg vB c12_f) (T_val (v := (vB (decide (2147483647 < (key.size : Int))))) (x_bin rfl rfl rfl) ?_)
  refine S_list (T_pickF (v := (vB (decide (2147483647 < (key.size : Int))))) (congrArg vB c12_f) rfl ?_)
  refine wn (hK3_ _ _ ?_)
  refine C_cond (b := decide (2147483647 < (key.size : Int))) rfl (fun c14_t => ?_) (fun c14_f => ?_)
  ·have c14_tp : 2147483647 < (key.size : Int) := of_decide_eq_true c14_t
   refine cr fun _ hK15_ => ?_
   refine sv (v := (vB true)) (x_assign rfl) ?_
   refine wn (hK15_ _ _ ?_)
   refine C_ret (X_thenR ?_)
   refine R_any (v := (vB true)) (run_results1 rfl rfl) ?_
   exact ⟨_, _, rfl, ⟨rfl, rfl⟩, S11_, H8_⟩
  ·have c14_fp : ¬ (2147483647 < (key.size : Int)) := of_decide_eq_false c14_f
   refine C_skip (X_then (hK2_ _ _ ?_))
   refine cr fun _ hK16_ => ?_
   refine sv (v := v) (x_move rfl) ?_
   refine sm (Value.string key) ?_
   refine sv (v := (vA #[(vI .i64 3), (vI .i64 0), (Value.string ByteArray.empty), (Value.string ByteArray.empty), (vB false), (vI .i64 0), (Value.string key), (vI .i64 0), (vI .i64 0), (vS none 0 0)])) (by kernel_rfl) ?_
   have hf2_ := he6_ (by simpa using c12_f)
   refine S_list (T_call (al := [v, (vA #[(vI .i64 ((⟨3, 0, ByteArray.empty, ByteArray.empty, false, 0, key, 0, 0, .slice none 0 0⟩ : GO).kind)), (vI .i64 ((⟨3, 0, ByteArray.empty, ByteArray.empty, false, 0, key, 0, 0, .slice none 0 0⟩ : GO).w_ID)), (Value.string ((⟨3, 0, ByteArray.empty, ByteArray.empty, false, 0, key, 0, 0, .slice none 0 0⟩ : GO).w_Key)), (Value.string ((⟨3, 0, ByteArray.empty, ByteArray.empty, false, 0, key, 0, 0, .slice none 0 0⟩ : GO).w_End)), (vB ((⟨3, 0, ByteArray.empty, ByteArray.empty, false, 0, key, 0, 0, .slice none 0 0⟩ : GO).w_HasEnd)), (vI .i64 ((⟨3, 0, ByteArray.empty, ByteArray.empty, false, 0, key, 0, 0, .slice none 0 0⟩ : GO).w_MinRev)), (Value.string ((⟨3, 0, ByteArray.empty, ByteArray.empty, false, 0, key, 0, 0, .slice none 0 0⟩ : GO).key)), (vI .i64 ((⟨3, 0, ByteArray.empty, ByteArray.empty, false, 0, key, 0, 0, .slice none 0 0⟩ : GO).cur)), (vI .i64 ((⟨3, 0, ByteArray.empty, ByteArray.empty, false, 0, key, 0, 0, .slice none 0 0⟩ : GO).compact)), ((⟨3, 0, ByteArray.empty, ByteArray.empty, false, 0, key, 0, 0, .slice none 0 0⟩ : GO).events)])]) (pre := []) rfl (lcons rfl (lcons (congrArg (fun l => vA (List.toArray l)) (lcons (congrArg (vI .i64) ((by first | rfl | omega | (simp; done) | (simp; omega)) : 3 = (⟨3, 0, ByteArray.empty, ByteArray.empty, false, 0, key, 0, 0, .slice none 0 0⟩ : GO).kind)) (lcons (congrArg (vI .i64) ((by first | rfl | omega | (simp; done) | (simp; omega)) : 0 = (⟨3, 0, ByteArray.empty, ByteArray.empty, false, 0, key, 0, 0, .slice none 0 0⟩ : GO).w_ID)) (lcons (congrArg Value.string ((by first | rfl | omega | (simp; done) | (simp; omega)) : ByteArray.empty = ((⟨3, 0, ByteArray.empty, ByteArray.empty, false, 0, key, 0, 0, .slice none 0 0⟩ : GO).w_Key))) (lcons (congrArg Value.string ((by first | rfl | omega | (simp; done) | (simp; omega)) : ByteArray.empty = ((⟨3, 0, ByteArray.empty, ByteArray.empty, false, 0, key, 0, 0, .slice none 0 0⟩ : GO).w_End))) (lcons (congrArg vB ((by first | rfl | omega | (simp; done) | (simp; omega)) : false = ((⟨3, 0, ByteArray.empty, ByteArray.empty, false, 0, key, 0, 0, .slice none 0 0⟩ : GO).w_HasEnd))) (lcons (congrArg (vI .i64) ((by first | rfl | omega | (simp; done) | (simp; omega)) : 0 = (⟨3, 0, ByteArray.empty, ByteArray.empty, false, 0, key, 0, 0, .slice none 0 0⟩ : GO).w_MinRev)) (lcons (congrArg Value.string ((by first | rfl | omega | (simp; done) | (simp; omega)) : key = ((⟨3, 0, ByteArray.empty, ByteArray.empty, false, 0, key, 0, 0, .slice none 0 0⟩ : GO).key))) (lcons (congrArg (vI .i64) ((by first | rfl | omega | (simp; done) | (simp; omega)) : 0 = (⟨3, 0, ByteArray.empty, ByteArray.empty, false, 0, key, 0, 0, .slice none 0 0⟩ : GO).cur)) (lcons (congrArg (vI .i64) ((by first | rfl | omega | (simp; done) | (simp; omega)) : 0 = (⟨3, 0, ByteArray.empty, ByteArray.empty, false, 0, key, 0, 0, .slice none 0 0⟩ : GO).compact)) (lcons ((by first | rfl | omega | (simp; done) | (simp; omega)) : (vS none 0 0) = ((⟨3, 0, ByteArray.empty, ByteArray.empty, false, 0, key, 0, 0, .slice none 0 0⟩ : GO).events)) rfl))))))))))) rfl)) cb7 (lwLast R v l (⟨3, 0, ByteArray.empty, ByteArray.empty, false, 0, key, 0, 0, .slice none 0 0⟩ : GO) hv (hf2_.1) (hf2_.2) (rfl) (rfl) (by show key.size ≤ _; omega)) H8_ ?_)
   rintro v17_ p21_ w18_ ⟨rfl, rfl⟩ S20_ H19_
   have S22_ := Same.trans S11_ S20_
   refine sv (v := (vB true)) (x_assign rfl) ?_
   refine wn (hK16_ _ _ ?_)
   refine C_ret ?_
   refine R_any (v := (vB true)) (run_results1 rfl rfl) ?_
   exact ⟨_, _, rfl, ⟨rfl, rfl⟩, S22_, H19_⟩
end Go.Proofs.YtlnihndjepjagaaGreat
