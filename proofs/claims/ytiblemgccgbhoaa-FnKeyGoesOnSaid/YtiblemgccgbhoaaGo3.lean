/- Words, and proved steps, on which the proof leans. -/
import Derived.Test.YtiblemgccgbhoaaGo2
set_option linter.unusedVariables false
set_option linter.unusedSimpArgs false
namespace Go.Proofs.Ytiblemgccgbhoaa
open Go Go.RowKit Gw
open Go.Value renaming int → vI, bool → vB, slice → vS, pointer → vP, agg → vA, tuple → vT

def kChk (i : Nat) (l : List VR) (o : KO) : Prop := (1 ≤ o.kind ∧ o.kind ≤ 8 ∧ o.kind ≠ 3 ∧ o.kind ≠ 4) ∧ ¬ (i = 0 ∧ l.length = 0 ∧ o.kind ≠ 1) ∧ (o.kind ≤ 2 → 1 ≤ o.rev_Main ∧ 0 ≤ o.rev_Sub) ∧ ¬ (o.kind = 1 ∧ 0 < l.length ∧ (vLast l).gone = true ∧ (vLast l).rev_Main = o.rev_Main)
instance (i : Nat) (l : List VR) (o : KO) : Decidable (kChk i l o) := by unfold kChk; infer_instance
def KM.at_ (a : KM) (m : List VR) : KM := ⟨a.ok, a.mm, a.ms, a.cm, a.cs, a.ver, a.rl, (vLast m).rev_Main, (vLast m).rev_Sub, dGens m⟩
def kStep (i : Nat) (l : List VR) (o : KO) : Option (List VR × KM) :=
  if kChk i l o then (match kDo l o with | some (m, a) => if m.length = 0 then none else some (m, a.at_ m) | none => none) else none
def kRun (l : List VR) (out : List KM) : List KO → Option (List VR × List KM)
  | [] => some (l, out)
  | o :: r => match kStep out.length l o with | some (m, a) => kRun m (out ++ [a]) r | none => none
/-- Operations on some changes: what is left, and the answers; none: they are not asked for. -/
def kLife (l : List VR) (ops : List KO) : Option (List VR × List KM) := if ops.length ≤ 300 then kRun l [] ops else none
theorem all_snoc {α : Type} {p : α → Prop} {l : List α} {y : α} (h : ∀ x ∈ l, p x) (hy : p y) : ∀ x ∈ l ++ [y], p x := fun x hx => by
  rcases List.mem_append.1 hx with hx | hx
  · exact h x hx
  · rcases List.mem_singleton.1 hx with rfl
    exact hy
theorem drop_at {α : Type} {l : List α} {k : Nat} {x : α} (h : l[k]? = some x) : l.drop k = x :: l.drop (k + 1) := by
  obtain ⟨h1, h2⟩ := List.getElem?_eq_some_iff.1 h
  rw [← h2, List.getElem_cons_drop]
section
variable {l m : List VR} {o : KO} {out : List KM} {ops : List KO} {k : Nat} {a : KM}
theorem kRun_no (h : ops[k]? = some o) (hs : kStep out.length l o = none) : kRun l out (ops.drop k) = none := by
  rw [drop_at h, kRun, hs]
theorem kRun_yes (h : ops[k]? = some o) (hs : kStep out.length l o = some (m, a)) : kRun l out (ops.drop k) = kRun m (out ++ [a]) (ops.drop (k + 1)) := by
  rw [drop_at h, kRun, hs]
theorem kStep_chk {i : Nat} (h : ¬ kChk i l o) : kStep i l o = none := if_neg h
theorem kStep_none {i : Nat} (h : kDo l o = none) : kStep i l o = none := by
  unfold kStep
  rw [h]; simp
theorem kStep_nil {i : Nat} (h : kDo l o = some (m, a)) (h0 : (m.length : Int) = 0) : kStep i l o = none := by
  unfold kStep
  rw [h]
  simp only [if_pos (show m.length = 0 by omega)]
  simp
theorem kStep_yes {i : Nat} (hc : kChk i l o) (h : kDo l o = some (m, a)) (h0 : ¬ (m.length : Int) = 0) : kStep i l o = some (m, a.at_ m) := by
  unfold kStep
  rw [if_pos hc, h]
  simp only [if_neg (show ¬ m.length = 0 by omega)]
theorem vSieve_mem {p : Nat → VR → Bool} {n : Nat} {x : VR} (h : x ∈ vSieve l p n) : x ∈ l := by
  induction n with
  | zero => simp [vSieve] at h
  | succ n ih =>
    unfold vSieve at h
    rcases List.mem_append.1 h with h | h
    · exact ih h
    · split at h
      · rename_i v e
        split at h
        · rcases List.mem_singleton.1 h with rfl
          exact List.mem_of_getElem? e
        · cases h
      · cases h
theorem vLast_mem (h : l ≠ []) : vLast l ∈ l := by
  unfold vLast
  rw [List.getLast?_eq_some_getLast h]
  exact List.getLast_mem h
theorem kDo_len (h : kDo l o = some (m, a)) : m.length ≤ l.length + 1 := by
  unfold kDo at h
  split at h
  · split at h <;> cases h; simp
  · split at h
    · split at h
      · cases h; omega
      · split at h <;> cases h; simp
    · split at h
      · cases h; omega
      · split at h
        · cases h; omega
        · split at h
          · cases h
            have := vSieve_len l (vStay l o.at_) l.length
            unfold vCompact; omega
          · split at h <;> (cases h; omega)
theorem kDo_ver {n : Int} (hn : 0 ≤ n) (hl : ∀ x ∈ l, 0 ≤ x.ver ∧ x.ver ≤ n) (h : kDo l o = some (m, a)) : ∀ x ∈ m, 0 ≤ x.ver ∧ x.ver ≤ n + 1 := by
  have hw : ∀ x ∈ l, 0 ≤ x.ver ∧ x.ver ≤ n + 1 := fun x hx => by have := hl x hx; omega
  have hg : (vLast l).gone = false → 0 ≤ (vLast l).ver ∧ (vLast l).ver ≤ n := fun h => hl _ (vLast_mem fun e => by rw [e] at h; cases h)
  unfold kDo at h
  split at h
  · split at h
    · cases h
      intro x hx
      rcases List.mem_append.1 hx with hx | hx
      · exact hw x hx
      · rcases List.mem_singleton.1 hx with rfl
        unfold vPut
        split
        · exact ⟨by show (0 : Int) ≤ 1; omega, by show (1 : Int) ≤ n + 1; omega⟩
        · rename_i e
          have := hg (by simpa using e)
          show 0 ≤ (vLast l).ver + 1 ∧ (vLast l).ver + 1 ≤ n + 1
          omega
    · cases h
  · split at h
    · split at h
      · cases h; exact hw
      · rename_i e
        split at h
        · cases h
          intro x hx
          rcases List.mem_append.1 hx with hx | hx
          · exact hw x hx
          · rcases List.mem_singleton.1 hx with rfl
            have := hg (by simpa using e)
            show 0 ≤ (vLast l).ver + 1 ∧ (vLast l).ver + 1 ≤ n + 1
            omega
        · cases h
    · split at h
      · cases h; exact hw
      · split at h
        · cases h; exact hw
        · split at h
          · cases h
            exact fun x hx => hw x (vSieve_mem hx)
          · split at h <;> (cases h; exact hw)
end


set_option maxHeartbeats 1600000 in
theorem kIxRev (R : HP) (a b : Int) :
    Tri Try.prog 15 #[(vA #[(vI .i64 a), (vI .i64 b)])] R [] (fun v__ post__ => v__ = (vB (decide (1 ≤ a ∧ 0 ≤ b))) ∧ post__ = []) := by
 refine Tri.into (n := 11) (al := [(vA #[(vI .i64 a), (vI .i64 b)])]) Try.func15 rfl Try.ntmps15 rfl rfl fun w F H => ?_
 refine C_seq (fun K1_ hK1_ => C_reg ?_)
 refine S_list (T_box (v := (vA #[(vI .i64 a), (vI .i64 b)])) rfl H ?_)
 intro b2_ w3_ S5_ H4_
 have S6_ := Same.trans (Same.refl w) S5_
 refine sv (v := (vB false)) (x_assign rfl) ?_
 refine wpList_nil (X_then (hK1_ _ _ ?_))
 clear hK1_
 refine C_seq (fun K7_ hK7_ => C_reg ?_)
 refine sv (v := (vP (some ⟨b2_, 0, none⟩))) (by kernel_rfl) ?_
 refine sv (v := (vI .i64 a)) (x_load1 rfl Try.underlying2 rfl ((Holds.rd H4_ 0 rfl) 0 (vI .i64 a) rfl)) ?_
 refine sv (v := (vB (decide (1 ≤ a)))) (x_bin rfl rfl rfl) ?_
 refine sv (v := (vB (decide (1 ≤ a)))) (x_move rfl) ?_
 rcases Bool.eq_false_or_eq_true (decide (1 ≤ a)) with c8_t | c8_f
 ·have c8_tp : 1 ≤ a := of_decide_eq_true c8_t
  refine S_yes (j := 3) (dj := 6) (b := true) rfl rfl (congrArg vB c8_t) (T_val (v := (vP (some ⟨b2_, 1, none⟩))) (by kernel_rfl) ?_)
  refine S_yes (j := 3) (dj := 6) (b := true) rfl rfl (congrArg vB c8_t) (T_val (v := (vI .i64 b)) (x_load1 rfl Try.underlying2 rfl ((Holds.rd H4_ 0 rfl) 1 (vI .i64 b) rfl)) ?_)
  refine S_yes (j := 3) (dj := 6) (b := true) rfl rfl (congrArg vB c8_t) (T_val (v := (vB (decide (0 ≤ b)))) (x_bin rfl rfl rfl) ?_)
  refine S_list (T_pickT (v := (vB (decide (0 ≤ b)))) (congrArg vB c8_t) rfl ?_)
  refine sv (v := (vB (decide (0 ≤ b)))) (x_assign rfl) ?_
  refine wpList_nil (X_then (hK7_ _ _ ?_))
  clear hK7_
  refine C_ret ?_
  refine R_any (v := (vB (decide (0 ≤ b)))) (run_results1 rfl rfl) ?_
  have H9_ : Holds w3_ (ro R :: F) := (Holds.pkF H4_ [1] 1 :)
  exact ⟨_, _, rfl, ⟨(congrArg vB ((by first | rfl | (simp_all; done) | (simp_all; omega)) : (decide (0 ≤ b)) = (decide (1 ≤ a ∧ 0 ≤ b)))), rfl⟩, S6_, H9_⟩
 ·have c8_fp : ¬ (1 ≤ a) := of_decide_eq_false c8_f
  refine S_no (j := 3) (dj := 6) (b := false) rfl rfl (congrArg vB c8_f) (by decide) ?_
  refine S_no (j := 3) (dj := 6) (b := false) rfl rfl (congrArg vB c8_f) (by decide) ?_
  refine S_no (j := 3) (dj := 6) (b := false) rfl rfl (congrArg vB c8_f) (by decide) ?_
  refine S_list (T_pickF (v := (vB false)) (congrArg vB c8_f) rfl ?_)
  refine sv (v := (vB false)) (x_assign rfl) ?_
  refine wpList_nil (X_then (hK7_ _ _ ?_))
  clear hK7_
  refine C_ret ?_
  refine R_any (v := (vB false)) (run_results1 rfl rfl) ?_
  have H10_ : Holds w3_ (ro R :: F) := (Holds.pkF H4_ [1] 1 :)
  exact ⟨_, _, rfl, ⟨(congrArg vB ((by first | rfl | (simp_all; done) | (simp_all; omega)) : false = (decide (1 ≤ a ∧ 0 ≤ b)))), rfl⟩, S6_, H10_⟩

set_option maxHeartbeats 16000000 in
theorem kLife_ (R : HP) (v ov : Value) (L : List VR) (O : List KO) (N : Nat) (hL : RS R 6 v (List.length L) (L.flatMap VR.cells)) (hO : RS R 7 ov (List.length O) (O.flatMap KO.cells)) (hlN : L.length ≤ N) (hvN : ∀ x ∈ L, 0 ≤ x.ver ∧ x.ver ≤ (N : Int)) (hNN : N ≤ 5000) :
    TriG Try.prog 6 #[v, ov] R [] (fun R' v__ post__ => (∃ (v' av : Value) (L' : List VR) (A : List KA), v__ = (vT #[v', av, (vB true)]) ∧ post__ = [] ∧ (kLife L O = some (L', A.map KA.m)) ∧ (RS R' 6 v' (List.length L') (L'.flatMap VR.cells)) ∧ (RS R' 10 av (List.length A) (A.flatMap KA.cells)) ∧ (∀ x ∈ A, KOk R' x) ∧ (L'.length ≤ N + 300 ∧ ∀ x ∈ L', 0 ≤ x.ver ∧ x.ver ≤ (N : Int) + 300)) ∨ (v__ = (vT #[(vS none 0 0), (vS none 0 0), (vB false)]) ∧ post__ = [] ∧ (kLife L O = none))) := by
 refine TriG.into (n := 116) (al := [v, ov]) Try.func6 rfl Try.ntmps6 rfl rfl fun w F H => ?_
 refine C_seq (fun K1_ hK1_ => C_reg ?_)
 refine sv (v := (vS none 0 0)) (x_assign rfl) ?_
 refine sv (v := (vS none 0 0)) (x_assign rfl) ?_
 refine sv (v := (vB false)) (x_assign rfl) ?_
 refine wpList_nil (X_then (hK1_ _ _ ?_))
 clear hK1_
 refine C_seq (fun K2_ hK2_ => ?_)
 refine C_seq (fun K3_ hK3_ => C_reg ?_)
 refine sv (v := ov) (x_move rfl) ?_
 refine sv (v := (vI .i64 ((List.length O) : Int))) (x_lenRS rfl hO Try.underlying22) ?_
 refine sv (v := (vB (decide (300 < ((List.length O) : Int))))) (x_bin rfl rfl rfl) ?_
 refine wpList_nil (X_then (hK3_ _ _ ?_))
 clear hK3_
 refine C_cond (b := decide (300 < ((List.length O) : Int))) rfl (fun c4_t => ?_) (fun c4_f => ?_)
 ·have c4_tp : 300 < ((List.length O) : Int) := of_decide_eq_true c4_t
  refine C_seq (fun K5_ hK5_ => C_reg ?_)
  refine sv (v := (vS none 0 0)) (x_assign rfl) ?_
  refine sv (v := (vS none 0 0)) (x_assign rfl) ?_
  refine sv (v := (vB false)) (x_assign rfl) ?_
  refine wpList_nil (X_then (hK5_ _ _ ?_))
  clear hK5_
  refine C_ret (X_thenR ?_)
  refine R_any (v := (vT #[(vS none 0 0), (vS none 0 0), (vB false)])) (run_results3 rfl rfl rfl rfl) ?_
  exact ⟨R, _, _, rfl, (Sub.rfl' _), (.inr ⟨rfl, rfl, (if_neg (by omega))⟩), (Same.refl w), H⟩
 ·have c4_fp : ¬ (300 < ((List.length O) : Int)) := of_decide_eq_false c4_f
  refine C_skip (X_then (hK2_ _ _ ?_))
  clear hK2_
  refine C_seq (fun K6_ hK6_ => C_reg ?_)
  refine sv (v := (vS none 0 0)) (x_assign rfl) ?_
  refine wpList_nil (X_then (hK6_ _ _ ?_))
  clear hK6_
  refine C_seq (fun K7_ hK7_ => ?_)
  refine C_seq (fun K8_ hK8_ => C_reg ?_)
  refine sv (v := ov) (x_move rfl) ?_
  refine sv (v := (vI .i64 ((List.length O) : Int))) (x_lenRS rfl hO Try.underlying22) ?_
  refine sv (v := (vI .i64 0)) (x_move rfl) ?_
  refine wpList_nil (X_then (hK8_ _ _ ?_))
  clear hK8_
  refine C_block ?_
  have H9_ : Holds w (sl 43 10 (vS none 0 0) (List.length ([] : List KA)) (([] : List KA).flatMap KA.cells) :: ro R :: F) := Holds.add_nil H 43 10
  refine C_loop (γ := HP × Nat × Value × Value × (List VR) × (List KA) × Value × Value × Bool) (fun x__ a__ w1__ => match x__ with | ⟨R1, k, lv, av, l, A, t4_v, a5_v, p6_v⟩ => ∃ h : Env, a__ = mkA 116 (upd (upd (upd (upd (upd (upd (upd (upd h 0 lv) 4 t4_v) 5 a5_v) 6 (vB p6_v)) 7 av) 16 ov) 17 (vI .i64 ((List.length O) : Int))) 18 (vI .i64 (k : Int))) [] ∧ Holds w1__ (sl 43 10 av (List.length A) (A.flatMap KA.cells) :: ro R1 :: F) ∧ Same w w1__ ∧ (Sub R R1) ∧ (k ≤ O.length) ∧ (RS R1 6 lv (List.length l) (l.flatMap VR.cells)) ∧ (kRun L [] O = kRun l (A.map KA.m) (O.drop k)) ∧ ((A.map KA.m).length = k) ∧ (A.length = k) ∧ (∀ x ∈ A, KOk R1 x) ∧ (l.length ≤ N + k) ∧ (∀ x ∈ l, 0 ≤ x.ver ∧ x.ver ≤ (N : Int) + k)) (fun x__ => match x__ with | ⟨R1, k, lv, av, l, A, t4_v, a5_v, p6_v⟩ => O.length - k) (⟨R, 0, v, (vS none 0 0), L, ([] : List KA), (vS none 0 0), (vS none 0 0), false⟩) ⟨_, congrArg (fun e => mkA 116 e []) (ch (ch (ch (ch (ch (ch (ch (ch rfl rfl) (rfl : (vS none 0 0) = ((vS none 0 0)))) (rfl : (vS none 0 0) = ((vS none 0 0)))) rfl) (rfl : (vS none 0 0) = ((vS none 0 0)))) rfl) rfl) (congrArg (vI .i64) ((by first | rfl | omega | (simp; done) | (simp; omega)) : 0 = (0 : Int)))), H9_, (Same.refl w), (Sub.rfl' _), (by first | assumption | omega | exact rfl), (hL), (rfl), (rfl), (rfl), (fun x hx => by cases hx), (by first | assumption | omega | exact rfl), (fun x hx => by have := hvN x hx; omega)⟩ ?_
  rintro ⟨R1, k, lv, av, l, A, t4_v, a5_v, p6_v⟩ _ w10_ ⟨h, rfl, H11_, S12_, hsR1, hk, hlR, hrun, hkA, hAk, hA, hll, hlv⟩
  refine C_seq (fun K13_ hK13_ => C_reg ?_)
  refine sv (v := (vB (decide ((k : Int) < ((List.length O) : Int))))) (x_bin rfl rfl rfl) ?_
  refine wpList_nil (X_then (hK13_ _ _ ?_))
  clear hK13_
  refine C_seq (fun K14_ hK14_ => ?_)
  refine C_cond (b := decide ((k : Int) < ((List.length O) : Int))) rfl (fun c15_t => ?_) (fun c15_f => ?_)
  ·have c15_tp : (k : Int) < ((List.length O) : Int) := of_decide_eq_true c15_t
   refine C_skip (X_then (hK14_ _ _ ?_))
   clear hK14_
   refine C_seq (fun K16_ hK16_ => ?_)
   refine C_block ?_
   refine C_seq (fun K17_ hK17_ => C_reg ?_)
   refine sv (v := (vI .i64 (k : Int))) (x_move rfl) ?_
   obtain ⟨x18_, hx19_, hm20_⟩ := elem_at O k (by omega)
   refine sv (v := (vP (some ⟨(sb ov), so ov + (k * 7 + 0), none⟩))) (x_idxRS (v := ov) rfl (RS.mono hO hsR1) rfl Try.underlying22 z39 (by omega) (by omega) (by omega : _ = k) rfl) ?_
   refine sv (v := (vA #[(vI .i64 x18_.kind), (vI .i64 x18_.rev_Main), (vI .i64 x18_.rev_Sub), (vI .i64 x18_.created_Main), (vI .i64 x18_.created_Sub), (vI .i64 x18_.ver), (vI .i64 x18_.at_)])) (x_loadN (vs := [(vI .i64 x18_.kind), (vI .i64 x18_.rev_Main), (vI .i64 x18_.rev_Sub), (vI .i64 x18_.created_Main), (vI .i64 x18_.created_Sub), (vI .i64 x18_.ver), (vI .i64 x18_.at_)]) rfl Try.underlying39 rfl z39 rfl (RC.cells (RS.rc (RS.mono hO hsR1)) (Holds.ro_at H11_ 1 rfl) (k * 7 + 0) (fm_cells KO.len hx19_ (i := 0) rfl))) ?_
   refine S_list (T_alloc z39 H11_ ?_)
   intro b21_ w22_ S24_ H23_
   have S25_ := Same.trans S12_ S24_
   refine sv (v := (vI .i64 (k : Int))) (x_assign rfl) ?_
   refine S_list0 (T_storeN (vs := [(vI .i64 x18_.kind), (vI .i64 x18_.rev_Main), (vI .i64 x18_.rev_Sub), (vI .i64 x18_.created_Main), (vI .i64 x18_.created_Sub), (vI .i64 x18_.ver), (vI .i64 x18_.at_)]) rfl rfl z39 rfl (by simp [Value.oneCell']) H23_ 0 rfl (Nat.le_of_ble_eq_true (by rfl)) ?_)
   intro w26_ S28_ H27_
   have S29_ := Same.trans S25_ S28_
   refine wpList_nil (X_then (hK17_ _ _ ?_))
   clear hK17_
   refine C_seq (fun K30_ hK30_ => ?_)
   refine C_seq (fun K31_ hK31_ => C_reg ?_)
   refine sv (v := (vP (some ⟨b21_, 0, none⟩))) (by kernel_rfl) ?_
   refine sv (v := (vI .i64 x18_.kind)) (x_load1 rfl Try.underlying3 rfl ((Holds.rd H27_ 0 rfl) 0 (vI .i64 x18_.kind) rfl)) ?_
   refine sv (v := (vB (decide (x18_.kind = 3)))) (x_bin rfl rfl rfl) ?_
   refine sv (v := (vB (decide (x18_.kind = 3)))) (x_move rfl) ?_
   rcases Bool.eq_false_or_eq_true (decide (x18_.kind = 3)) with c32_t | c32_f
   ·have c32_tp : x18_.kind = 3 := of_decide_eq_true c32_t
    refine S_no (j := 3) (dj := 26) (b := true) rfl rfl (congrArg vB c32_t) (by decide) ?_
    refine S_no (j := 3) (dj := 26) (b := true) rfl rfl (congrArg vB c32_t) (by decide) ?_
    refine S_no (j := 3) (dj := 26) (b := true) rfl rfl (congrArg vB c32_t) (by decide) ?_
    refine S_list (T_pickT (v := (vB true)) (congrArg vB c32_t) rfl ?_)
    refine sv (v := (vB true)) (x_move rfl) ?_
    refine S_no (j := 8) (dj := 31) (b := true) rfl rfl rfl (by decide) ?_
    refine S_no (j := 8) (dj := 31) (b := true) rfl rfl rfl (by decide) ?_
    refine S_no (j := 8) (dj := 31) (b := true) rfl rfl rfl (by decide) ?_
    refine S_list (T_pickT (v := (vB true)) rfl rfl ?_)
    refine sv (v := (vB true)) (x_move rfl) ?_
    refine S_no (j := 13) (dj := 36) (b := true) rfl rfl rfl (by decide) ?_
    refine S_no (j := 13) (dj := 36) (b := true) rfl rfl rfl (by decide) ?_
    refine S_no (j := 13) (dj := 36) (b := true) rfl rfl rfl (by decide) ?_
    refine S_list (T_pickT (v := (vB true)) rfl rfl ?_)
    refine wpList_nil (X_then (hK31_ _ _ ?_))
    clear hK31_
    refine C_condT rfl ?_
    refine C_seq (fun K33_ hK33_ => C_reg ?_)
    refine sv (v := (vS none 0 0)) (x_assign rfl) ?_
    refine sv (v := (vS none 0 0)) (x_assign rfl) ?_
    refine sv (v := (vB false)) (x_assign rfl) ?_
    refine wpList_nil (X_then (hK33_ _ _ ?_))
    clear hK33_
    refine C_ret (X_thenR (X_blkR (X_thenR (X_thenR (X_blkR (X_thenR ?_))))))
    refine R_any (v := (vT #[(vS none 0 0), (vS none 0 0), (vB false)])) (run_results3 rfl rfl rfl rfl) ?_
    have H34_ : Holds w26_ (ro R1 :: F) := (Holds.pkF H27_ [2] 2 :)
    exact ⟨R1, _, _, rfl, hsR1, (.inr ⟨rfl, rfl, (by unfold kLife; rw [if_pos (by omega), hrun]; exact kRun_no hx19_ (by rw [hkA]; exact kStep_chk (by unfold kChk; first | (simp_all; done) | (simp_all; omega))))⟩), S29_, H34_⟩
   ·have c32_fp : ¬ (x18_.kind = 3) := of_decide_eq_false c32_f
    refine S_yes (j := 3) (dj := 26) (b := false) rfl rfl (congrArg vB c32_f) (T_val (v := (vP (some ⟨b21_, 0, none⟩))) (by kernel_rfl) ?_)
    refine S_yes (j := 3) (dj := 26) (b := false) rfl rfl (congrArg vB c32_f) (T_val (v := (vI .i64 x18_.kind)) (x_load1 rfl Try.underlying3 rfl ((Holds.rd H27_ 0 rfl) 0 (vI .i64 x18_.kind) rfl)) ?_)
    refine S_yes (j := 3) (dj := 26) (b := false) rfl rfl (congrArg vB c32_f) (T_val (v := (vB (decide (x18_.kind = 4)))) (x_bin rfl rfl rfl) ?_)
    refine S_list (T_pickF (v := (vB (decide (x18_.kind = 4)))) (congrArg vB c32_f) rfl ?_)
    refine sv (v := (vB (decide (x18_.kind = 4)))) (x_move rfl) ?_
    rcases Bool.eq_false_or_eq_true (decide (x18_.kind = 4)) with c35_t | c35_f
    ·have c35_tp : x18_.kind = 4 := of_decide_eq_true c35_t
     refine S_no (j := 8) (dj := 31) (b := true) rfl rfl (congrArg vB c35_t) (by decide) ?_
     refine S_no (j := 8) (dj := 31) (b := true) rfl rfl (congrArg vB c35_t) (by decide) ?_
     refine S_no (j := 8) (dj := 31) (b := true) rfl rfl (congrArg vB c35_t) (by decide) ?_
     refine S_list (T_pickT (v := (vB true)) (congrArg vB c35_t) rfl ?_)
     refine sv (v := (vB true)) (x_move rfl) ?_
     refine S_no (j := 13) (dj := 36) (b := true) rfl rfl rfl (by decide) ?_
     refine S_no (j := 13) (dj := 36) (b := true) rfl rfl rfl (by decide) ?_
     refine S_no (j := 13) (dj := 36) (b := true) rfl rfl rfl (by decide) ?_
     refine S_list (T_pickT (v := (vB true)) rfl rfl ?_)
     refine wpList_nil (X_then (hK31_ _ _ ?_))
     clear hK31_
     refine C_condT rfl ?_
     refine C_seq (fun K36_ hK36_ => C_reg ?_)
     refine sv (v := (vS none 0 0)) (x_assign rfl) ?_
     refine sv (v := (vS none 0 0)) (x_assign rfl) ?_
     refine sv (v := (vB false)) (x_assign rfl) ?_
     refine wpList_nil (X_then (hK36_ _ _ ?_))
     clear hK36_
     refine C_ret (X_thenR (X_blkR (X_thenR (X_thenR (X_blkR (X_thenR ?_))))))
     refine R_any (v := (vT #[(vS none 0 0), (vS none 0 0), (vB false)])) (run_results3 rfl rfl rfl rfl) ?_
     have H37_ : Holds w26_ (ro R1 :: F) := (Holds.pkF H27_ [2] 2 :)
     exact ⟨R1, _, _, rfl, hsR1, (.inr ⟨rfl, rfl, (by unfold kLife; rw [if_pos (by omega), hrun]; exact kRun_no hx19_ (by rw [hkA]; exact kStep_chk (by unfold kChk; first | (simp_all; done) | (simp_all; omega))))⟩), S29_, H37_⟩
    ·have c35_fp : ¬ (x18_.kind = 4) := of_decide_eq_false c35_f
     refine S_yes (j := 8) (dj := 31) (b := false) rfl rfl (congrArg vB c35_f) (T_val (v := (vP (some ⟨b21_, 0, none⟩))) (by kernel_rfl) ?_)
     refine S_yes (j := 8) (dj := 31) (b := false) rfl rfl (congrArg vB c35_f) (T_val (v := (vI .i64 x18_.kind)) (x_load1 rfl Try.underlying3 rfl ((Holds.rd H27_ 0 rfl) 0 (vI .i64 x18_.kind) rfl)) ?_)
     refine S_yes (j := 8) (dj := 31) (b := false) rfl rfl (congrArg vB c35_f) (T_val (v := (vB (decide (x18_.kind < 1)))) (x_bin rfl rfl rfl) ?_)
     refine S_list (T_pickF (v := (vB (decide (x18_.kind < 1)))) (congrArg vB c35_f) rfl ?_)
     refine sv (v := (vB (decide (x18_.kind < 1)))) (x_move rfl) ?_
     rcases Bool.eq_false_or_eq_true (decide (x18_.kind < 1)) with c38_t | c38_f
     ·have c38_tp : x18_.kind < 1 := of_decide_eq_true c38_t
      refine S_no (j := 13) (dj := 36) (b := true) rfl rfl (congrArg vB c38_t) (by decide) ?_
      refine S_no (j := 13) (dj := 36) (b := true) rfl rfl (congrArg vB c38_t) (by decide) ?_
      refine S_no (j := 13) (dj := 36) (b := true) rfl rfl (congrArg vB c38_t) (by decide) ?_
      refine S_list (T_pickT (v := (vB true)) (congrArg vB c38_t) rfl ?_)
      refine wpList_nil (X_then (hK31_ _ _ ?_))
      clear hK31_
      refine C_condT rfl ?_
      refine C_seq (fun K39_ hK39_ => C_reg ?_)
      refine sv (v := (vS none 0 0)) (x_assign rfl) ?_
      refine sv (v := (vS none 0 0)) (x_assign rfl) ?_
      refine sv (v := (vB false)) (x_assign rfl) ?_
      refine wpList_nil (X_then (hK39_ _ _ ?_))
      clear hK39_
      refine C_ret (X_thenR (X_blkR (X_thenR (X_thenR (X_blkR (X_thenR ?_))))))
      refine R_any (v := (vT #[(vS none 0 0), (vS none 0 0), (vB false)])) (run_results3 rfl rfl rfl rfl) ?_
      have H40_ : Holds w26_ (ro R1 :: F) := (Holds.pkF H27_ [2] 2 :)
      exact ⟨R1, _, _, rfl, hsR1, (.inr ⟨rfl, rfl, (by unfold kLife; rw [if_pos (by omega), hrun]; exact kRun_no hx19_ (by rw [hkA]; exact kStep_chk (by unfold kChk; first | (simp_all; done) | (simp_all; omega))))⟩), S29_, H40_⟩
     ·have c38_fp : ¬ (x18_.kind < 1) := of_decide_eq_false c38_f
      refine S_yes (j := 13) (dj := 36) (b := false) rfl rfl (congrArg vB c38_f) (T_val (v := (vP (some ⟨b21_, 0, none⟩))) (by kernel_rfl) ?_)
      refine S_yes (j := 13) (dj := 36) (b := false) rfl rfl (congrArg vB c38_f) (T_val (v := (vI .i64 x18_.kind)) (x_load1 rfl Try.underlying3 rfl ((Holds.rd H27_ 0 rfl) 0 (vI .i64 x18_.kind) rfl)) ?_)
      refine S_yes (j := 13) (dj := 36) (b := false) rfl rfl (congrArg vB c38_f) (T_val (v := (vB (decide (8 < x18_.kind)))) (x_bin rfl rfl rfl) ?_)
      refine S_list (T_pickF (v := (vB (decide (8 < x18_.kind)))) (congrArg vB c38_f) rfl ?_)
      refine wpList_nil (X_then (hK31_ _ _ ?_))
      clear hK31_
      refine C_cond (b := decide (8 < x18_.kind)) rfl (fun c41_t => ?_) (fun c41_f => ?_)
      ·have c41_tp : 8 < x18_.kind := of_decide_eq_true c41_t
       refine C_seq (fun K42_ hK42_ => C_reg ?_)
       refine sv (v := (vS none 0 0)) (x_assign rfl) ?_
       refine sv (v := (vS none 0 0)) (x_assign rfl) ?_
       refine sv (v := (vB false)) (x_assign rfl) ?_
       refine wpList_nil (X_then (hK42_ _ _ ?_))
       clear hK42_
       refine C_ret (X_thenR (X_blkR (X_thenR (X_thenR (X_blkR (X_thenR ?_))))))
       refine R_any (v := (vT #[(vS none 0 0), (vS none 0 0), (vB false)])) (run_results3 rfl rfl rfl rfl) ?_
       have H43_ : Holds w26_ (ro R1 :: F) := (Holds.pkF H27_ [2] 2 :)
       exact ⟨R1, _, _, rfl, hsR1, (.inr ⟨rfl, rfl, (by unfold kLife; rw [if_pos (by omega), hrun]; exact kRun_no hx19_ (by rw [hkA]; exact kStep_chk (by unfold kChk; first | (simp_all; done) | (simp_all; omega))))⟩), S29_, H43_⟩
      ·have c41_fp : ¬ (8 < x18_.kind) := of_decide_eq_false c41_f
       refine C_skip (X_then (hK30_ _ _ ?_))
       clear hK30_
       refine C_cut (fun a__ w1__ => ∃ t4_v : Value, ∃ a5_v : Value, ∃ p6_v : Bool, ∃ h : Env, a__ = mkA 116 (upd (upd (upd (upd (upd (upd (upd (upd (upd h 0 lv) 4 t4_v) 5 a5_v) 6 (vB p6_v)) 7 av) 9 (vP (some ⟨b21_, 0, none⟩))) 16 ov) 17 (vI .i64 ((List.length O) : Int))) 18 (vI .i64 (k : Int))) [] ∧ Holds w1__ (cl b21_ 39 [(vI .i64 x18_.kind), (vI .i64 x18_.rev_Main), (vI .i64 x18_.rev_Sub), (vI .i64 x18_.created_Main), (vI .i64 x18_.created_Sub), (vI .i64 x18_.ver), (vI .i64 x18_.at_)] :: sl 43 10 av (List.length A) (A.flatMap KA.cells) :: ro R1 :: F) ∧ Same w w1__ ∧ ((1 ≤ x18_.kind ∧ x18_.kind ≤ 8 ∧ x18_.kind ≠ 3 ∧ x18_.kind ≠ 4) ∧ ¬ (k = 0 ∧ l.length = 0 ∧ x18_.kind ≠ 1) ∧ (x18_.kind ≤ 2 → 1 ≤ x18_.rev_Main ∧ 0 ≤ x18_.rev_Sub))) ?_ ?_
       ·refine C_seq (fun K47_ hK47_ => C_reg ?_)
        refine sv (v := (vI .i64 (k : Int))) (x_move rfl) ?_
        refine sv (v := (vB (decide ((k : Int) = 0)))) (x_bin rfl rfl rfl) ?_
        refine sv (v := (vB (decide ((k : Int) = 0)))) (x_move rfl) ?_
        rcases Bool.eq_false_or_eq_true (decide ((k : Int) = 0)) with c48_t | c48_f
        ·have c48_tp : (k : Int) = 0 := of_decide_eq_true c48_t
         refine S_yes (j := 2) (dj := 43) (b := true) rfl rfl (congrArg vB c48_t) (T_val (v := lv) (x_move rfl) ?_)
         refine S_yes (j := 2) (dj := 43) (b := true) rfl rfl (congrArg vB c48_t) (T_val (v := (vI .i64 ((List.length l) : Int))) (x_lenRS rfl hlR Try.underlying23) ?_)
         refine S_yes (j := 2) (dj := 43) (b := true) rfl rfl (congrArg vB c48_t) (T_val (v := (vB (decide (((List.length l) : Int) = 0)))) (x_bin rfl rfl rfl) ?_)
         refine S_list (T_pickT (v := (vB (decide (((List.length l) : Int) = 0)))) (congrArg vB c48_t) rfl ?_)
         refine sv (v := (vB (decide (((List.length l) : Int) = 0)))) (x_move rfl) ?_
         rcases Bool.eq_false_or_eq_true (decide (((List.length l) : Int) = 0)) with c49_t | c49_f
         ·have c49_tp : ((List.length l) : Int) = 0 := of_decide_eq_true c49_t
          refine S_yes (j := 7) (dj := 48) (b := true) rfl rfl (congrArg vB c49_t) (T_val (v := (vP (some ⟨b21_, 0, none⟩))) (by kernel_rfl) ?_)
          refine S_yes (j := 7) (dj := 48) (b := true) rfl rfl (congrArg vB c49_t) (T_val (v := (vI .i64 x18_.kind)) (x_load1 rfl Try.underlying3 rfl ((Holds.rd H27_ 0 rfl) 0 (vI .i64 x18_.kind) rfl)) ?_)
          refine S_yes (j := 7) (dj := 48) (b := true) rfl rfl (congrArg vB c49_t) (T_val (v := (vB (decide (x18_.kind ≠ 1)))) (x_bin rfl rfl rfl) ?_)
          refine S_list (T_pickT (v := (vB (decide (x18_.kind ≠ 1)))) (congrArg vB c49_t) rfl ?_)
          refine sv (v := (vB (decide (x18_.kind ≠ 1)))) (x_move rfl) ?_
          rcases Bool.eq_false_or_eq_true (decide (x18_.kind ≠ 1)) with c50_t | c50_f
          ·have c50_tp : x18_.kind ≠ 1 := of_decide_eq_true c50_t
           refine S_no (j := 12) (dj := 53) (b := true) rfl rfl (congrArg vB c50_t) (by decide) ?_
           refine S_no (j := 12) (dj := 53) (b := true) rfl rfl (congrArg vB c50_t) (by decide) ?_
           refine S_no (j := 12) (dj := 53) (b := true) rfl rfl (congrArg vB c50_t) (by decide) ?_
           refine S_no (j := 12) (dj := 53) (b := true) rfl rfl (congrArg vB c50_t) (by decide) ?_
           refine S_noU (j := 16) (dj := 57) rfl rfl rfl ?_
           refine S_noU (j := 16) (dj := 57) rfl rfl rfl ?_
           refine S_noU (j := 16) (dj := 57) rfl rfl rfl ?_
           refine S_no (j := 12) (dj := 53) (b := true) rfl rfl (congrArg vB c50_t) (by decide) ?_
           refine S_no (j := 12) (dj := 53) (b := true) rfl rfl (congrArg vB c50_t) (by decide) ?_
           refine S_noU (j := 21) (dj := 62) rfl rfl rfl ?_
           refine S_noU (j := 21) (dj := 62) rfl rfl rfl ?_
           refine S_noU (j := 21) (dj := 62) rfl rfl rfl ?_
           refine S_noU (j := 21) (dj := 62) rfl rfl rfl ?_
           refine S_no (j := 12) (dj := 53) (b := true) rfl rfl (congrArg vB c50_t) (by decide) ?_
           refine S_list (T_pickT (v := (vB true)) (congrArg vB c50_t) rfl ?_)
           refine wpList_nil (X_then (hK47_ _ _ ?_))
           clear hK47_
           refine C_condT rfl ?_
           refine C_seq (fun K51_ hK51_ => C_reg ?_)
           refine sv (v := (vS none 0 0)) (x_assign rfl) ?_
           refine sv (v := (vS none 0 0)) (x_assign rfl) ?_
           refine sv (v := (vB false)) (x_assign rfl) ?_
           refine wpList_nil (X_then (hK51_ _ _ ?_))
           clear hK51_
           refine C_ret (X_thenR (X_blkR (X_thenR (X_thenR (X_blkR (X_thenR ?_))))))
           refine R_any (v := (vT #[(vS none 0 0), (vS none 0 0), (vB false)])) (run_results3 rfl rfl rfl rfl) ?_
           have H52_ : Holds w26_ (ro R1 :: F) := (Holds.pkF H27_ [2] 2 :)
           exact ⟨R1, _, _, rfl, hsR1, (.inr ⟨rfl, rfl, (by unfold kLife; rw [if_pos (by omega), hrun]; exact kRun_no hx19_ (by rw [hkA]; exact kStep_chk (by unfold kChk; first | (simp_all; done) | (simp_all; omega))))⟩), S29_, H52_⟩
          ·have c50_fp : ¬ (x18_.kind ≠ 1) := of_decide_eq_false c50_f
           refine S_yes (j := 12) (dj := 53) (b := false) rfl rfl (congrArg vB c50_f) (T_val (v := (vP (some ⟨b21_, 0, none⟩))) (by kernel_rfl) ?_)
           refine S_yes (j := 12) (dj := 53) (b := false) rfl rfl (congrArg vB c50_f) (T_val (v := (vI .i64 x18_.kind)) (x_load1 rfl Try.underlying3 rfl ((Holds.rd H27_ 0 rfl) 0 (vI .i64 x18_.kind) rfl)) ?_)
           refine S_yes (j := 12) (dj := 53) (b := false) rfl rfl (congrArg vB c50_f) (T_val (v := (vB (decide (x18_.kind = 1)))) (x_bin rfl rfl rfl) ?_)
           refine S_yes (j := 12) (dj := 53) (b := false) rfl rfl (congrArg vB c50_f) (T_val (v := (vB (decide (x18_.kind = 1)))) (x_move rfl) ?_)
           rcases Bool.eq_false_or_eq_true (decide (x18_.kind = 1)) with c53_t | c53_f
           ·have c53_tp : x18_.kind = 1 := of_decide_eq_true c53_t
            refine S_no (j := 16) (dj := 57) (b := true) rfl rfl (congrArg vB c53_t) (by decide) ?_
            refine S_no (j := 16) (dj := 57) (b := true) rfl rfl (congrArg vB c53_t) (by decide) ?_
            refine S_no (j := 16) (dj := 57) (b := true) rfl rfl (congrArg vB c53_t) (by decide) ?_
            refine S_yes (j := 12) (dj := 53) (b := false) rfl rfl (congrArg vB c50_f) (T_pickT (v := (vB true)) (congrArg vB c53_t) rfl ?_)
            refine S_yes (j := 12) (dj := 53) (b := false) rfl rfl (congrArg vB c50_f) (T_val (v := (vB true)) (x_move rfl) ?_)
            refine S_yes (j := 21) (dj := 62) (b := true) rfl rfl rfl (T_val (v := (vP (some ⟨b21_, 1, none⟩))) (by kernel_rfl) ?_)
            refine S_yes (j := 21) (dj := 62) (b := true) rfl rfl rfl (T_val (v := (vA #[(vI .i64 x18_.rev_Main), (vI .i64 x18_.rev_Sub)])) (x_loadN (vs := [(vI .i64 x18_.rev_Main), (vI .i64 x18_.rev_Sub)]) rfl Try.underlying31 rfl z31 rfl (Rd.cells (Holds.rd H27_ 0 rfl) 1 rfl)) ?_)
            have H55_ := ((Holds.bring H27_ 2 rfl) :)
            refine S_yes (j := 21) (dj := 62) (b := true) rfl rfl rfl (T_call (al := [(vA #[(vI .i64 x18_.rev_Main), (vI .i64 x18_.rev_Sub)])]) (pre := []) rfl rfl cb15 (kIxRev R1 x18_.rev_Main x18_.rev_Sub) H55_ ?_)
            rintro v54_ p59_ w56_ ⟨rfl, rfl⟩ S58_ H57_
            have S60_ := Same.trans S29_ S58_
            refine S_yes (j := 21) (dj := 62) (b := true) rfl rfl rfl (T_val (v := (vB (decide (¬ (1 ≤ x18_.rev_Main ∧ 0 ≤ x18_.rev_Sub))))) (x_notP rfl) ?_)
            refine S_yes (j := 12) (dj := 53) (b := false) rfl rfl (congrArg vB c50_f) (T_pickT (v := (vB (decide (¬ (1 ≤ x18_.rev_Main ∧ 0 ≤ x18_.rev_Sub))))) rfl rfl ?_)
            refine S_list (T_pickF (v := (vB (decide (¬ (1 ≤ x18_.rev_Main ∧ 0 ≤ x18_.rev_Sub))))) (congrArg vB c50_f) rfl ?_)
            refine wpList_nil (X_then (hK47_ _ _ ?_))
            clear hK47_
            refine C_cond (b := decide (¬ (1 ≤ x18_.rev_Main ∧ 0 ≤ x18_.rev_Sub))) rfl (fun c61_t => ?_) (fun c61_f => ?_)
            ·have c61_tp : ¬ (1 ≤ x18_.rev_Main ∧ 0 ≤ x18_.rev_Sub) := of_decide_eq_true c61_t
             refine C_seq (fun K62_ hK62_ => C_reg ?_)
             refine sv (v := (vS none 0 0)) (x_assign rfl) ?_
             refine sv (v := (vS none 0 0)) (x_assign rfl) ?_
             refine sv (v := (vB false)) (x_assign rfl) ?_
             refine wpList_nil (X_then (hK62_ _ _ ?_))
             clear hK62_
             refine C_ret (X_thenR (X_blkR (X_thenR (X_thenR (X_blkR (X_thenR ?_))))))
             refine R_any (v := (vT #[(vS none 0 0), (vS none 0 0), (vB false)])) (run_results3 rfl rfl rfl rfl) ?_
             have H63_ : Holds w56_ (ro R1 :: F) := (Holds.pkF H57_ [0] 2 :)
             exact ⟨R1, _, _, rfl, hsR1, (.inr ⟨rfl, rfl, (by unfold kLife; rw [if_pos (by omega), hrun]; exact kRun_no hx19_ (by rw [hkA]; exact kStep_chk (by unfold kChk; first | (simp_all; done) | (simp_all; omega))))⟩), S60_, H63_⟩
            ·have c61_fp : ¬ (¬ (1 ≤ x18_.rev_Main ∧ 0 ≤ x18_.rev_Sub)) := of_decide_eq_false c61_f
             refine C_skip (X_then ?_)
             have H64_ : Holds w56_ (cl b21_ 39 [(vI .i64 x18_.kind), (vI .i64 x18_.rev_Main), (vI .i64 x18_.rev_Sub), (vI .i64 x18_.created_Main), (vI .i64 x18_.created_Sub), (vI .i64 x18_.ver), (vI .i64 x18_.at_)] :: sl 43 10 av (List.length A) (A.flatMap KA.cells) :: ro R1 :: F) := (Holds.pkF H57_ [1, 1, 0] 0 :)
             exact ⟨t4_v, a5_v, p6_v, _, congrArg (fun e => mkA 116 e []) (ch (ch (ch (ch (ch (ch (ch (ch (ch rfl rfl) rfl) rfl) rfl) rfl) rfl) rfl) rfl) rfl), H64_, S60_, (by omega)⟩
           ·have c53_fp : ¬ (x18_.kind = 1) := of_decide_eq_false c53_f
            refine S_yes (j := 16) (dj := 57) (b := false) rfl rfl (congrArg vB c53_f) (T_val (v := (vP (some ⟨b21_, 0, none⟩))) (by kernel_rfl) ?_)
            refine S_yes (j := 16) (dj := 57) (b := false) rfl rfl (congrArg vB c53_f) (T_val (v := (vI .i64 x18_.kind)) (x_load1 rfl Try.underlying3 rfl ((Holds.rd H27_ 0 rfl) 0 (vI .i64 x18_.kind) rfl)) ?_)
            refine S_yes (j := 16) (dj := 57) (b := false) rfl rfl (congrArg vB c53_f) (T_val (v := (vB (decide (x18_.kind = 2)))) (x_bin rfl rfl rfl) ?_)
            refine S_yes (j := 12) (dj := 53) (b := false) rfl rfl (congrArg vB c50_f) (T_pickF (v := (vB (decide (x18_.kind = 2)))) (congrArg vB c53_f) rfl ?_)
            refine S_yes (j := 12) (dj := 53) (b := false) rfl rfl (congrArg vB c50_f) (T_val (v := (vB (decide (x18_.kind = 2)))) (x_move rfl) ?_)
            rcases Bool.eq_false_or_eq_true (decide (x18_.kind = 2)) with c65_t | c65_f
            ·have c65_tp : x18_.kind = 2 := of_decide_eq_true c65_t
             refine S_yes (j := 21) (dj := 62) (b := true) rfl rfl (congrArg vB c65_t) (T_val (v := (vP (some ⟨b21_, 1, none⟩))) (by kernel_rfl) ?_)
             refine S_yes (j := 21) (dj := 62) (b := true) rfl rfl (congrArg vB c65_t) (T_val (v := (vA #[(vI .i64 x18_.rev_Main), (vI .i64 x18_.rev_Sub)])) (x_loadN (vs := [(vI .i64 x18_.rev_Main), (vI .i64 x18_.rev_Sub)]) rfl Try.underlying31 rfl z31 rfl (Rd.cells (Holds.rd H27_ 0 rfl) 1 rfl)) ?_)
             have H67_ := ((Holds.bring H27_ 2 rfl) :)
             refine S_yes (j := 21) (dj := 62) (b := true) rfl rfl (congrArg vB c65_t) (T_call (al := [(vA #[(vI .i64 x18_.rev_Main), (vI .i64 x18_.rev_Sub)])]) (pre := []) rfl rfl cb15 (kIxRev R1 x18_.rev_Main x18_.rev_Sub) H67_ ?_)
             rintro v66_ p71_ w68_ ⟨rfl, rfl⟩ S70_ H69_
             have S72_ := Same.trans S29_ S70_
             refine S_yes (j := 21) (dj := 62) (b := true) rfl rfl (congrArg vB c65_t) (T_val (v := (vB (decide (¬ (1 ≤ x18_.rev_Main ∧ 0 ≤ x18_.rev_Sub))))) (x_notP rfl) ?_)
             refine S_yes (j := 12) (dj := 53) (b := false) rfl rfl (congrArg vB c50_f) (T_pickT (v := (vB (decide (¬ (1 ≤ x18_.rev_Main ∧ 0 ≤ x18_.rev_Sub))))) (congrArg vB c65_t) rfl ?_)
             refine S_list (T_pickF (v := (vB (decide (¬ (1 ≤ x18_.rev_Main ∧ 0 ≤ x18_.rev_Sub))))) (congrArg vB c50_f) rfl ?_)
             refine wpList_nil (X_then (hK47_ _ _ ?_))
             clear hK47_
             refine C_cond (b := decide (¬ (1 ≤ x18_.rev_Main ∧ 0 ≤ x18_.rev_Sub))) rfl (fun c73_t => ?_) (fun c73_f => ?_)
             ·have c73_tp : ¬ (1 ≤ x18_.rev_Main ∧ 0 ≤ x18_.rev_Sub) := of_decide_eq_true c73_t
              refine C_seq (fun K74_ hK74_ => C_reg ?_)
              refine sv (v := (vS none 0 0)) (x_assign rfl) ?_
              refine sv (v := (vS none 0 0)) (x_assign rfl) ?_
              refine sv (v := (vB false)) (x_assign rfl) ?_
              refine wpList_nil (X_then (hK74_ _ _ ?_))
              clear hK74_
              refine C_ret (X_thenR (X_blkR (X_thenR (X_thenR (X_blkR (X_thenR ?_))))))
              refine R_any (v := (vT #[(vS none 0 0), (vS none 0 0), (vB false)])) (run_results3 rfl rfl rfl rfl) ?_
              have H75_ : Holds w68_ (ro R1 :: F) := (Holds.pkF H69_ [0] 2 :)
              exact ⟨R1, _, _, rfl, hsR1, (.inr ⟨rfl, rfl, (by unfold kLife; rw [if_pos (by omega), hrun]; exact kRun_no hx19_ (by rw [hkA]; exact kStep_chk (by unfold kChk; first | (simp_all; done) | (simp_all; omega))))⟩), S72_, H75_⟩
             ·have c73_fp : ¬ (¬ (1 ≤ x18_.rev_Main ∧ 0 ≤ x18_.rev_Sub)) := of_decide_eq_false c73_f
              refine C_skip (X_then ?_)
              have H76_ : Holds w68_ (cl b21_ 39 [(vI .i64 x18_.kind), (vI .i64 x18_.rev_Main), (vI .i64 x18_.rev_Sub), (vI .i64 x18_.created_Main), (vI .i64 x18_.created_Sub), (vI .i64 x18_.ver), (vI .i64 x18_.at_)] :: sl 43 10 av (List.length A) (A.flatMap KA.cells) :: ro R1 :: F) := (Holds.pkF H69_ [1, 1, 0] 0 :)
              exact ⟨t4_v, a5_v, p6_v, _, congrArg (fun e => mkA 116 e []) (ch (ch (ch (ch (ch (ch (ch (ch (ch rfl rfl) rfl) rfl) rfl) rfl) rfl) rfl) rfl) rfl), H76_, S72_, (by omega)⟩
            ·have c65_fp : ¬ (x18_.kind = 2) := of_decide_eq_false c65_f
             refine S_no (j := 21) (dj := 62) (b := false) rfl rfl (congrArg vB c65_f) (by decide) ?_
             refine S_no (j := 21) (dj := 62) (b := false) rfl rfl (congrArg vB c65_f) (by decide) ?_
             refine S_no (j := 21) (dj := 62) (b := false) rfl rfl (congrArg vB c65_f) (by decide) ?_
             refine S_no (j := 21) (dj := 62) (b := false) rfl rfl (congrArg vB c65_f) (by decide) ?_
             refine S_yes (j := 12) (dj := 53) (b := false) rfl rfl (congrArg vB c50_f) (T_pickF (v := (vB false)) (congrArg vB c65_f) rfl ?_)
             refine S_list (T_pickF (v := (vB false)) (congrArg vB c50_f) rfl ?_)
             refine wpList_nil (X_then (hK47_ _ _ ?_))
             clear hK47_
             refine C_condF rfl ?_
             refine C_skip (X_then ?_)
             exact ⟨t4_v, a5_v, p6_v, _, congrArg (fun e => mkA 116 e []) (ch (ch (ch (ch (ch (ch (ch (ch (ch rfl rfl) rfl) rfl) rfl) rfl) rfl) rfl) rfl) rfl), H27_, S29_, (by omega)⟩
         ·have c49_fp : ¬ (((List.length l) : Int) = 0) := of_decide_eq_false c49_f
          refine S_no (j := 7) (dj := 48) (b := false) rfl rfl (congrArg vB c49_f) (by decide) ?_
          refine S_no (j := 7) (dj := 48) (b := false) rfl rfl (congrArg vB c49_f) (by decide) ?_
          refine S_no (j := 7) (dj := 48) (b := false) rfl rfl (congrArg vB c49_f) (by decide) ?_
          refine S_list (T_pickF (v := (vB false)) (congrArg vB c49_f) rfl ?_)
          refine sv (v := (vB false)) (x_move rfl) ?_
          refine S_yes (j := 12) (dj := 53) (b := false) rfl rfl rfl (T_val (v := (vP (some ⟨b21_, 0, none⟩))) (by kernel_rfl) ?_)
          refine S_yes (j := 12) (dj := 53) (b := false) rfl rfl rfl (T_val (v := (vI .i64 x18_.kind)) (x_load1 rfl Try.underlying3 rfl ((Holds.rd H27_ 0 rfl) 0 (vI .i64 x18_.kind) rfl)) ?_)
          refine S_yes (j := 12) (dj := 53) (b := false) rfl rfl rfl (T_val (v := (vB (decide (x18_.kind = 1)))) (x_bin rfl rfl rfl) ?_)
          refine S_yes (j := 12) (dj := 53) (b := false) rfl rfl rfl (T_val (v := (vB (decide (x18_.kind = 1)))) (x_move rfl) ?_)
          rcases Bool.eq_false_or_eq_true (decide (x18_.kind = 1)) with c77_t | c77_f
          ·have c77_tp : x18_.kind = 1 := of_decide_eq_true c77_t
           refine S_no (j := 16) (dj := 57) (b := true) rfl rfl (congrArg vB c77_t) (by decide) ?_
           refine S_no (j := 16) (dj := 57) (b := true) rfl rfl (congrArg vB c77_t) (by decide) ?_
           refine S_no (j := 16) (dj := 57) (b := true) rfl rfl (congrArg vB c77_t) (by decide) ?_
           refine S_yes (j := 12) (dj := 53) (b := false) rfl rfl rfl (T_pickT (v := (vB true)) (congrArg vB c77_t) rfl ?_)
           refine S_yes (j := 12) (dj := 53) (b := false) rfl rfl rfl (T_val (v := (vB true)) (x_move rfl) ?_)
           refine S_yes (j := 21) (dj := 62) (b := true) rfl rfl rfl (T_val (v := (vP (some ⟨b21_, 1, none⟩))) (by kernel_rfl) ?_)
           refine S_yes (j := 21) (dj := 62) (b := true) rfl rfl rfl (T_val (v := (vA #[(vI .i64 x18_.rev_Main), (vI .i64 x18_.rev_Sub)])) (x_loadN (vs := [(vI .i64 x18_.rev_Main), (vI .i64 x18_.rev_Sub)]) rfl Try.underlying31 rfl z31 rfl (Rd.cells (Holds.rd H27_ 0 rfl) 1 rfl)) ?_)
           have H79_ := ((Holds.bring H27_ 2 rfl) :)
           refine S_yes (j := 21) (dj := 62) (b := true) rfl rfl rfl (T_call (al := [(vA #[(vI .i64 x18_.rev_Main), (vI .i64 x18_.rev_Sub)])]) (pre := []) rfl rfl cb15 (kIxRev R1 x18_.rev_Main x18_.rev_Sub) H79_ ?_)
           rintro v78_ p83_ w80_ ⟨rfl, rfl⟩ S82_ H81_
           have S84_ := Same.trans S29_ S82_
           refine S_yes (j := 21) (dj := 62) (b := true) rfl rfl rfl (T_val (v := (vB (decide (¬ (1 ≤ x18_.rev_Main ∧ 0 ≤ x18_.rev_Sub))))) (x_notP rfl) ?_)
           refine S_yes (j := 12) (dj := 53) (b := false) rfl rfl rfl (T_pickT (v := (vB (decide (¬ (1 ≤ x18_.rev_Main ∧ 0 ≤ x18_.rev_Sub))))) rfl rfl ?_)
           refine S_list (T_pickF (v := (vB (decide (¬ (1 ≤ x18_.rev_Main ∧ 0 ≤ x18_.rev_Sub))))) rfl rfl ?_)
           refine wpList_nil (X_then (hK47_ _ _ ?_))
           clear hK47_
           refine C_cond (b := decide (¬ (1 ≤ x18_.rev_Main ∧ 0 ≤ x18_.rev_Sub))) rfl (fun c85_t => ?_) (fun c85_f => ?_)
           ·have c85_tp : ¬ (1 ≤ x18_.rev_Main ∧ 0 ≤ x18_.rev_Sub) := of_decide_eq_true c85_t
            refine C_seq (fun K86_ hK86_ => C_reg ?_)
            refine sv (v := (vS none 0 0)) (x_assign rfl) ?_
            refine sv (v := (vS none 0 0)) (x_assign rfl) ?_
            refine sv (v := (vB false)) (x_assign rfl) ?_
            refine wpList_nil (X_then (hK86_ _ _ ?_))
            clear hK86_
            refine C_ret (X_thenR (X_blkR (X_thenR (X_thenR (X_blkR (X_thenR ?_))))))
            refine R_any (v := (vT #[(vS none 0 0), (vS none 0 0), (vB false)])) (run_results3 rfl rfl rfl rfl) ?_
            have H87_ : Holds w80_ (ro R1 :: F) := (Holds.pkF H81_ [0] 2 :)
            exact ⟨R1, _, _, rfl, hsR1, (.inr ⟨rfl, rfl, (by unfold kLife; rw [if_pos (by omega), hrun]; exact kRun_no hx19_ (by rw [hkA]; exact kStep_chk (by unfold kChk; first | (simp_all; done) | (simp_all; omega))))⟩), S84_, H87_⟩
           ·have c85_fp : ¬ (¬ (1 ≤ x18_.rev_Main ∧ 0 ≤ x18_.rev_Sub)) := of_decide_eq_false c85_f
            refine C_skip (X_then ?_)
            have H88_ : Holds w80_ (cl b21_ 39 [(vI .i64 x18_.kind), (vI .i64 x18_.rev_Main), (vI .i64 x18_.rev_Sub), (vI .i64 x18_.created_Main), (vI .i64 x18_.created_Sub), (vI .i64 x18_.ver), (vI .i64 x18_.at_)] :: sl 43 10 av (List.length A) (A.flatMap KA.cells) :: ro R1 :: F) := (Holds.pkF H81_ [1, 1, 0] 0 :)
            exact ⟨t4_v, a5_v, p6_v, _, congrArg (fun e => mkA 116 e []) (ch (ch (ch (ch (ch (ch (ch (ch (ch rfl rfl) rfl) rfl) rfl) rfl) rfl) rfl) rfl) rfl), H88_, S84_, (by omega)⟩
          ·have c77_fp : ¬ (x18_.kind = 1) := of_decide_eq_false c77_f
           refine S_yes (j := 16) (dj := 57) (b := false) rfl rfl (congrArg vB c77_f) (T_val (v := (vP (some ⟨b21_, 0, none⟩))) (by kernel_rfl) ?_)
           refine S_yes (j := 16) (dj := 57) (b := false) rfl rfl (congrArg vB c77_f) (T_val (v := (vI .i64 x18_.kind)) (x_load1 rfl Try.underlying3 rfl ((Holds.rd H27_ 0 rfl) 0 (vI .i64 x18_.kind) rfl)) ?_)
           refine S_yes (j := 16) (dj := 57) (b := false) rfl rfl (congrArg vB c77_f) (T_val (v := (vB (decide (x18_.kind = 2)))) (x_bin rfl rfl rfl) ?_)
           refine S_yes (j := 12) (dj := 53) (b := false) rfl rfl rfl (T_pickF (v := (vB (decide (x18_.kind = 2)))) (congrArg vB c77_f) rfl ?_)
           refine S_yes (j := 12) (dj := 53) (b := false) rfl rfl rfl (T_val (v := (vB (decide (x18_.kind = 2)))) (x_move rfl) ?_)
           rcases Bool.eq_false_or_eq_true (decide (x18_.kind = 2)) with c89_t | c89_f
           ·have c89_tp : x18_.kind = 2 := of_decide_eq_true c89_t
            refine S_yes (j := 21) (dj := 62) (b := true) rfl rfl (congrArg vB c89_t) (T_val (v := (vP (some ⟨b21_, 1, none⟩))) (by kernel_rfl) ?_)
            refine S_yes (j := 21) (dj := 62) (b := true) rfl rfl (congrArg vB c89_t) (T_val (v := (vA #[(vI .i64 x18_.rev_Main), (vI .i64 x18_.rev_Sub)])) (x_loadN (vs := [(vI .i64 x18_.rev_Main), (vI .i64 x18_.rev_Sub)]) rfl Try.underlying31 rfl z31 rfl (Rd.cells (Holds.rd H27_ 0 rfl) 1 rfl)) ?_)
            have H91_ := ((Holds.bring H27_ 2 rfl) :)
            refine S_yes (j := 21) (dj := 62) (b := true) rfl rfl (congrArg vB c89_t) (T_call (al := [(vA #[(vI .i64 x18_.rev_Main), (vI .i64 x18_.rev_Sub)])]) (pre := []) rfl rfl cb15 (kIxRev R1 x18_.rev_Main x18_.rev_Sub) H91_ ?_)
            rintro v90_ p95_ w92_ ⟨rfl, rfl⟩ S94_ H93_
            have S96_ := Same.trans S29_ S94_
            refine S_yes (j := 21) (dj := 62) (b := true) rfl rfl (congrArg vB c89_t) (T_val (v := (vB (decide (¬ (1 ≤ x18_.rev_Main ∧ 0 ≤ x18_.rev_Sub))))) (x_notP rfl) ?_)
            refine S_yes (j := 12) (dj := 53) (b := false) rfl rfl rfl (T_pickT (v := (vB (decide (¬ (1 ≤ x18_.rev_Main ∧ 0 ≤ x18_.rev_Sub))))) (congrArg vB c89_t) rfl ?_)
            refine S_list (T_pickF (v := (vB (decide (¬ (1 ≤ x18_.rev_Main ∧ 0 ≤ x18_.rev_Sub))))) rfl rfl ?_)
            refine wpList_nil (X_then (hK47_ _ _ ?_))
            clear hK47_
            refine C_cond (b := decide (¬ (1 ≤ x18_.rev_Main ∧ 0 ≤ x18_.rev_Sub))) rfl (fun c97_t => ?_) (fun c97_f => ?_)
            ·have c97_tp : ¬ (1 ≤ x18_.rev_Main ∧ 0 ≤ x18_.rev_Sub) := of_decide_eq_true c97_t
             refine C_seq (fun K98_ hK98_ => C_reg ?_)
             refine sv (v := (vS none 0 0)) (x_assign rfl) ?_
             refine sv (v := (vS none 0 0)) (x_assign rfl) ?_
             refine sv (v := (vB false)) (x_assign rfl) ?_
             refine wpList_nil (X_then (hK98_ _ _ ?_))
             clear hK98_
             refine C_ret (X_thenR (X_blkR (X_thenR (X_thenR (X_blkR (X_thenR ?_))))))
             refine R_any (v := (vT #[(vS none 0 0), (vS none 0 0), (vB false)])) (run_results3 rfl rfl rfl rfl) ?_
             have H99_ : Holds w92_ (ro R1 :: F) := (Holds.pkF H93_ [0] 2 :)
             exact ⟨R1, _, _, rfl, hsR1, (.inr ⟨rfl, rfl, (by unfold kLife; rw [if_pos (by omega), hrun]; exact kRun_no hx19_ (by rw [hkA]; exact kStep_chk (by unfold kChk; first | (simp_all; done) | (simp_all; omega))))⟩), S96_, H99_⟩
            ·have c97_fp : ¬ (¬ (1 ≤ x18_.rev_Main ∧ 0 ≤ x18_.rev_Sub)) := of_decide_eq_false c97_f
             refine C_skip (X_then ?_)
             have H100_ : Holds w92_ (cl b21_ 39 [(vI .i64 x18_.kind), (vI .i64 x18_.rev_Main), (vI .i64 x18_.rev_Sub), (vI .i64 x18_.created_Main), (vI .i64 x18_.created_Sub), (vI .i64 x18_.ver), (vI .i64 x18_.at_)] :: sl 43 10 av (List.length A) (A.flatMap KA.cells) :: ro R1 :: F) := (Holds.pkF H93_ [1, 1, 0] 0 :)
             exact ⟨t4_v, a5_v, p6_v, _, congrArg (fun e => mkA 116 e []) (ch (ch (ch (ch (ch (ch (ch (ch (ch rfl rfl) rfl) rfl) rfl) rfl) rfl) rfl) rfl) rfl), H100_, S96_, (by omega)⟩
           ·have c89_fp : ¬ (x18_.kind = 2) := of_decide_eq_false c89_f
            refine S_no (j := 21) (dj := 62) (b := false) rfl rfl (congrArg vB c89_f) (by decide) ?_
            refine S_no (j := 21) (dj := 62) (b := false) rfl rfl (congrArg vB c89_f) (by decide) ?_
            refine S_no (j := 21) (dj := 62) (b := false) rfl rfl (congrArg vB c89_f) (by decide) ?_
            refine S_no (j := 21) (dj := 62) (b := false) rfl rfl (congrArg vB c89_f) (by decide) ?_
            refine S_yes (j := 12) (dj := 53) (b := false) rfl rfl rfl (T_pickF (v := (vB false)) (congrArg vB c89_f) rfl ?_)
            refine S_list (T_pickF (v := (vB false)) rfl rfl ?_)
            refine wpList_nil (X_then (hK47_ _ _ ?_))
            clear hK47_
            refine C_condF rfl ?_
            refine C_skip (X_then ?_)
            exact ⟨t4_v, a5_v, p6_v, _, congrArg (fun e => mkA 116 e []) (ch (ch (ch (ch (ch (ch (ch (ch (ch rfl rfl) rfl) rfl) rfl) rfl) rfl) rfl) rfl) rfl), H27_, S29_, (by omega)⟩
        ·have c48_fp : ¬ ((k : Int) = 0) := of_decide_eq_false c48_f
         refine S_no (j := 2) (dj := 43) (b := false) rfl rfl (congrArg vB c48_f) (by decide) ?_
         refine S_no (j := 2) (dj := 43) (b := false) rfl rfl (congrArg vB c48_f) (by decide) ?_
         refine S_no (j := 2) (dj := 43) (b := false) rfl rfl (congrArg vB c48_f) (by decide) ?_
         refine S_list (T_pickF (v := (vB false)) (congrArg vB c48_f) rfl ?_)
         refine sv (v := (vB false)) (x_move rfl) ?_
         refine S_no (j := 7) (dj := 48) (b := false) rfl rfl rfl (by decide) ?_
         refine S_no (j := 7) (dj := 48) (b := false) rfl rfl rfl (by decide) ?_
         refine S_no (j := 7) (dj := 48) (b := false) rfl rfl rfl (by decide) ?_
         refine S_list (T_pickF (v := (vB false)) rfl rfl ?_)
         refine sv (v := (vB false)) (x_move rfl) ?_
         refine S_yes (j := 12) (dj := 53) (b := false) rfl rfl rfl (T_val (v := (vP (some ⟨b21_, 0, none⟩))) (by kernel_rfl) ?_)
         refine S_yes (j := 12) (dj := 53) (b := false) rfl rfl rfl (T_val (v := (vI .i64 x18_.kind)) (x_load1 rfl Try.underlying3 rfl ((Holds.rd H27_ 0 rfl) 0 (vI .i64 x18_.kind) rfl)) ?_)
         refine S_yes (j := 12) (dj := 53) (b := false) rfl rfl rfl (T_val (v := (vB (decide (x18_.kind = 1)))) (x_bin rfl rfl rfl) ?_)
         refine S_yes (j := 12) (dj := 53) (b := false) rfl rfl rfl (T_val (v := (vB (decide (x18_.kind = 1)))) (x_move rfl) ?_)
         rcases Bool.eq_false_or_eq_true (decide (x18_.kind = 1)) with c101_t | c101_f
         ·have c101_tp : x18_.kind = 1 := of_decide_eq_true c101_t
          refine S_no (j := 16) (dj := 57) (b := true) rfl rfl (congrArg vB c101_t) (by decide) ?_
          refine S_no (j := 16) (dj := 57) (b := true) rfl rfl (congrArg vB c101_t) (by decide) ?_
          refine S_no (j := 16) (dj := 57) (b := true) rfl rfl (congrArg vB c101_t) (by decide) ?_
          refine S_yes (j := 12) (dj := 53) (b := false) rfl rfl rfl (T_pickT (v := (vB true)) (congrArg vB c101_t) rfl ?_)
          refine S_yes (j := 12) (dj := 53) (b := false) rfl rfl rfl (T_val (v := (vB true)) (x_move rfl) ?_)
          refine S_yes (j := 21) (dj := 62) (b := true) rfl rfl rfl (T_val (v := (vP (some ⟨b21_, 1, none⟩))) (by kernel_rfl) ?_)
          refine S_yes (j := 21) (dj := 62) (b := true) rfl rfl rfl (T_val (v := (vA #[(vI .i64 x18_.rev_Main), (vI .i64 x18_.rev_Sub)])) (x_loadN (vs := [(vI .i64 x18_.rev_Main), (vI .i64 x18_.rev_Sub)]) rfl Try.underlying31 rfl z31 rfl (Rd.cells (Holds.rd H27_ 0 rfl) 1 rfl)) ?_)
          have H103_ := ((Holds.bring H27_ 2 rfl) :)
          refine S_yes (j := 21) (dj := 62) (b := true) rfl rfl rfl (T_call (al := [(vA #[(vI .i64 x18_.rev_Main), (vI .i64 x18_.rev_Sub)])]) (pre := []) rfl rfl cb15 (kIxRev R1 x18_.rev_Main x18_.rev_Sub) H103_ ?_)
          rintro v102_ p107_ w104_ ⟨rfl, rfl⟩ S106_ H105_
          have S108_ := Same.trans S29_ S106_
          refine S_yes (j := 21) (dj := 62) (b := true) rfl rfl rfl (T_val (v := (vB (decide (¬ (1 ≤ x18_.rev_Main ∧ 0 ≤ x18_.rev_Sub))))) (x_notP rfl) ?_)
          refine S_yes (j := 12) (dj := 53) (b := false) rfl rfl rfl (T_pickT (v := (vB (decide (¬ (1 ≤ x18_.rev_Main ∧ 0 ≤ x18_.rev_Sub))))) rfl rfl ?_)
          refine S_list (T_pickF (v := (vB (decide (¬ (1 ≤ x18_.rev_Main ∧ 0 ≤ x18_.rev_Sub))))) rfl rfl ?_)
          refine wpList_nil (X_then (hK47_ _ _ ?_))
          clear hK47_
          refine C_cond (b := decide (¬ (1 ≤ x18_.rev_Main ∧ 0 ≤ x18_.rev_Sub))) rfl (fun c109_t => ?_) (fun c109_f => ?_)
          ·have c109_tp : ¬ (1 ≤ x18_.rev_Main ∧ 0 ≤ x18_.rev_Sub) := of_decide_eq_true c109_t
           refine C_seq (fun K110_ hK110_ => C_reg ?_)
           refine sv (v := (vS none 0 0)) (x_assign rfl) ?_
           refine sv (v := (vS none 0 0)) (x_assign rfl) ?_
           refine sv (v := (vB false)) (x_assign rfl) ?_
           refine wpList_nil (X_then (hK110_ _ _ ?_))
           clear hK110_
           refine C_ret (X_thenR (X_blkR (X_thenR (X_thenR (X_blkR (X_thenR ?_))))))
           refine R_any (v := (vT #[(vS none 0 0), (vS none 0 0), (vB false)])) (run_results3 rfl rfl rfl rfl) ?_
           have H111_ : Holds w104_ (ro R1 :: F) := (Holds.pkF H105_ [0] 2 :)
           exact ⟨R1, _, _, rfl, hsR1, (.inr ⟨rfl, rfl, (by unfold kLife; rw [if_pos (by omega), hrun]; exact kRun_no hx19_ (by rw [hkA]; exact kStep_chk (by unfold kChk; first | (simp_all; done) | (simp_all; omega))))⟩), S108_, H111_⟩
          ·have c109_fp : ¬ (¬ (1 ≤ x18_.rev_Main ∧ 0 ≤ x18_.rev_Sub)) := of_decide_eq_false c109_f
           refine C_skip (X_then ?_)
           have H112_ : Holds w104_ (cl b21_ 39 [(vI .i64 x18_.kind), (vI .i64 x18_.rev_Main), (vI .i64 x18_.rev_Sub), (vI .i64 x18_.created_Main), (vI .i64 x18_.created_Sub), (vI .i64 x18_.ver), (vI .i64 x18_.at_)] :: sl 43 10 av (List.length A) (A.flatMap KA.cells) :: ro R1 :: F) := (Holds.pkF H105_ [1, 1, 0] 0 :)
           exact ⟨t4_v, a5_v, p6_v, _, congrArg (fun e => mkA 116 e []) (ch (ch (ch (ch (ch (ch (ch (ch (ch rfl rfl) rfl) rfl) rfl) rfl) rfl) rfl) rfl) rfl), H112_, S108_, (by omega)⟩
         ·have c101_fp : ¬ (x18_.kind = 1) := of_decide_eq_false c101_f
          refine S_yes (j := 16) (dj := 57) (b := false) rfl rfl (congrArg vB c101_f) (T_val (v := (vP (some ⟨b21_, 0, none⟩))) (by kernel_rfl) ?_)
          refine S_yes (j := 16) (dj := 57) (b := false) rfl rfl (congrArg vB c101_f) (T_val (v := (vI .i64 x18_.kind)) (x_load1 rfl Try.underlying3 rfl ((Holds.rd H27_ 0 rfl) 0 (vI .i64 x18_.kind) rfl)) ?_)
          refine S_yes (j := 16) (dj := 57) (b := false) rfl rfl (congrArg vB c101_f) (T_val (v := (vB (decide (x18_.kind = 2)))) (x_bin rfl rfl rfl) ?_)
          refine S_yes (j := 12) (dj := 53) (b := false) rfl rfl rfl (T_pickF (v := (vB (decide (x18_.kind = 2)))) (congrArg vB c101_f) rfl ?_)
          refine S_yes (j := 12) (dj := 53) (b := false) rfl rfl rfl (T_val (v := (vB (decide (x18_.kind = 2)))) (x_move rfl) ?_)
          rcases Bool.eq_false_or_eq_true (decide (x18_.kind = 2)) with c113_t | c113_f
          ·have c113_tp : x18_.kind = 2 := of_decide_eq_true c113_t
           refine S_yes (j := 21) (dj := 62) (b := true) rfl rfl (congrArg vB c113_t) (T_val (v := (vP (some ⟨b21_, 1, none⟩))) (by kernel_rfl) ?_)
           refine S_yes (j := 21) (dj := 62) (b := true) rfl rfl (congrArg vB c113_t) (T_val (v := (vA #[(vI .i64 x18_.rev_Main), (vI .i64 x18_.rev_Sub)])) (x_loadN (vs := [(vI .i64 x18_.rev_Main), (vI .i64 x18_.rev_Sub)]) rfl Try.underlying31 rfl z31 rfl (Rd.cells (Holds.rd H27_ 0 rfl) 1 rfl)) ?_)
           have H115_ := ((Holds.bring H27_ 2 rfl) :)
           refine S_yes (j := 21) (dj := 62) (b := true) rfl rfl (congrArg vB c113_t) (T_call (al := [(vA #[(vI .i64 x18_.rev_Main), (vI .i64 x18_.rev_Sub)])]) (pre := []) rfl rfl cb15 (kIxRev R1 x18_.rev_Main x18_.rev_Sub) H115_ ?_)
           rintro v114_ p119_ w116_ ⟨rfl, rfl⟩ S118_ H117_
           have S120_ := Same.trans S29_ S118_
           refine S_yes (j := 21) (dj := 62) (b := true) rfl rfl (congrArg vB c113_t) (T_val (v := (vB (decide (¬ (1 ≤ x18_.rev_Main ∧ 0 ≤ x18_.rev_Sub))))) (x_notP rfl) ?_)
           refine S_yes (j := 12) (dj := 53) (b := false) rfl rfl rfl (T_pickT (v := (vB (decide (¬ (1 ≤ x18_.rev_Main ∧ 0 ≤ x18_.rev_Sub))))) (congrArg vB c113_t) rfl ?_)
           refine S_list (T_pickF (v := (vB (decide (¬ (1 ≤ x18_.rev_Main ∧ 0 ≤ x18_.rev_Sub))))) rfl rfl ?_)
           refine wpList_nil (X_then (hK47_ _ _ ?_))
           clear hK47_
           refine C_cond (b := decide (¬ (1 ≤ x18_.rev_Main ∧ 0 ≤ x18_.rev_Sub))) rfl (fun c121_t => ?_) (fun c121_f => ?_)
           ·have c121_tp : ¬ (1 ≤ x18_.rev_Main ∧ 0 ≤ x18_.rev_Sub) := of_decide_eq_true c121_t
            refine C_seq (fun K122_ hK122_ => C_reg ?_)
            refine sv (v := (vS none 0 0)) (x_assign rfl) ?_
            refine sv (v := (vS none 0 0)) (x_assign rfl) ?_
            refine sv (v := (vB false)) (x_assign rfl) ?_
            refine wpList_nil (X_then (hK122_ _ _ ?_))
            clear hK122_
            refine C_ret (X_thenR (X_blkR (X_thenR (X_thenR (X_blkR (X_thenR ?_))))))
            refine R_any (v := (vT #[(vS none 0 0), (vS none 0 0), (vB false)])) (run_results3 rfl rfl rfl rfl) ?_
            have H123_ : Holds w116_ (ro R1 :: F) := (Holds.pkF H117_ [0] 2 :)
            exact ⟨R1, _, _, rfl, hsR1, (.inr ⟨rfl, rfl, (by unfold kLife; rw [if_pos (by omega), hrun]; exact kRun_no hx19_ (by rw [hkA]; exact kStep_chk (by unfold kChk; first | (simp_all; done) | (simp_all; omega))))⟩), S120_, H123_⟩
           ·have c121_fp : ¬ (¬ (1 ≤ x18_.rev_Main ∧ 0 ≤ x18_.rev_Sub)) := of_decide_eq_false c121_f
            refine C_skip (X_then ?_)
            have H124_ : Holds w116_ (cl b21_ 39 [(vI .i64 x18_.kind), (vI .i64 x18_.rev_Main), (vI .i64 x18_.rev_Sub), (vI .i64 x18_.created_Main), (vI .i64 x18_.created_Sub), (vI .i64 x18_.ver), (vI .i64 x18_.at_)] :: sl 43 10 av (List.length A) (A.flatMap KA.cells) :: ro R1 :: F) := (Holds.pkF H117_ [1, 1, 0] 0 :)
            exact ⟨t4_v, a5_v, p6_v, _, congrArg (fun e => mkA 116 e []) (ch (ch (ch (ch (ch (ch (ch (ch (ch rfl rfl) rfl) rfl) rfl) rfl) rfl) rfl) rfl) rfl), H124_, S120_, (by omega)⟩
          ·have c113_fp : ¬ (x18_.kind = 2) := of_decide_eq_false c113_f
           refine S_no (j := 21) (dj := 62) (b := false) rfl rfl (congrArg vB c113_f) (by decide) ?_
           refine S_no (j := 21) (dj := 62) (b := false) rfl rfl (congrArg vB c113_f) (by decide) ?_
           refine S_no (j := 21) (dj := 62) (b := false) rfl rfl (congrArg vB c113_f) (by decide) ?_
           refine S_no (j := 21) (dj := 62) (b := false) rfl rfl (congrArg vB c113_f) (by decide) ?_
           refine S_yes (j := 12) (dj := 53) (b := false) rfl rfl rfl (T_pickF (v := (vB false)) (congrArg vB c113_f) rfl ?_)
           refine S_list (T_pickF (v := (vB false)) rfl rfl ?_)
           refine wpList_nil (X_then (hK47_ _ _ ?_))
           clear hK47_
           refine C_condF rfl ?_
           refine C_skip (X_then ?_)
           exact ⟨t4_v, a5_v, p6_v, _, congrArg (fun e => mkA 116 e []) (ch (ch (ch (ch (ch (ch (ch (ch (ch rfl rfl) rfl) rfl) rfl) rfl) rfl) rfl) rfl) rfl), H27_, S29_, (by omega)⟩
       ·rintro _ w44_ ⟨t4_v, a5_v, p6_v, h, rfl, H45_, S46_, hc1⟩
        refine C_cut (fun a__ w1__ => ∃ t4_v : Value, ∃ a5_v : Value, ∃ p6_v : Bool, ∃ h : Env, a__ = mkA 116 (upd (upd (upd (upd (upd (upd (upd (upd (upd h 0 lv) 4 t4_v) 5 a5_v) 6 (vB p6_v)) 7 av) 9 (vP (some ⟨b21_, 0, none⟩))) 16 ov) 17 (vI .i64 ((List.length O) : Int))) 18 (vI .i64 (k : Int))) [] ∧ Holds w1__ (cl b21_ 39 [(vI .i64 x18_.kind), (vI .i64 x18_.rev_Main), (vI .i64 x18_.rev_Sub), (vI .i64 x18_.created_Main), (vI .i64 x18_.created_Sub), (vI .i64 x18_.ver), (vI .i64 x18_.at_)] :: sl 43 10 av (List.length A) (A.flatMap KA.cells) :: ro R1 :: F) ∧ Same w w1__ ∧ (kChk k l x18_)) ?_ ?_
        ·refine C_seq (fun K128_ hK128_ => ?_)
         refine A_start (S := fun w => Rd b21_ [(vI .i64 x18_.kind), (vI .i64 x18_.rev_Main), (vI .i64 x18_.rev_Sub), (vI .i64 x18_.created_Main), (vI .i64 x18_.created_Sub), (vI .i64 x18_.ver), (vI .i64 x18_.at_)] w ∧ SlRd av (A.flatMap KA.cells) w ∧ Sub R1 (hp w)) (N := 22) foll rfl rfl ?_
         have H129_ := Holds.drew_ H45_
         have hq130_ := And.intro (Holds.rd H129_ 0 rfl) (And.intro (Holds.slrd H129_ 1 rfl) ((Holds.ro_at H129_ 2 rfl)))
         refine A_tk 0 (v := (vP (some ⟨b21_, 0, none⟩))) rfl (by kernel_rfl) (fun w hS => by kernel_rfl) hq130_ ?_
         refine A_tk 1 (v := (vI .i64 x18_.kind)) rfl (by kernel_rfl) (fun w hS => x_load1 rfl Try.underlying3 rfl (hS.1 0 (vI .i64 x18_.kind) rfl)) hq130_ ?_
         refine A_tk 2 (v := (vB (decide (x18_.kind = 1)))) rfl (by kernel_rfl) (fun w hS => x_bin rfl rfl rfl) hq130_ ?_
         refine A_tk 3 (v := (vB (decide (x18_.kind = 1)))) rfl (by kernel_rfl) (fun w hS => x_move rfl) hq130_ ?_
         rcases Bool.eq_false_or_eq_true (decide (x18_.kind = 1)) with c131_t | c131_f
         ·have c131_tp : x18_.kind = 1 := of_decide_eq_true c131_t
          refine A_tkY 4 (j := 3) (dj := 72) (b := true) (v := lv) rfl (by kernel_rfl) rfl rfl (congrArg vB c131_t) (fun w hS => x_move rfl) hq130_ ?_
          refine A_tkY 5 (j := 3) (dj := 72) (b := true) (v := (vI .i64 ((List.length l) : Int))) rfl (by kernel_rfl) rfl rfl (congrArg vB c131_t) (fun w hS => x_lenRS rfl hlR Try.underlying23) hq130_ ?_
          refine A_tkY 6 (j := 3) (dj := 72) (b := true) (v := (vB (decide (0 < ((List.length l) : Int))))) rfl (by kernel_rfl) rfl rfl (congrArg vB c131_t) (fun w hS => x_bin rfl rfl rfl) hq130_ ?_
          refine A_tk 7 (v := (vB (decide (0 < ((List.length l) : Int))))) rfl (by kernel_rfl) (fun w hS => (x_pickT (congrArg vB c131_t) rfl)) hq130_ ?_
          refine A_tk 8 (v := (vB (decide (0 < ((List.length l) : Int))))) rfl (by kernel_rfl) (fun w hS => x_move rfl) hq130_ ?_
          rcases Bool.eq_false_or_eq_true (decide (0 < ((List.length l) : Int))) with c132_t | c132_f
          ·have c132_tp : 0 < ((List.length l) : Int) := of_decide_eq_true c132_t
           refine A_tkY 9 (j := 8) (dj := 77) (b := true) (v := lv) rfl (by kernel_rfl) rfl rfl (congrArg vB c132_t) (fun w hS => x_move rfl) hq130_ ?_
           refine A_ready (i := 10) (rs := []) (by kernel_rfl) ?_
           refine AllR.cons ?_ AllR.nil
           have H134_ := ((Holds.bring H129_ 2 rfl) :)
           refine A_opYes (ls' := #[true, true, true, true, true, true, true, true, true, true, true, false, false, false, false, false, false, false, false, false, false, false]) (j := 8) (dj := 77) (b := true) rfl (by kernel_rfl) rfl rfl (congrArg vB c132_t) (T_call (al := [lv]) (pre := []) rfl rfl cb16 (kLives R1 lv l hlR (by omega)) H134_ ?_)
           rintro v133_ p138_ w135_ ⟨rfl, rfl⟩ S137_ H136_
           have S139_ := Same.trans (Same.trans S46_ (Same.drew _)) S137_
           refine ⟨⟨Holds.rd H136_ 1 rfl, Holds.slrd H136_ 2 rfl, (Holds.ro_at H136_ 0 rfl)⟩, ?_⟩
           have hq140_ := And.intro (Holds.rd H136_ 1 rfl) (And.intro (Holds.slrd H136_ 2 rfl) ((Holds.ro_at H136_ 0 rfl)))
           refine A_tkY 11 (j := 8) (dj := 77) (b := true) (v := (vB (!(!(vLast l).gone)))) rfl (by kernel_rfl) rfl rfl (congrArg vB c132_t) (fun w hS => x_not rfl) hq140_ ?_
           refine A_tk 12 (v := (vB (!(!(vLast l).gone)))) rfl (by kernel_rfl) (fun w hS => (x_pickT (congrArg vB c132_t) rfl)) hq140_ ?_
           refine A_tk 13 (v := (vB (!(!(vLast l).gone)))) rfl (by kernel_rfl) (fun w hS => x_move rfl) hq140_ ?_
           rcases Bool.eq_false_or_eq_true (!(!(vLast l).gone)) with c141_t | c141_f
           ·skip
            refine A_tkY 14 (j := 13) (dj := 82) (b := true) (v := lv) rfl (by kernel_rfl) rfl rfl (congrArg vB c141_t) (fun w hS => x_move rfl) hq140_ ?_
            refine A_tkY 17 (j := 13) (dj := 82) (b := true) (v := (vP (some ⟨b21_, 1, none⟩))) rfl (by kernel_rfl) rfl rfl (congrArg vB c141_t) (fun w hS => by kernel_rfl) hq140_ ?_
            refine A_tkY 18 (j := 13) (dj := 82) (b := true) (v := (vP (some ⟨b21_, 1, none⟩))) rfl (by kernel_rfl) rfl rfl (congrArg vB c141_t) (fun w hS => by kernel_rfl) hq140_ ?_
            refine A_tkY 19 (j := 13) (dj := 82) (b := true) (v := (vI .i64 x18_.rev_Main)) rfl (by kernel_rfl) rfl rfl (congrArg vB c141_t) (fun w hS => x_load1 rfl Try.underlying2 rfl (hS.1 1 (vI .i64 x18_.rev_Main) rfl)) hq140_ ?_
            refine A_ready (i := 15) (rs := []) (by kernel_rfl) ?_
            refine AllR.cons ?_ AllR.nil
            refine A_opYes (ls' := #[true, true, true, true, true, true, true, true, true, true, true, true, true, true, true, true, false, true, true, true, false, false]) (j := 13) (dj := 82) (b := true) rfl (by kernel_rfl) rfl rfl (congrArg vB c141_t) (T_call (al := [lv]) (pre := []) rfl rfl cb17 (kModified R1 lv l hlR (by omega)) H136_ ?_)
            rintro v142_ p146_ w143_ ⟨rfl, rfl⟩ S145_ H144_
            have S147_ := Same.trans S139_ S145_
            refine ⟨⟨Holds.rd H144_ 1 rfl, Holds.slrd H144_ 2 rfl, (Holds.ro_at H144_ 0 rfl)⟩, ?_⟩
            have hq148_ := And.intro (Holds.rd H144_ 1 rfl) (And.intro (Holds.slrd H144_ 2 rfl) ((Holds.ro_at H144_ 0 rfl)))
            refine A_tkY 16 (j := 13) (dj := 82) (b := true) (v := (vI .i64 ((vLast l).rev_Main))) rfl (by kernel_rfl) rfl rfl (congrArg vB c141_t) (fun w hS => by kernel_rfl) hq148_ ?_
            refine A_tkY 20 (j := 13) (dj := 82) (b := true) (v := (vB (decide ((vLast l).rev_Main = x18_.rev_Main)))) rfl (by kernel_rfl) rfl rfl (congrArg vB c141_t) (fun w hS => x_bin rfl rfl rfl) hq148_ ?_
            refine A_tk 21 (v := (vB (decide ((vLast l).rev_Main = x18_.rev_Main)))) rfl (by kernel_rfl) (fun w hS => (x_pickT (congrArg vB c141_t) rfl)) hq148_ ?_
            refine A_done (by kernel_rfl) ?_
            refine (X_then (hK128_ _ _ ?_))
            clear hK128_
            refine C_cond (b := decide ((vLast l).rev_Main = x18_.rev_Main)) rfl (fun c149_t => ?_) (fun c149_f => ?_)
            ·have c149_tp : (vLast l).rev_Main = x18_.rev_Main := of_decide_eq_true c149_t
             refine C_seq (fun K150_ hK150_ => C_reg ?_)
             refine sv (v := (vS none 0 0)) (x_assign rfl) ?_
             refine sv (v := (vS none 0 0)) (x_assign rfl) ?_
             refine sv (v := (vB false)) (x_assign rfl) ?_
             refine wpList_nil (X_then (hK150_ _ _ ?_))
             clear hK150_
             refine C_ret (X_thenR (X_blkR (X_thenR (X_thenR (X_blkR (X_thenR ?_))))))
             refine R_any (v := (vT #[(vS none 0 0), (vS none 0 0), (vB false)])) (run_results3 rfl rfl rfl rfl) ?_
             have H151_ : Holds w143_ (ro R1 :: F) := (Holds.pkF H144_ [0] 2 :)
             exact ⟨R1, _, _, rfl, hsR1, (.inr ⟨rfl, rfl, (by unfold kLife; rw [if_pos (by omega), hrun]; exact kRun_no hx19_ (by rw [hkA]; exact kStep_chk (by unfold kChk; first | (simp_all; done) | (simp_all; omega))))⟩), S147_, H151_⟩
            ·have c149_fp : ¬ ((vLast l).rev_Main = x18_.rev_Main) := of_decide_eq_false c149_f
             refine C_skip (X_then ?_)
             have H152_ : Holds w143_ (cl b21_ 39 [(vI .i64 x18_.kind), (vI .i64 x18_.rev_Main), (vI .i64 x18_.rev_Sub), (vI .i64 x18_.created_Main), (vI .i64 x18_.created_Sub), (vI .i64 x18_.ver), (vI .i64 x18_.at_)] :: sl 43 10 av (List.length A) (A.flatMap KA.cells) :: ro R1 :: F) := (Holds.pkF H144_ [1, 1, 0] 0 :)
             exact ⟨t4_v, a5_v, p6_v, _, congrArg (fun e => mkA 116 e []) (ch (ch (ch (ch (ch (ch (ch (ch (ch rfl rfl) rfl) rfl) rfl) rfl) rfl) rfl) rfl) rfl), H152_, S147_, (by unfold kChk; first | (simp_all; done) | (simp_all; omega))⟩
           ·skip
            refine A_tkN 14 (j := 13) (dj := 82) (b := false) rfl (by kernel_rfl) rfl rfl (congrArg vB c141_f) (by decide) hq140_ ?_
            refine A_tkN 15 (j := 13) (dj := 82) (b := false) rfl (by kernel_rfl) rfl rfl (congrArg vB c141_f) (by decide) hq140_ ?_
            refine A_tkN 16 (j := 13) (dj := 82) (b := false) rfl (by kernel_rfl) rfl rfl (congrArg vB c141_f) (by decide) hq140_ ?_
            refine A_tkN 17 (j := 13) (dj := 82) (b := false) rfl (by kernel_rfl) rfl rfl (congrArg vB c141_f) (by decide) hq140_ ?_
            refine A_tkN 18 (j := 13) (dj := 82) (b := false) rfl (by kernel_rfl) rfl rfl (congrArg vB c141_f) (by decide) hq140_ ?_
            refine A_tkN 19 (j := 13) (dj := 82) (b := false) rfl (by kernel_rfl) rfl rfl (congrArg vB c141_f) (by decide) hq140_ ?_
            refine A_tkN 20 (j := 13) (dj := 82) (b := false) rfl (by kernel_rfl) rfl rfl (congrArg vB c141_f) (by decide) hq140_ ?_
            refine A_tk 21 (v := (vB false)) rfl (by kernel_rfl) (fun w hS => (x_pickF (congrArg vB c141_f) rfl)) hq140_ ?_
            refine A_done (by kernel_rfl) ?_
            refine (X_then (hK128_ _ _ ?_))
            clear hK128_
            refine C_condF rfl ?_
            refine C_skip (X_then ?_)
            have H153_ : Holds w135_ (cl b21_ 39 [(vI .i64 x18_.kind), (vI .i64 x18_.rev_Main), (vI .i64 x18_.rev_Sub), (vI .i64 x18_.created_Main), (vI .i64 x18_.created_Sub), (vI .i64 x18_.ver), (vI .i64 x18_.at_)] :: sl 43 10 av (List.length A) (A.flatMap KA.cells) :: ro R1 :: F) := (Holds.pkF H136_ [1, 1, 0] 0 :)
            exact ⟨t4_v, a5_v, p6_v, _, congrArg (fun e => mkA 116 e []) (ch (ch (ch (ch (ch (ch (ch (ch (ch rfl rfl) rfl) rfl) rfl) rfl) rfl) rfl) rfl) rfl), H153_, S139_, (by unfold kChk; first | (simp_all; done) | (simp_all; omega))⟩
          ·have c132_fp : ¬ (0 < ((List.length l) : Int)) := of_decide_eq_false c132_f
           refine A_tkN 9 (j := 8) (dj := 77) (b := false) rfl (by kernel_rfl) rfl rfl (congrArg vB c132_f) (by decide) hq130_ ?_
           refine A_tkN 10 (j := 8) (dj := 77) (b := false) rfl (by kernel_rfl) rfl rfl (congrArg vB c132_f) (by decide) hq130_ ?_
           refine A_tkN 11 (j := 8) (dj := 77) (b := false) rfl (by kernel_rfl) rfl rfl (congrArg vB c132_f) (by decide) hq130_ ?_
           refine A_tk 12 (v := (vB false)) rfl (by kernel_rfl) (fun w hS => (x_pickF (congrArg vB c132_f) rfl)) hq130_ ?_
           refine A_tk 13 (v := (vB false)) rfl (by kernel_rfl) (fun w hS => x_move rfl) hq130_ ?_
           refine A_tkN 14 (j := 13) (dj := 82) (b := false) rfl (by kernel_rfl) rfl rfl rfl (by decide) hq130_ ?_
           refine A_tkN 15 (j := 13) (dj := 82) (b := false) rfl (by kernel_rfl) rfl rfl rfl (by decide) hq130_ ?_
           refine A_tkN 16 (j := 13) (dj := 82) (b := false) rfl (by kernel_rfl) rfl rfl rfl (by decide) hq130_ ?_
           refine A_tkN 17 (j := 13) (dj := 82) (b := false) rfl (by kernel_rfl) rfl rfl rfl (by decide) hq130_ ?_
           refine A_tkN 18 (j := 13) (dj := 82) (b := false) rfl (by kernel_rfl) rfl rfl rfl (by decide) hq130_ ?_
           refine A_tkN 19 (j := 13) (dj := 82) (b := false) rfl (by kernel_rfl) rfl rfl rfl (by decide) hq130_ ?_
           refine A_tkN 20 (j := 13) (dj := 82) (b := false) rfl (by kernel_rfl) rfl rfl rfl (by decide) hq130_ ?_
           refine A_tk 21 (v := (vB false)) rfl (by kernel_rfl) (fun w hS => (x_pickF rfl rfl)) hq130_ ?_
           refine A_done (by kernel_rfl) ?_
           refine (X_then (hK128_ _ _ ?_))
           clear hK128_
           refine C_condF rfl ?_
           refine C_skip (X_then ?_)
           exact ⟨t4_v, a5_v, p6_v, _, congrArg (fun e => mkA 116 e []) (ch (ch (ch (ch (ch (ch (ch (ch (ch rfl rfl) rfl) rfl) rfl) rfl) rfl) rfl) rfl) rfl), H129_, (Same.trans S46_ (Same.drew _)), (by unfold kChk; first | (simp_all; done) | (simp_all; omega))⟩
         ·have c131_fp : ¬ (x18_.kind = 1) := of_decide_eq_false c131_f
          refine A_tkN 4 (j := 3) (dj := 72) (b := false) rfl (by kernel_rfl) rfl rfl (congrArg vB c131_f) (by decide) hq130_ ?_
          refine A_tkN 5 (j := 3) (dj := 72) (b := false) rfl (by kernel_rfl) rfl rfl (congrArg vB c131_f) (by decide) hq130_ ?_
          refine A_tkN 6 (j := 3) (dj := 72) (b := false) rfl (by kernel_rfl) rfl rfl (congrArg vB c131_f) (by decide) hq130_ ?_
          refine A_tk 7 (v := (vB false)) rfl (by kernel_rfl) (fun w hS => (x_pickF (congrArg vB c131_f) rfl)) hq130_ ?_
          refine A_tk 8 (v := (vB false)) rfl (by kernel_rfl) (fun w hS => x_move rfl) hq130_ ?_
          refine A_tkN 9 (j := 8) (dj := 77) (b := false) rfl (by kernel_rfl) rfl rfl rfl (by decide) hq130_ ?_
          refine A_tkN 10 (j := 8) (dj := 77) (b := false) rfl (by kernel_rfl) rfl rfl rfl (by decide) hq130_ ?_
          refine A_tkN 11 (j := 8) (dj := 77) (b := false) rfl (by kernel_rfl) rfl rfl rfl (by decide) hq130_ ?_
          refine A_tk 12 (v := (vB false)) rfl (by kernel_rfl) (fun w hS => (x_pickF rfl rfl)) hq130_ ?_
          refine A_tk 13 (v := (vB false)) rfl (by kernel_rfl) (fun w hS => x_move rfl) hq130_ ?_
          refine A_tkN 14 (j := 13) (dj := 82) (b := false) rfl (by kernel_rfl) rfl rfl rfl (by decide) hq130_ ?_
          refine A_tkN 15 (j := 13) (dj := 82) (b := false) rfl (by kernel_rfl) rfl rfl rfl (by decide) hq130_ ?_
          refine A_tkN 16 (j := 13) (dj := 82) (b := false) rfl (by kernel_rfl) rfl rfl rfl (by decide) hq130_ ?_
          refine A_tkN 17 (j := 13) (dj := 82) (b := false) rfl (by kernel_rfl) rfl rfl rfl (by decide) hq130_ ?_
          refine A_tkN 18 (j := 13) (dj := 82) (b := false) rfl (by kernel_rfl) rfl rfl rfl (by decide) hq130_ ?_
          refine A_tkN 19 (j := 13) (dj := 82) (b := false) rfl (by kernel_rfl) rfl rfl rfl (by decide) hq130_ ?_
          refine A_tkN 20 (j := 13) (dj := 82) (b := false) rfl (by kernel_rfl) rfl rfl rfl (by decide) hq130_ ?_
          refine A_tk 21 (v := (vB false)) rfl (by kernel_rfl) (fun w hS => (x_pickF rfl rfl)) hq130_ ?_
          refine A_done (by kernel_rfl) ?_
          refine (X_then (hK128_ _ _ ?_))
          clear hK128_
          refine C_condF rfl ?_
          refine C_skip (X_then ?_)
          exact ⟨t4_v, a5_v, p6_v, _, congrArg (fun e => mkA 116 e []) (ch (ch (ch (ch (ch (ch (ch (ch (ch rfl rfl) rfl) rfl) rfl) rfl) rfl) rfl) rfl) rfl), H129_, (Same.trans S46_ (Same.drew _)), (by unfold kChk; first | (simp_all; done) | (simp_all; omega))⟩
        ·rintro _ w125_ ⟨t4_v, a5_v, p6_v, h, rfl, H126_, S127_, hchk⟩
         refine C_seq (fun K154_ hK154_ => C_reg ?_)
         refine sv (v := lv) (x_move rfl) ?_
         refine sv (v := (vA #[(vI .i64 x18_.kind), (vI .i64 x18_.rev_Main), (vI .i64 x18_.rev_Sub), (vI .i64 x18_.created_Main), (vI .i64 x18_.created_Sub), (vI .i64 x18_.ver), (vI .i64 x18_.at_)])) (x_loadN (vs := [(vI .i64 x18_.kind), (vI .i64 x18_.rev_Main), (vI .i64 x18_.rev_Sub), (vI .i64 x18_.created_Main), (vI .i64 x18_.created_Sub), (vI .i64 x18_.ver), (vI .i64 x18_.at_)]) rfl Try.underlying39 rfl z39 rfl (Rd.cells (Holds.rd H126_ 0 rfl) 0 rfl)) ?_
         have H173_ := ((Holds.bring H126_ 2 rfl) :)
         refine S_list (T_callG (al := [lv, (vA #[(vI .i64 x18_.kind), (vI .i64 x18_.rev_Main), (vI .i64 x18_.rev_Sub), (vI .i64 x18_.created_Main), (vI .i64 x18_.created_Sub), (vI .i64 x18_.ver), (vI .i64 x18_.at_)])]) (pre := []) rfl rfl cb18 (kKeyDo R1 lv l x18_ hlR (by omega) (fun x hx => by have := hlv x hx; omega)) H173_ ?_)
         rintro R156_ v157_ p177_ w174_ hs155_ hq178_ S176_ H175_
         rcases hq178_ with ⟨v158_, rv159_, ok160_, mm161_, ms162_, cm163_, cs164_, ver165_, L166_, rl167_, rfl, rfl, he168_, he169_, he170_⟩ | ⟨v171_, rfl, rfl, he172_⟩
         ·skip
          have S179_ := Same.trans S127_ S176_
          have hz_R_R156_ := Sub.trans' hsR1 hs155_
          have hm1_ := kDo_len he168_
          have hm2_ := kDo_ver (n := (N : Int) + k) (by omega) hlv he168_
          refine sv (v := (vT #[v158_, (vA #[(vB ok160_), (vI .i64 mm161_), (vI .i64 ms162_), (vI .i64 cm163_), (vI .i64 cs164_), (vI .i64 ver165_), rv159_, (vI .i64 0), (vI .i64 0), (vS none 0 0)]), (vB true)])) (x_move rfl) ?_
          refine sv (v := v158_) (by kernel_rfl) ?_
          refine sv (v := (vA #[(vB ok160_), (vI .i64 mm161_), (vI .i64 ms162_), (vI .i64 cm163_), (vI .i64 cs164_), (vI .i64 ver165_), rv159_, (vI .i64 0), (vI .i64 0), (vS none 0 0)])) (by kernel_rfl) ?_
          refine sv (v := (vB true)) (by kernel_rfl) ?_
          refine S_list (T_alloc z43 H175_ ?_)
          intro b181_ w182_ S184_ H183_
          have S185_ := Same.trans S179_ S184_
          refine sv (v := v158_) (x_assign rfl) ?_
          refine S_list0 (T_storeN (vs := [(vB ok160_), (vI .i64 mm161_), (vI .i64 ms162_), (vI .i64 cm163_), (vI .i64 cs164_), (vI .i64 ver165_), rv159_, (vI .i64 0), (vI .i64 0), (vS none 0 0)]) rfl rfl z43 rfl (List.forall_mem_cons.2 ⟨rfl, (List.forall_mem_cons.2 ⟨rfl, (List.forall_mem_cons.2 ⟨rfl, (List.forall_mem_cons.2 ⟨rfl, (List.forall_mem_cons.2 ⟨rfl, (List.forall_mem_cons.2 ⟨rfl, (List.forall_mem_cons.2 ⟨(RS.one he170_), (List.forall_mem_cons.2 ⟨rfl, (List.forall_mem_cons.2 ⟨rfl, (List.forall_mem_cons.2 ⟨rfl, (fun _ h__ => by cases h__)⟩)⟩)⟩)⟩)⟩)⟩)⟩)⟩)⟩)⟩) H183_ 0 rfl (Nat.le_of_ble_eq_true (by rfl)) ?_)
          intro w186_ S188_ H187_
          have S189_ := Same.trans S185_ S188_
          refine sv (v := (vB true)) (x_assign rfl) ?_
          refine wpList_nil (X_then (hK154_ _ _ ?_))
          clear hK154_
          refine C_seq (fun K190_ hK190_ => ?_)
          refine C_seq (fun K191_ hK191_ => C_reg ?_)
          refine sv (v := (vB true)) (x_move rfl) ?_
          refine sv (v := (vB false)) (x_cast (x_not (b := true) rfl) rfl) ?_
          refine sv (v := (vB false)) (x_move rfl) ?_
          refine S_yes (j := 2) (dj := 100) (b := false) rfl rfl rfl (T_val (v := v158_) (x_move rfl) ?_)
          refine S_yes (j := 2) (dj := 100) (b := false) rfl rfl rfl (T_val (v := (vI .i64 ((List.length L166_) : Int))) (x_lenRS rfl he169_ Try.underlying23) ?_)
          refine S_yes (j := 2) (dj := 100) (b := false) rfl rfl rfl (T_val (v := (vB (decide (((List.length L166_) : Int) = 0)))) (x_bin rfl rfl rfl) ?_)
          refine S_list (T_pickF (v := (vB (decide (((List.length L166_) : Int) = 0)))) rfl rfl ?_)
          refine wpList_nil (X_then (hK191_ _ _ ?_))
          clear hK191_
          refine C_cond (b := decide (((List.length L166_) : Int) = 0)) rfl (fun c192_t => ?_) (fun c192_f => ?_)
          ·have c192_tp : ((List.length L166_) : Int) = 0 := of_decide_eq_true c192_t
           refine C_seq (fun K193_ hK193_ => C_reg ?_)
           refine sv (v := (vS none 0 0)) (x_assign rfl) ?_
           refine sv (v := (vS none 0 0)) (x_assign rfl) ?_
           refine sv (v := (vB false)) (x_assign rfl) ?_
           refine wpList_nil (X_then (hK193_ _ _ ?_))
           clear hK193_
           refine C_ret (X_thenR (X_blkR (X_thenR (X_thenR (X_blkR (X_thenR ?_))))))
           refine R_any (v := (vT #[(vS none 0 0), (vS none 0 0), (vB false)])) (run_results3 rfl rfl rfl rfl) ?_
           have H194_ : Holds w186_ (ro R156_ :: F) := (Holds.pkF H187_ [1] 3 :)
           exact ⟨R156_, _, _, rfl, hz_R_R156_, (.inr ⟨rfl, rfl, (by unfold kLife; rw [if_pos (by omega), hrun]; exact kRun_no hx19_ (by rw [hkA]; exact kStep_nil he168_ c192_tp))⟩), S189_, H194_⟩
          ·have c192_fp : ¬ (((List.length L166_) : Int) = 0) := of_decide_eq_false c192_f
           refine C_skip (X_then (hK190_ _ _ ?_))
           clear hK190_
           refine C_seq (fun K195_ hK195_ => C_reg ?_)
           refine sv (v := v158_) (x_move rfl) ?_
           refine sv (v := v158_) (x_assign rfl) ?_
           refine wpList_nil (X_then (hK195_ _ _ ?_))
           clear hK195_
           refine C_seq (fun K196_ hK196_ => C_reg ?_)
           refine sv (v := v158_) (x_move rfl) ?_
           have H202_ := ((Holds.bring H187_ 1 rfl) :)
           refine S_list (T_callG (al := [v158_]) (pre := []) rfl rfl cb9 (kDump R156_ v158_ L166_ he169_ (by omega)) H202_ ?_)
           rintro R198_ v199_ p206_ w203_ hs197_ ⟨gv200_, rfl, rfl, he201_⟩ S205_ H204_
           have S207_ := Same.trans S189_ S205_
           have hz_R_R198_ := Sub.trans' hz_R_R156_ hs197_
           have hz_R1_R198_ := Sub.trans' hs155_ hs197_
           obtain ⟨gN, hg1, hg2, hg3⟩ := he201_
           refine sv (v := (vP (some ⟨b181_, 7, none⟩))) (by kernel_rfl) ?_
           refine S_list0 (T_storeN (vs := [(vI .i64 ((vLast L166_).rev_Main)), (vI .i64 ((vLast L166_).rev_Sub)), gv200_]) rfl rfl z34 rfl (List.forall_mem_cons.2 ⟨rfl, (List.forall_mem_cons.2 ⟨rfl, (List.forall_mem_cons.2 ⟨(RS.one hg2), (fun _ h__ => by cases h__)⟩)⟩)⟩) H204_ 1 rfl (Nat.le_of_ble_eq_true (by rfl)) ?_)
           intro w208_ S210_ H209_
           have S211_ := Same.trans S207_ S210_
           refine wpList_nil (X_then (hK196_ _ _ ?_))
           clear hK196_
           refine C_reg ?_
           refine sv (v := av) (x_move rfl) ?_
           refine sv (v := (vA #[(vB ok160_), (vI .i64 mm161_), (vI .i64 ms162_), (vI .i64 cm163_), (vI .i64 cs164_), (vI .i64 ver165_), rv159_, (vI .i64 ((vLast L166_).rev_Main)), (vI .i64 ((vLast L166_).rev_Sub)), gv200_])) (x_loadN (vs := [(vB ok160_), (vI .i64 mm161_), (vI .i64 ms162_), (vI .i64 cm163_), (vI .i64 cs164_), (vI .i64 ver165_), rv159_, (vI .i64 ((vLast L166_).rev_Main)), (vI .i64 ((vLast L166_).rev_Sub)), gv200_]) rfl Try.underlying43 rfl z43 rfl (Rd.cells (Holds.rd H209_ 1 rfl) 0 rfl)) ?_
           refine S_list (T_new (obj := .cells #[(vB ok160_), (vI .i64 mm161_), (vI .i64 ms162_), (vI .i64 cm163_), (vI .i64 cs164_), (vI .i64 ver165_), rv159_, (vI .i64 ((vLast L166_).rev_Main)), (vI .i64 ((vLast L166_).rev_Sub)), gv200_] 43) (f := fun b__ => .slice (some ⟨b__, 0, none⟩) 1 1) (A := fun b__ => cl b__ 43 [(vB ok160_), (vI .i64 mm161_), (vI .i64 ms162_), (vI .i64 cm163_), (vI .i64 cs164_), (vI .i64 ver165_), rv159_, (vI .i64 ((vLast L166_).rev_Main)), (vI .i64 ((vLast L166_).rev_Sub)), gv200_]) (by kernel_rfl) (fun l h => h.alloc _ _) H209_ ?_)
           intro b212_ w213_ S215_ H214_
           have S216_ := Same.trans S211_ S215_
           refine S_list (T_append rfl rfl Try.underlying24 z43 rfl (by decide) H214_ 4 rfl (Holds.cl_src H214_ 0 rfl Try.underlying24 (List.forall_mem_cons.2 ⟨rfl, (List.forall_mem_cons.2 ⟨rfl, (List.forall_mem_cons.2 ⟨rfl, (List.forall_mem_cons.2 ⟨rfl, (List.forall_mem_cons.2 ⟨rfl, (List.forall_mem_cons.2 ⟨rfl, (List.forall_mem_cons.2 ⟨(RS.one (RS.mono he170_ hs197_)), (List.forall_mem_cons.2 ⟨rfl, (List.forall_mem_cons.2 ⟨rfl, (List.forall_mem_cons.2 ⟨(RS.one hg2), (fun _ h__ => by cases h__)⟩)⟩)⟩)⟩)⟩)⟩)⟩)⟩)⟩)⟩) rfl) (by first | omega | (simp only [List.length_append, List.length_cons, List.length_nil]; omega)) ?_)
           intro v217_ w218_ S220_ H219_
           have S221_ := Same.trans S216_ S220_
           refine sv (v := v217_) (x_assign rfl) ?_
           refine wpList_nil (X_blkN (X_then (hK16_ _ _ ?_)))
           clear hK16_
           refine C_reg ?_
           refine sv (v := (vI .i64 ((k : Int) + 1))) (x_bin rfl rfl (ib_add (IntWalk.i64_in _ (by omega)))) ?_
           refine sv (v := (vI .i64 ((k : Int) + 1))) (x_move rfl) ?_
           refine wpList_nil (X_then ?_)
           have H222_ := Holds.resl H219_ 4 rfl (by simp [KA.cells] : (A.flatMap KA.cells) ++ [(vB ok160_), (vI .i64 mm161_), (vI .i64 ms162_), (vI .i64 cm163_), (vI .i64 cs164_), (vI .i64 ver165_), rv159_, (vI .i64 ((vLast L166_).rev_Main)), (vI .i64 ((vLast L166_).rev_Sub)), gv200_] = (A ++ [(⟨ok160_, mm161_, ms162_, cm163_, cs164_, ver165_, rv159_, (vLast L166_).rev_Main, (vLast L166_).rev_Sub, gv200_, rl167_, gN⟩ : KA)]).flatMap KA.cells) (by simp : (List.length A) + 1 = (List.length (A ++ [(⟨ok160_, mm161_, ms162_, cm163_, cs164_, ver165_, rv159_, (vLast L166_).rev_Main, (vLast L166_).rev_Sub, gv200_, rl167_, gN⟩ : KA)])))
           have H223_ : Holds w218_ (sl 43 10 v217_ (List.length (A ++ [(⟨ok160_, mm161_, ms162_, cm163_, cs164_, ver165_, rv159_, (vLast L166_).rev_Main, (vLast L166_).rev_Sub, gv200_, rl167_, gN⟩ : KA)])) ((A ++ [(⟨ok160_, mm161_, ms162_, cm163_, cs164_, ver165_, rv159_, (vLast L166_).rev_Main, (vLast L166_).rev_Sub, gv200_, rl167_, gN⟩ : KA)]).flatMap KA.cells) :: ro R198_ :: F) := (Holds.pkF H222_ [4, 1] 3 :)
           exact ⟨⟨R198_, k + 1, v158_, v217_, L166_, (A ++ [(⟨ok160_, mm161_, ms162_, cm163_, cs164_, ver165_, rv159_, (vLast L166_).rev_Main, (vLast L166_).rev_Sub, gv200_, rl167_, gN⟩ : KA)]), t4_v, a5_v, p6_v⟩, ⟨_, congrArg (fun e => mkA 116 e []) (ch (ch (ch (ch (ch (ch (ch (ch rfl rfl) rfl) rfl) rfl) rfl) rfl) rfl) (congrArg (vI .i64) ((by first | rfl | omega | (simp; done) | (simp; omega)) : (k : Int) + 1 = ((k + 1 : Nat) : Int)))), H223_, S221_, (hz_R_R198_), (by first | assumption | omega | exact rfl), ((RS.mono he169_ hs197_)), (by rw [hrun, kRun_yes hx19_ (by rw [hkA]; exact kStep_yes hchk he168_ c192_fp)]; simp [KA.m, KM.at_, hg1]), (by rw [List.map_append, List.length_append, hkA]; rfl), (by simp; omega), (all_snoc (fun x hx => (hA x hx).mono hz_R1_R198_) ⟨(RS.mono he170_ hs197_), hg2, fun y hy => (hg3 y hy)⟩), (by first | assumption | omega | exact rfl), (fun x hx => by have := hm2_ x hx; omega)⟩, by first | omega | (dsimp only; omega) | (simp; omega)⟩
         ·skip
          have S180_ := Same.trans S127_ S176_
          have hz_R_R156_ := Sub.trans' hsR1 hs155_
          refine sv (v := (vT #[v171_, (vA #[(vB false), (vI .i64 0), (vI .i64 0), (vI .i64 0), (vI .i64 0), (vI .i64 0), (vS none 0 0), (vI .i64 0), (vI .i64 0), (vS none 0 0)]), (vB false)])) (x_move rfl) ?_
          refine sv (v := v171_) (by kernel_rfl) ?_
          refine sv (v := (vA #[(vB false), (vI .i64 0), (vI .i64 0), (vI .i64 0), (vI .i64 0), (vI .i64 0), (vS none 0 0), (vI .i64 0), (vI .i64 0), (vS none 0 0)])) (by kernel_rfl) ?_
          refine sv (v := (vB false)) (by kernel_rfl) ?_
          refine S_list (T_alloc z43 H175_ ?_)
          intro b224_ w225_ S227_ H226_
          have S228_ := Same.trans S180_ S227_
          refine sv (v := v171_) (x_assign rfl) ?_
          refine S_list0 (T_storeN (vs := [(vB false), (vI .i64 0), (vI .i64 0), (vI .i64 0), (vI .i64 0), (vI .i64 0), (vS none 0 0), (vI .i64 0), (vI .i64 0), (vS none 0 0)]) rfl rfl z43 rfl (by simp [Value.oneCell']) H226_ 0 rfl (Nat.le_of_ble_eq_true (by rfl)) ?_)
          intro w229_ S231_ H230_
          have S232_ := Same.trans S228_ S231_
          refine sv (v := (vB false)) (x_assign rfl) ?_
          refine wpList_nil (X_then (hK154_ _ _ ?_))
          clear hK154_
          refine C_seq (fun K233_ hK233_ => ?_)
          refine C_seq (fun K234_ hK234_ => C_reg ?_)
          refine sv (v := (vB false)) (x_move rfl) ?_
          refine sv (v := (vB true)) (x_cast (x_not (b := false) rfl) rfl) ?_
          refine sv (v := (vB true)) (x_move rfl) ?_
          refine S_no (j := 2) (dj := 100) (b := true) rfl rfl rfl (by decide) ?_
          refine S_no (j := 2) (dj := 100) (b := true) rfl rfl rfl (by decide) ?_
          refine S_no (j := 2) (dj := 100) (b := true) rfl rfl rfl (by decide) ?_
          refine S_list (T_pickT (v := (vB true)) rfl rfl ?_)
          refine wpList_nil (X_then (hK234_ _ _ ?_))
          clear hK234_
          refine C_condT rfl ?_
          refine C_seq (fun K235_ hK235_ => C_reg ?_)
          refine sv (v := (vS none 0 0)) (x_assign rfl) ?_
          refine sv (v := (vS none 0 0)) (x_assign rfl) ?_
          refine sv (v := (vB false)) (x_assign rfl) ?_
          refine wpList_nil (X_then (hK235_ _ _ ?_))
          clear hK235_
          refine C_ret (X_thenR (X_blkR (X_thenR (X_thenR (X_blkR (X_thenR ?_))))))
          refine R_any (v := (vT #[(vS none 0 0), (vS none 0 0), (vB false)])) (run_results3 rfl rfl rfl rfl) ?_
          have H236_ : Holds w229_ (ro R156_ :: F) := (Holds.pkF H230_ [1] 3 :)
          exact ⟨R156_, _, _, rfl, hz_R_R156_, (.inr ⟨rfl, rfl, (by unfold kLife; rw [if_pos (by omega), hrun]; exact kRun_no hx19_ (by rw [hkA]; exact kStep_none he172_))⟩), S232_, H236_⟩
  ·have c15_fp : ¬ ((k : Int) < ((List.length O) : Int)) := of_decide_eq_false c15_f
   refine C_exit (X_thenX (X_thenX (X_blkHit ?_)))
   refine (X_then (hK7_ _ _ ?_))
   clear hK7_
   refine C_seq (fun K237_ hK237_ => C_reg ?_)
   refine sv (v := lv) (x_move rfl) ?_
   refine sv (v := av) (x_move rfl) ?_
   refine sv (v := lv) (x_assign rfl) ?_
   refine sv (v := av) (x_assign rfl) ?_
   refine sv (v := (vB true)) (x_assign rfl) ?_
   refine wpList_nil (X_then (hK237_ _ _ ?_))
   clear hK237_
   refine C_ret ?_
   refine R_any (v := (vT #[lv, av, (vB true)])) (run_results3 rfl rfl rfl rfl) ?_
   have H238_ := ((Holds.bring H11_ 1 rfl) :)
   obtain ⟨R239_, hs240_, ⟨R241_, ha242_, hs243_⟩, H244_⟩ := Holds.gift H238_
   have hz_R_R239_ := Sub.trans' hsR1 hs240_
   have hr245_ : RS R239_ 10 av (List.length A) (A.flatMap KA.cells) := (sl_RS ha242_ (Sub.rfl' _)).mono hs243_
   have hk3_ : k = O.length := (by omega)
   exact ⟨R239_, _, _, rfl, hz_R_R239_, (.inl ⟨lv, av, l, A, rfl, rfl, (by unfold kLife; rw [if_pos (by omega), hrun, hk3_, List.drop_length]; rfl), ((RS.mono hlR hs240_)), (hr245_), (fun x hx => (hA x hx).mono hs240_), (⟨by omega, fun x hx => by have := hlv x hx; omega⟩)⟩), S12_, H244_⟩
end Go.Proofs.Ytiblemgccgbhoaa
set_option linter.unusedVariables false
set_option linter.unusedSimpArgs false
namespace Go.Proofs.Ytiblemgccgbhoaa
open Go Go.RowKit Gw
open Go.Value renaming int → vI, bool → vB, slice → vS, pointer → vP, agg → vA, tuple → vT

def GN.k (x : GN) : Int × List RV := (x.ver, x.l)
def GM.k (x : GM) : Int × List RV := (x.ver, x.l)
theorem map_ne {α β : Type} {f : α → β} {l m : List α} {k : Nat} {x y : α} (h1 : l[k]? = some x) (h2 : m[k]? = some y) (h : f x ≠ f y) : l.map f ≠ m.map f := fun e => by
  have e2 := congrArg (·[k]?) e
  simp only [List.getElem?_map, h1, h2, Option.map_some] at e2
  exact h (Option.some.inj e2)
theorem map_nel {α β : Type} {f : α → β} {l m : List α} (h : ¬ (l.length : Int) = m.length) : l.map f ≠ m.map f := fun e => by
  have e2 := congrArg List.length e
  rw [List.length_map, List.length_map] at e2
  exact h (by rw [e2])
theorem map_snoc {α β : Type} {f : α → β} {l m : List α} {k : Nat} {x y : α} (h : (l.take k).map f = (m.take k).map f) (h1 : l[k]? = some x) (h2 : m[k]? = some y) (hf : f x = f y) : (l.take (k + 1)).map f = (m.take (k + 1)).map f := by
  rw [List.take_add_one, List.take_add_one, h1, h2, List.map_append, List.map_append, h]
  simp [hf]
theorem map_all {α β : Type} {f : α → β} {l m : List α} {k : Nat} (h : (l.take k).map f = (m.take k).map f) (h1 : l.length ≤ k) (h2 : l.length = m.length) : l.map f = m.map f := by
  rw [List.take_of_length_le h1, List.take_of_length_le (by omega)] at h; exact h
theorem rv_ne {x y : RV} (h : ¬ (x.main = y.main ∧ x.sub = y.sub)) : x ≠ y := fun e => h (by rw [e]; exact ⟨rfl, rfl⟩)
theorem rv_eq {x y : RV} (h : x.main = y.main ∧ x.sub = y.sub) : x = y := by
  cases x; cases y; cases h with | intro h1 h2 => simp only at h1 h2; rw [h1, h2]
set_option maxHeartbeats 4000000 in
theorem kSameRevs (R : HP) (v1 v2 : Value) (K1 K2 : List RV) (h1 : RS R 2 v1 (List.length K1) (K1.flatMap RV.cells)) (h2 : RS R 2 v2 (List.length K2) (K2.flatMap RV.cells)) (hb1 : K1.length ≤ 100000) :
    Tri Try.prog 11 #[v1, v2] R [] (fun v__ post__ => (v__ = (vB true) ∧ post__ = [] ∧ (K1 = K2)) ∨ (v__ = (vB false) ∧ post__ = [] ∧ (K1 ≠ K2))) := by
 refine Tri.into (n := 26) (al := [v1, v2]) Try.func11 rfl Try.ntmps11 rfl rfl fun w F H => ?_
 refine C_seq (fun K1_ hK1_ => C_reg ?_)
 refine sv (v := (vB false)) (x_assign rfl) ?_
 refine wpList_nil (X_then (hK1_ _ _ ?_))
 clear hK1_
 refine C_seq (fun K2_ hK2_ => ?_)
 refine C_seq (fun K3_ hK3_ => C_reg ?_)
 refine sv (v := v1) (x_move rfl) ?_
 refine sv (v := (vI .i64 ((List.length K1) : Int))) (x_lenRS rfl h1 Try.underlying41) ?_
 refine sv (v := v2) (x_move rfl) ?_
 refine sv (v := (vI .i64 ((List.length K2) : Int))) (x_lenRS rfl h2 Try.underlying41) ?_
 refine sv (v := (vB (decide (((List.length K1) : Int) ≠ ((List.length K2) : Int))))) (x_bin rfl rfl rfl) ?_
 refine wpList_nil (X_then (hK3_ _ _ ?_))
 clear hK3_
 refine C_cond (b := decide (((List.length K1) : Int) ≠ ((List.length K2) : Int))) rfl (fun c4_t => ?_) (fun c4_f => ?_)
 ·have c4_tp : ((List.length K1) : Int) ≠ ((List.length K2) : Int) := of_decide_eq_true c4_t
  refine C_seq (fun K5_ hK5_ => C_reg ?_)
  refine sv (v := (vB false)) (x_assign rfl) ?_
  refine wpList_nil (X_then (hK5_ _ _ ?_))
  clear hK5_
  refine C_ret (X_thenR ?_)
  refine R_any (v := (vB false)) (run_results1 rfl rfl) ?_
  exact ⟨_, _, rfl, (.inr ⟨rfl, rfl, (fun e_ => map_nel (f := id) (l := K1) (m := K2) (by first | (simp_all; done) | (simp_all; omega)) (by rw [e_]))⟩), (Same.refl w), H⟩
 ·have c4_fp : ¬ (((List.length K1) : Int) ≠ ((List.length K2) : Int)) := of_decide_eq_false c4_f
  refine C_skip (X_then (hK2_ _ _ ?_))
  clear hK2_
  refine C_seq (fun K6_ hK6_ => ?_)
  refine C_seq (fun K7_ hK7_ => C_reg ?_)
  refine sv (v := v1) (x_move rfl) ?_
  refine sv (v := (vI .i64 ((List.length K1) : Int))) (x_lenRS rfl h1 Try.underlying41) ?_
  refine sv (v := (vI .i64 0)) (x_move rfl) ?_
  refine wpList_nil (X_then (hK7_ _ _ ?_))
  clear hK7_
  refine C_block ?_
  refine C_loop (γ := Nat × Bool) (fun x__ a__ w1__ => match x__ with | ⟨k, t4_v⟩ => ∃ h : Env, a__ = mkA 26 (upd (upd (upd (upd (upd h 0 v1) 1 v2) 4 (vB t4_v)) 12 (vI .i64 ((List.length K1) : Int))) 13 (vI .i64 (k : Int))) [] ∧ Holds w1__ (ro R :: F) ∧ Same w w1__ ∧ (k ≤ K1.length) ∧ (K1.length = K2.length) ∧ ((K1.take k).map id = (K2.take k).map id)) (fun x__ => match x__ with | ⟨k, t4_v⟩ => K1.length - k) (⟨0, false⟩) ⟨_, congrArg (fun e => mkA 26 e []) (ch (ch (ch (ch (ch rfl rfl) rfl) rfl) rfl) (congrArg (vI .i64) ((by first | rfl | omega | (simp; done) | (simp; omega)) : 0 = (0 : Int)))), H, (Same.refl w), (by first | assumption | omega | exact rfl), (by first | assumption | omega | exact rfl), (rfl)⟩ ?_
  rintro ⟨k, t4_v⟩ _ w8_ ⟨h, rfl, H9_, S10_, hk, hln, hq⟩
  refine C_seq (fun K11_ hK11_ => C_reg ?_)
  refine sv (v := (vB (decide ((k : Int) < ((List.length K1) : Int))))) (x_bin rfl rfl rfl) ?_
  refine wpList_nil (X_then (hK11_ _ _ ?_))
  clear hK11_
  refine C_seq (fun K12_ hK12_ => ?_)
  refine C_cond (b := decide ((k : Int) < ((List.length K1) : Int))) rfl (fun c13_t => ?_) (fun c13_f => ?_)
  ·have c13_tp : (k : Int) < ((List.length K1) : Int) := of_decide_eq_true c13_t
   refine C_skip (X_then (hK12_ _ _ ?_))
   clear hK12_
   refine C_seq (fun K14_ hK14_ => ?_)
   refine C_block ?_
   refine C_seq (fun K15_ hK15_ => C_reg ?_)
   refine sv (v := (vI .i64 (k : Int))) (x_move rfl) ?_
   refine sv (v := (vI .i64 (k : Int))) (x_assign rfl) ?_
   refine wpList_nil (X_then (hK15_ _ _ ?_))
   clear hK15_
   refine C_seq (fun K16_ hK16_ => ?_)
   refine A_start (S := fun w => Sub R (hp w)) (N := 9) foll rfl rfl ?_
   have H17_ := Holds.drew_ H9_
   have hq18_ := ((Holds.ro_at H17_ 0 rfl))
   refine A_tk 0 (v := v1) rfl (by kernel_rfl) (fun w hS => x_move rfl) hq18_ ?_
   refine A_tk 1 (v := (vI .i64 (k : Int))) rfl (by kernel_rfl) (fun w hS => x_move rfl) hq18_ ?_
   obtain ⟨x19_, hx20_, hm21_⟩ := elem_at K1 k (by omega)
   refine A_tk 2 (v := (vP (some ⟨(sb v1), so v1 + (k * 2 + 0), none⟩))) rfl (by kernel_rfl) (fun w hS => x_idxRS (v := v1) rfl h1 rfl Try.underlying41 z31 (by omega) (by omega) (by omega : _ = k) rfl) hq18_ ?_
   refine A_tk 3 (v := (vA #[(vI .i64 x19_.main), (vI .i64 x19_.sub)])) rfl (by kernel_rfl) (fun w hS => x_loadN (vs := [(vI .i64 x19_.main), (vI .i64 x19_.sub)]) rfl Try.underlying31 rfl z31 rfl (RC.cells (RS.rc h1) hS (k * 2 + 0) (fm_cells RV.len hx20_ (i := 0) rfl))) hq18_ ?_
   refine A_tk 4 (v := v2) rfl (by kernel_rfl) (fun w hS => x_move rfl) hq18_ ?_
   refine A_tk 5 (v := (vI .i64 (k : Int))) rfl (by kernel_rfl) (fun w hS => x_move rfl) hq18_ ?_
   obtain ⟨x22_, hx23_, hm24_⟩ := elem_at K2 k (by omega)
   refine A_tk 6 (v := (vP (some ⟨(sb v2), so v2 + (k * 2 + 0), none⟩))) rfl (by kernel_rfl) (fun w hS => x_idxRS (v := v2) rfl h2 rfl Try.underlying41 z31 (by omega) (by omega) (by omega : _ = k) rfl) hq18_ ?_
   refine A_tk 7 (v := (vA #[(vI .i64 x22_.main), (vI .i64 x22_.sub)])) rfl (by kernel_rfl) (fun w hS => x_loadN (vs := [(vI .i64 x22_.main), (vI .i64 x22_.sub)]) rfl Try.underlying31 rfl z31 rfl (RC.cells (RS.rc h2) hS (k * 2 + 0) (fm_cells RV.len hx23_ (i := 0) rfl))) hq18_ ?_
   refine A_tk 8 (v := (vB (!((decide (x19_.main = x22_.main)) && ((decide (x19_.sub = x22_.sub)) && (true)))))) rfl (by kernel_rfl) (fun w hS => x_neqS rfl rfl (by kernel_rfl) (eq_struct Try.underlying31 (by kernel_rfl) (eqf_cons rfl (run_part1 Try.underlying2 rfl rfl) (run_part1 Try.underlying2 rfl rfl) (eq_int Try.underlying2) (eqf_cons rfl (run_part1 Try.underlying2 rfl rfl) (run_part1 Try.underlying2 rfl rfl) (eq_int Try.underlying2) (eqf_nil))))) hq18_ ?_
   refine A_done (by kernel_rfl) ?_
   refine (X_then (hK16_ _ _ ?_))
   clear hK16_
   refine C_cond (b := !((decide (x19_.main = x22_.main)) && ((decide (x19_.sub = x22_.sub)) && (true)))) rfl (fun c25_t => ?_) (fun c25_f => ?_)
   ·skip
    refine C_seq (fun K26_ hK26_ => C_reg ?_)
    refine sv (v := (vB false)) (x_assign rfl) ?_
    refine wpList_nil (X_then (hK26_ _ _ ?_))
    clear hK26_
    refine C_ret (X_blkR (X_thenR (X_thenR (X_blkR (X_thenR ?_)))))
    refine R_any (v := (vB false)) (run_results1 rfl rfl) ?_
    exact ⟨_, _, rfl, (.inr ⟨rfl, rfl, (fun e_ => map_ne (f := id) hx20_ hx23_ (rv_ne (by first | (simp_all; done) | (simp_all; omega))) (by rw [e_]))⟩), (Same.trans S10_ (Same.drew _)), H17_⟩
   ·skip
    refine C_skip (X_blkN (X_then (hK14_ _ _ ?_)))
    clear hK14_
    refine C_reg ?_
    refine sv (v := (vI .i64 ((k : Int) + 1))) (x_bin rfl rfl (ib_add (IntWalk.i64_in _ (by omega)))) ?_
    refine sv (v := (vI .i64 ((k : Int) + 1))) (x_move rfl) ?_
    refine wpList_nil (X_then ?_)
    exact ⟨⟨k + 1, t4_v⟩, ⟨_, congrArg (fun e => mkA 26 e []) (ch (ch (ch (ch (ch rfl rfl) rfl) rfl) rfl) (congrArg (vI .i64) ((by first | rfl | omega | (simp; done) | (simp; omega)) : (k : Int) + 1 = ((k + 1 : Nat) : Int)))), H17_, (Same.trans S10_ (Same.drew _)), (by first | assumption | omega | exact rfl), (by first | assumption | omega | exact rfl), (map_snoc hq hx20_ hx23_ (rv_eq (by first | (simp_all; done) | (simp_all; omega))))⟩, by first | omega | (dsimp only; omega) | (simp; omega)⟩
  ·have c13_fp : ¬ ((k : Int) < ((List.length K1) : Int)) := of_decide_eq_false c13_f
   refine C_exit (X_thenX (X_thenX (X_blkHit ?_)))
   refine (X_then (hK6_ _ _ ?_))
   clear hK6_
   refine C_seq (fun K27_ hK27_ => C_reg ?_)
   refine sv (v := (vB true)) (x_assign rfl) ?_
   refine wpList_nil (X_then (hK27_ _ _ ?_))
   clear hK27_
   refine C_ret ?_
   refine R_any (v := (vB true)) (run_results1 rfl rfl) ?_
   exact ⟨_, _, rfl, (.inl ⟨rfl, rfl, (by have e_ := map_all (f := id) hq (by omega) (by omega); simpa using e_)⟩), S10_, H9_⟩
end Go.Proofs.Ytiblemgccgbhoaa
set_option linter.unusedVariables false
set_option linter.unusedSimpArgs false
namespace Go.Proofs.Ytiblemgccgbhoaa
open Go Go.RowKit Gw
open Go.Value renaming int → vI, bool → vB, slice → vS, pointer → vP, agg → vA, tuple → vT

end Go.Proofs.Ytiblemgccgbhoaa
set_option linter.unusedVariables false
set_option linter.unusedSimpArgs false
namespace Go.Proofs.Ytiblemgccgbhoaa
open Go Go.RowKit Gw
open Go.Value renaming int → vI, bool → vB, slice → vS, pointer → vP, agg → vA, tuple → vT

end Go.Proofs.Ytiblemgccgbhoaa
set_option linter.unusedVariables false
set_option linter.unusedSimpArgs false
namespace Go.Proofs.Ytiblemgccgbhoaa
open Go Go.RowKit Gw
open Go.Value renaming int → vI, bool → vB, slice → vS, pointer → vP, agg → vA, tuple → vT

end Go.Proofs.Ytiblemgccgbhoaa
set_option linter.unusedVariables false
set_option linter.unusedSimpArgs false
namespace Go.Proofs.Ytiblemgccgbhoaa
open Go Go.RowKit Gw
open Go.Value renaming int → vI, bool → vB, slice → vS, pointer → vP, agg → vA, tuple → vT

theorem map_m_len {N N' : List GN} (h : N'.map GN.m = N.map GN.m) : N'.length = N.length := by
  have e := congrArg List.length h
  rwa [List.length_map, List.length_map] at e
theorem map_m_all {N N' : List GN} {n : Nat} (h : N'.map GN.m = N.map GN.m) (hb : ∀ x ∈ N, x.l.length ≤ n) : ∀ x ∈ N', x.l.length ≤ n := fun x hx => by
  have e : x.m ∈ N.map GN.m := h ▸ List.mem_map_of_mem hx
  obtain ⟨y, hy, e⟩ := List.mem_map.1 e
  have e2 : y.l = x.l := congrArg GM.l e
  rw [← e2]; exact hb y hy
theorem map_m_snoc {N N' : List GN} {k : Nat} {x y : GN} (h : N'.map GN.m = (N.take k).map GN.m) (hx : N[k]? = some x) (hy : y.m = x.m) : (N' ++ [y]).map GN.m = (N.take (k + 1)).map GN.m := by
  rw [List.take_add_one, hx, List.map_append, List.map_append, h]
  simp [hy]

set_option maxHeartbeats 1600000 in
theorem kRevsIn (R : HP) (v : Value) (K : List RV) (hK : RS R 2 v (List.length K) (K.flatMap RV.cells)) (hl : K.length ≤ 100000) :
    Tri Try.prog 34 #[v] R [] (fun v__ post__ => ∃ (v' : Value), v__ = v' ∧ post__ = [sl 58 2 v' (List.length K) (K.flatMap RV.cells)]) := by
 refine Tri.into (n := 20) (al := [v]) Try.func34 rfl Try.ntmps34 rfl rfl fun w F H => ?_
 refine C_seq (fun K1_ hK1_ => C_reg ?_)
 refine sv (v := (vS none 0 0)) (x_assign rfl) ?_
 refine wpList_nil (X_then (hK1_ _ _ ?_))
 clear hK1_
 refine C_seq (fun K2_ hK2_ => C_reg ?_)
 refine sv (v := (vS none 0 0)) (x_assign rfl) ?_
 refine wpList_nil (X_then (hK2_ _ _ ?_))
 clear hK2_
 refine C_seq (fun K3_ hK3_ => ?_)
 refine C_seq (fun K4_ hK4_ => C_reg ?_)
 refine sv (v := (vI .i64 0)) (x_assign rfl) ?_
 refine wpList_nil (X_then (hK4_ _ _ ?_))
 clear hK4_
 refine C_block ?_
 have H5_ : Holds w (sl 58 2 (vS none 0 0) (List.length (List.take 0 K)) ((List.take 0 K).flatMap RV.cells) :: ro R :: F) := Holds.add_nil H 58 2
 refine C_loop (γ := Nat × Value) (fun x__ a__ w1__ => match x__ with | ⟨k, v1⟩ => ∃ h : Env, a__ = mkA 20 (upd (upd (upd (upd h 0 v) 2 (vS none 0 0)) 3 v1) 4 (vI .i64 (k : Int))) [] ∧ Holds w1__ (sl 58 2 v1 (List.length (List.take k K)) ((List.take k K).flatMap RV.cells) :: ro R :: F) ∧ Same w w1__ ∧ (k ≤ K.length)) (fun x__ => match x__ with | ⟨k, v1⟩ => K.length - k) (⟨0, (vS none 0 0)⟩) ⟨_, congrArg (fun e => mkA 20 e []) (ch (ch (ch (ch rfl rfl) rfl) (rfl : (vS none 0 0) = ((vS none 0 0)))) (congrArg (vI .i64) ((by first | rfl | omega | (simp; done) | (simp; omega)) : 0 = (0 : Int)))), H5_, (Same.refl w), (by first | assumption | omega | exact rfl)⟩ ?_
 rintro ⟨k, v1⟩ _ w6_ ⟨h, rfl, H7_, S8_, hk⟩
 refine C_seq (fun K9_ hK9_ => ?_)
 refine C_seq (fun K10_ hK10_ => C_reg ?_)
 refine sv (v := (vI .i64 (k : Int))) (x_move rfl) ?_
 refine sv (v := v) (x_move rfl) ?_
 refine sv (v := (vI .i64 ((List.length K) : Int))) (x_lenRS rfl hK Try.underlying41) ?_
 refine sv (v := (vB (decide ((k : Int) < ((List.length K) : Int))))) (x_bin rfl rfl rfl) ?_
 refine wpList_nil (X_then (hK10_ _ _ ?_))
 clear hK10_
 refine C_cond (b := decide ((k : Int) < ((List.length K) : Int))) rfl (fun c11_t => ?_) (fun c11_f => ?_)
 ·have c11_tp : (k : Int) < ((List.length K) : Int) := of_decide_eq_true c11_t
  refine C_skip (X_then (hK9_ _ _ ?_))
  clear hK9_
  refine C_seq (fun K12_ hK12_ => ?_)
  refine C_block ?_
  refine C_reg ?_
  refine sv (v := v1) (x_move rfl) ?_
  refine sv (v := v) (x_move rfl) ?_
  refine sv (v := (vI .i64 (k : Int))) (x_move rfl) ?_
  obtain ⟨x13_, hx14_, hm15_⟩ := elem_at K k (by omega)
  refine sv (v := (vP (some ⟨(sb v), so v + (k * 2 + 0), none⟩))) (x_idxRS (v := v) rfl hK rfl Try.underlying41 z31 (by omega) (by omega) (by omega : _ = k) rfl) ?_
  refine sv (v := (vA #[(vI .i64 x13_.main), (vI .i64 x13_.sub)])) (x_loadN (vs := [(vI .i64 x13_.main), (vI .i64 x13_.sub)]) rfl Try.underlying31 rfl z31 rfl (RC.cells (RS.rc hK) (Holds.ro_at H7_ 1 rfl) (k * 2 + 0) (fm_cells RV.len hx14_ (i := 0) rfl))) ?_
  refine S_list (T_callW (al := [(vA #[(vI .i64 x13_.main), (vI .i64 x13_.sub)])]) rfl rfl cb33 (Calls.into (n := 8) (al := [(vA #[(vI .i64 x13_.main), (vI .i64 x13_.sub)])]) Try.func33 rfl Try.ntmps33 rfl rfl ?_))
  refine C_seq (fun K16_ hK16_ => C_reg ?_)
  refine S_list (T_box (v := (vA #[(vI .i64 x13_.main), (vI .i64 x13_.sub)])) rfl H7_ ?_)
  intro b17_ w18_ S20_ H19_
  have S21_ := Same.trans S8_ S20_
  refine S_list (T_alloc z58 H19_ ?_)
  intro b22_ w23_ S25_ H24_
  have S26_ := Same.trans S21_ S25_
  refine wpList_nil (X_then (hK16_ _ _ ?_))
  clear hK16_
  refine C_seq (fun K27_ hK27_ => C_reg ?_)
  refine sv (v := (vP (some ⟨b17_, 0, none⟩))) (by kernel_rfl) ?_
  refine sv (v := (vI .i64 x13_.main)) (x_load1 rfl Try.underlying2 rfl ((Holds.rd H24_ 1 rfl) 0 (vI .i64 x13_.main) rfl)) ?_
  refine sv (v := (vP (some ⟨b17_, 1, none⟩))) (by kernel_rfl) ?_
  refine sv (v := (vI .i64 x13_.sub)) (x_load1 rfl Try.underlying2 rfl ((Holds.rd H24_ 1 rfl) 1 (vI .i64 x13_.sub) rfl)) ?_
  refine sv (v := (vA #[(vI .i64 x13_.main), (vI .i64 x13_.sub)])) (by kernel_rfl) ?_
  refine S_list0 (T_storeN (vs := [(vI .i64 x13_.main), (vI .i64 x13_.sub)]) rfl rfl z58 rfl (by simp [Value.oneCell']) H24_ 0 rfl (Nat.le_of_ble_eq_true (by rfl)) ?_)
  intro w28_ S30_ H29_
  have S31_ := Same.trans S26_ S30_
  refine wpList_nil (X_then (hK27_ _ _ ?_))
  clear hK27_
  refine C_ret ?_
  refine R_any (v := (vA #[(vI .i64 x13_.main), (vI .i64 x13_.sub)])) (run_results1 rfl ⟨_, rfl, load_resN Try.underlying58 rfl z58 rfl (vs := [(vI .i64 x13_.main), (vI .i64 x13_.sub)]) (Holds.cl_cells H29_ 0 rfl 0 rfl)⟩) ⟨_, rfl, ?_⟩
  refine S_list (T_new (obj := .cells #[(vI .i64 x13_.main), (vI .i64 x13_.sub)] 58) (f := fun b__ => .slice (some ⟨b__, 0, none⟩) 1 1) (A := fun b__ => cl b__ 58 [(vI .i64 x13_.main), (vI .i64 x13_.sub)]) (by kernel_rfl) (fun l h => h.alloc _ _) H29_ ?_)
  intro b32_ w33_ S35_ H34_
  have S36_ := Same.trans S31_ S35_
  refine S_list (T_append rfl rfl Try.underlying80 z58 rfl (by decide) H34_ 3 rfl (Holds.cl_src H34_ 0 rfl Try.underlying80 (by simp [Value.oneCell']) rfl) (by rw [List.length_take]; omega) ?_)
  intro v37_ w38_ S40_ H39_
  have S41_ := Same.trans S36_ S40_
  refine sv (v := v37_) (x_assign rfl) ?_
  refine wpList_nil (X_blkN (X_then (hK12_ _ _ ?_)))
  clear hK12_
  refine C_reg ?_
  refine sv (v := (vI .i64 (k : Int))) (x_move rfl) ?_
  refine sv (v := (vI .i64 ((k : Int) + 1))) (x_bin rfl rfl (ib_add (IntWalk.i64_in _ (by omega)))) ?_
  refine sv (v := (vI .i64 ((k : Int) + 1))) (x_assign rfl) ?_
  refine wpList_nil (X_then ?_)
  have H42_ := Holds.resl H39_ 3 rfl ((by rw [List.take_add_one, hx14_]; simp [RV.cells]) : ((List.take k K).flatMap RV.cells) ++ [(vI .i64 x13_.main), (vI .i64 x13_.sub)] = (List.take (k + 1) K).flatMap RV.cells) ((by rw [List.take_add_one, hx14_]; simp [RV.cells]) : (List.length (List.take k K)) + 1 = (List.length (List.take (k + 1) K)))
  have H43_ : Holds w38_ (sl 58 2 v37_ (List.length (List.take (k + 1) K)) ((List.take (k + 1) K).flatMap RV.cells) :: ro R :: F) := (Holds.pkF H42_ [3, 3] 3 :)
  exact ⟨⟨k + 1, v37_⟩, ⟨_, congrArg (fun e => mkA 20 e []) (ch (ch (ch (ch rfl rfl) rfl) rfl) (congrArg (vI .i64) ((by first | rfl | omega | (simp; done) | (simp; omega)) : (k : Int) + 1 = ((k + 1 : Nat) : Int)))), H43_, S41_, (by first | assumption | omega | exact rfl)⟩, by first | omega | (dsimp only; omega) | (simp; omega)⟩
 ·have c11_fp : ¬ ((k : Int) < ((List.length K) : Int)) := of_decide_eq_false c11_f
  refine C_exit (X_thenX (X_thenX (X_blkHit ?_)))
  refine (X_then (hK3_ _ _ ?_))
  clear hK3_
  refine C_seq (fun K44_ hK44_ => C_reg ?_)
  refine sv (v := v1) (x_move rfl) ?_
  refine sv (v := v1) (x_assign rfl) ?_
  refine wpList_nil (X_then (hK44_ _ _ ?_))
  clear hK44_
  refine C_ret ?_
  refine R_any (v := v1) (run_results1 rfl rfl) ?_
  have H45_ := Holds.resl H7_ 0 rfl ((by rw [List.take_of_length_le (by omega)]) : (List.take k K).flatMap RV.cells = K.flatMap RV.cells) ((by rw [List.take_of_length_le (by omega)]) : (List.length (List.take k K)) = (List.length K))
  have H46_ : Holds w6_ (ro R :: sl 58 2 v1 (List.length K) (K.flatMap RV.cells) :: F) := (Holds.pkF H45_ [1, 0] 0 :)
  exact ⟨_, _, rfl, ⟨v1, rfl, rfl⟩, S8_, H46_⟩

set_option maxHeartbeats 1600000 in
theorem kDumpIn (R : HP) (m n : Int) (v : Value) (N : List GN) (h1 : RS R 4 v (List.length N) (N.flatMap GN.cells)) (hg1 : ∀ x ∈ N, GOk R x) (hb1 : N.length ≤ 100000) (hb2 : ∀ x ∈ N, x.l.length ≤ 100000) :
    TriG Try.prog 20 #[(vA #[(vI .i64 m), (vI .i64 n), v])] R [] (fun R' v__ post__ => ∃ (v' : Value) (N' : List GN), v__ = (vA #[(vI .i64 m), (vI .i64 n), v']) ∧ post__ = [] ∧ (N'.map GN.m = N.map GN.m) ∧ (RS R' 4 v' (List.length N') (N'.flatMap GN.cells)) ∧ (∀ x ∈ N', GOk R' x)) := by
 refine TriG.into (n := 43) (al := [(vA #[(vI .i64 m), (vI .i64 n), v])]) Try.func20 rfl Try.ntmps20 rfl rfl fun w F H => ?_
 refine C_seq (fun K1_ hK1_ => C_reg ?_)
 refine S_list (T_box (v := (vA #[(vI .i64 m), (vI .i64 n), v])) rfl H ?_)
 intro b2_ w3_ S5_ H4_
 have S6_ := Same.trans (Same.refl w) S5_
 refine S_list (T_alloc z61 H4_ ?_)
 intro b7_ w8_ S10_ H9_
 have S11_ := Same.trans S6_ S10_
 refine wpList_nil (X_then (hK1_ _ _ ?_))
 clear hK1_
 refine C_seq (fun K12_ hK12_ => C_reg ?_)
 refine sv (v := (vP (some ⟨b2_, 0, none⟩))) (by kernel_rfl) ?_
 refine sv (v := (vA #[(vI .i64 m), (vI .i64 n)])) (x_loadN (vs := [(vI .i64 m), (vI .i64 n)]) rfl Try.underlying31 rfl z31 rfl (Rd.cells (Holds.rd H9_ 1 rfl) 0 rfl)) ?_
 refine S_list (T_callW (al := [(vA #[(vI .i64 m), (vI .i64 n)])]) rfl rfl cb33 (Calls.into (n := 8) (al := [(vA #[(vI .i64 m), (vI .i64 n)])]) Try.func33 rfl Try.ntmps33 rfl rfl ?_))
 refine C_seq (fun K13_ hK13_ => C_reg ?_)
 refine S_list (T_box (v := (vA #[(vI .i64 m), (vI .i64 n)])) rfl H9_ ?_)
 intro b14_ w15_ S17_ H16_
 have S18_ := Same.trans S11_ S17_
 refine S_list (T_alloc z58 H16_ ?_)
 intro b19_ w20_ S22_ H21_
 have S23_ := Same.trans S18_ S22_
 refine wpList_nil (X_then (hK13_ _ _ ?_))
 clear hK13_
 refine C_seq (fun K24_ hK24_ => C_reg ?_)
 refine sv (v := (vP (some ⟨b14_, 0, none⟩))) (by kernel_rfl) ?_
 refine sv (v := (vI .i64 m)) (x_load1 rfl Try.underlying2 rfl ((Holds.rd H21_ 1 rfl) 0 (vI .i64 m) rfl)) ?_
 refine sv (v := (vP (some ⟨b14_, 1, none⟩))) (by kernel_rfl) ?_
 refine sv (v := (vI .i64 n)) (x_load1 rfl Try.underlying2 rfl ((Holds.rd H21_ 1 rfl) 1 (vI .i64 n) rfl)) ?_
 refine sv (v := (vA #[(vI .i64 m), (vI .i64 n)])) (by kernel_rfl) ?_
 refine S_list0 (T_storeN (vs := [(vI .i64 m), (vI .i64 n)]) rfl rfl z58 rfl (by simp [Value.oneCell']) H21_ 0 rfl (Nat.le_of_ble_eq_true (by rfl)) ?_)
 intro w25_ S27_ H26_
 have S28_ := Same.trans S23_ S27_
 refine wpList_nil (X_then (hK24_ _ _ ?_))
 clear hK24_
 refine C_ret ?_
 refine R_any (v := (vA #[(vI .i64 m), (vI .i64 n)])) (run_results1 rfl ⟨_, rfl, load_resN Try.underlying58 rfl z58 rfl (vs := [(vI .i64 m), (vI .i64 n)]) (Holds.cl_cells H26_ 0 rfl 0 rfl)⟩) ⟨_, rfl, ?_⟩
 refine sv (v := (vA #[(vI .i64 m), (vI .i64 n), (vS none 0 0)])) (by kernel_rfl) ?_
 refine S_list (T_alloc z61 H26_ ?_)
 intro b29_ w30_ S32_ H31_
 have S33_ := Same.trans S28_ S32_
 refine S_list0 (T_storeN (vs := [(vI .i64 m), (vI .i64 n), (vS none 0 0)]) rfl rfl z61 rfl (by simp [Value.oneCell']) H31_ 0 rfl (Nat.le_of_ble_eq_true (by rfl)) ?_)
 intro w34_ S36_ H35_
 have S37_ := Same.trans S33_ S36_
 refine wpList_nil (X_then (hK12_ _ _ ?_))
 clear hK12_
 refine C_seq (fun K38_ hK38_ => ?_)
 refine C_seq (fun K39_ hK39_ => C_reg ?_)
 refine sv (v := (vI .i64 0)) (x_assign rfl) ?_
 refine wpList_nil (X_then (hK39_ _ _ ?_))
 clear hK39_
 refine C_block ?_
 have H40_ : Holds w34_ (sl 83 4 (vS none 0 0) (List.length ([] : List GN)) (([] : List GN).flatMap GN.cells) :: cl b29_ 61 [(vI .i64 m), (vI .i64 n), (vS none 0 0)] :: cl b19_ 58 [(vI .i64 m), (vI .i64 n)] :: cl b14_ 31 [(vI .i64 m), (vI .i64 n)] :: cl b7_ 61 [(vI .i64 0), (vI .i64 0), (vS none 0 0)] :: cl b2_ 34 [(vI .i64 m), (vI .i64 n), v] :: ro R :: F) := Holds.add_nil H35_ 83 4
 have H41_ := Holds.recl H40_ 1 rfl ((lcons rfl (lcons rfl (lcons (rfl : (vS none 0 0) = ((vS none 0 0))) rfl))) : [(vI .i64 m), (vI .i64 n), (vS none 0 0)] = [(vI .i64 m), (vI .i64 n), ((vS none 0 0))])
 have H42_ : Holds w34_ (sl 83 4 (vS none 0 0) (List.length ([] : List GN)) (([] : List GN).flatMap GN.cells) :: cl b29_ 61 [(vI .i64 m), (vI .i64 n), ((vS none 0 0))] :: cl b7_ 61 [(vI .i64 0), (vI .i64 0), (vS none 0 0)] :: cl b2_ 34 [(vI .i64 m), (vI .i64 n), v] :: ro R :: F) := (Holds.pkF H41_ [0, 0, 2, 2, 2] 2 :)
 refine C_loop (γ := HP × Nat × Value × (List GN)) (fun x__ a__ w1__ => match x__ with | ⟨R1, k, gv, N'⟩ => ∃ h : Env, a__ = mkA 43 (upd (upd (upd (upd h 1 (vP (some ⟨b2_, 0, none⟩))) 2 (vP (some ⟨b7_, 0, none⟩))) 3 (vP (some ⟨b29_, 0, none⟩))) 4 (vI .i64 (k : Int))) [] ∧ Holds w1__ (sl 83 4 gv (List.length N') (N'.flatMap GN.cells) :: cl b29_ 61 [(vI .i64 m), (vI .i64 n), gv] :: cl b7_ 61 [(vI .i64 0), (vI .i64 0), (vS none 0 0)] :: cl b2_ 34 [(vI .i64 m), (vI .i64 n), v] :: ro R1 :: F) ∧ Same w w1__ ∧ (Sub R R1) ∧ (k ≤ N.length) ∧ (N'.map GN.m = (N.take k).map GN.m) ∧ (∀ x ∈ N', GOk R1 x)) (fun x__ => match x__ with | ⟨R1, k, gv, N'⟩ => N.length - k) (⟨R, 0, (vS none 0 0), ([] : List GN)⟩) ⟨_, congrArg (fun e => mkA 43 e []) (ch (ch (ch (ch rfl rfl) rfl) rfl) (congrArg (vI .i64) ((by first | rfl | omega | (simp; done) | (simp; omega)) : 0 = (0 : Int)))), H42_, S37_, (Sub.rfl' _), (by first | assumption | omega | exact rfl), (rfl), (fun x hx => by cases hx)⟩ ?_
 rintro ⟨R1, k, gv, N'⟩ _ w43_ ⟨h, rfl, H44_, S45_, hsR1, hk, hm, hN⟩
 refine C_seq (fun K46_ hK46_ => ?_)
 refine C_seq (fun K47_ hK47_ => C_reg ?_)
 refine sv (v := (vI .i64 (k : Int))) (x_move rfl) ?_
 refine sv (v := (vP (some ⟨b2_, 2, none⟩))) (by kernel_rfl) ?_
 refine sv (v := v) (x_load1 rfl Try.underlying32 rfl ((Holds.rd H44_ 3 rfl) 2 v rfl)) ?_
 refine sv (v := (vI .i64 ((List.length N) : Int))) (x_lenRS rfl (RS.mono h1 hsR1) Try.underlying32) ?_
 refine sv (v := (vB (decide ((k : Int) < ((List.length N) : Int))))) (x_bin rfl rfl rfl) ?_
 refine wpList_nil (X_then (hK47_ _ _ ?_))
 clear hK47_
 refine C_cond (b := decide ((k : Int) < ((List.length N) : Int))) rfl (fun c48_t => ?_) (fun c48_f => ?_)
 ·have c48_tp : (k : Int) < ((List.length N) : Int) := of_decide_eq_true c48_t
  refine C_skip (X_then (hK46_ _ _ ?_))
  clear hK46_
  refine C_seq (fun K49_ hK49_ => ?_)
  refine C_block ?_
  refine A_start (S := fun w => Rd b2_ [(vI .i64 m), (vI .i64 n), v] w ∧ Sub R1 (hp w)) (N := 27) foll rfl rfl ?_
  have H50_ := Holds.drew_ H44_
  have hq51_ := And.intro (Holds.rd H50_ 3 rfl) ((Holds.ro_at H50_ 4 rfl))
  refine A_tk 0 (v := (vP (some ⟨b29_, 2, none⟩))) rfl (by kernel_rfl) (fun w hS => by kernel_rfl) hq51_ ?_
  refine A_tk 2 (v := (vP (some ⟨b2_, 2, none⟩))) rfl (by kernel_rfl) (fun w hS => by kernel_rfl) hq51_ ?_
  refine A_tk 3 (v := v) rfl (by kernel_rfl) (fun w hS => x_load1 rfl Try.underlying32 rfl (hS.1 2 v rfl)) hq51_ ?_
  refine A_tk 4 (v := (vI .i64 (k : Int))) rfl (by kernel_rfl) (fun w hS => x_move rfl) hq51_ ?_
  obtain ⟨x52_, hx53_, hm54_⟩ := elem_at N k (by omega)
  have hp55_ := hg1 x52_ hm54_
  have hp56_ := hb2 x52_ hm54_
  have hg57_ := hg1 x52_ hm54_
  refine A_tk 5 (v := (vP (some ⟨(sb v), so v + (k * 4 + 0), none⟩))) rfl (by kernel_rfl) (fun w hS => x_idxRS (v := v) rfl (RS.mono h1 hsR1) rfl Try.underlying32 z68 (by omega) (by omega) (by omega : _ = k) rfl) hq51_ ?_
  refine A_tk 6 (v := (vP (some ⟨(sb v), so v + (k * 4 + 0), none⟩))) rfl (by kernel_rfl) (fun w hS => by kernel_rfl) hq51_ ?_
  refine A_tk 7 (v := (vI .i64 x52_.ver)) rfl (by kernel_rfl) (fun w hS => x_load1 rfl Try.underlying2 rfl (RC.cell (RS.rc (RS.mono h1 hsR1)) hS.2 (j := k * 4 + 0) (u := (vI .i64 x52_.ver)) (fm_cell GN.len hx53_ (i := 0) rfl))) hq51_ ?_
  refine A_tk 8 (v := (vP (some ⟨b2_, 2, none⟩))) rfl (by kernel_rfl) (fun w hS => by kernel_rfl) hq51_ ?_
  refine A_tk 9 (v := v) rfl (by kernel_rfl) (fun w hS => x_load1 rfl Try.underlying32 rfl (hS.1 2 v rfl)) hq51_ ?_
  refine A_tk 10 (v := (vI .i64 (k : Int))) rfl (by kernel_rfl) (fun w hS => x_move rfl) hq51_ ?_
  refine A_tk 11 (v := (vP (some ⟨(sb v), so v + (k * 4 + 0), none⟩))) rfl (by kernel_rfl) (fun w hS => x_idxRS (v := v) rfl (RS.mono h1 hsR1) rfl Try.underlying32 z68 (by omega) (by omega) (by omega : _ = k) rfl) hq51_ ?_
  refine A_tk 12 (v := (vP (some ⟨(sb v), so v + (k * 4 + 1), none⟩))) rfl (by kernel_rfl) (fun w hS => by kernel_rfl) hq51_ ?_
  refine A_tk 13 (v := (vA #[(vI .i64 x52_.created_Main), (vI .i64 x52_.created_Sub)])) rfl (by kernel_rfl) (fun w hS => x_loadN (vs := [(vI .i64 x52_.created_Main), (vI .i64 x52_.created_Sub)]) rfl Try.underlying31 rfl z31 rfl (RC.cells (RS.rc (RS.mono h1 hsR1)) hS.2 (k * 4 + 1) (fm_cells GN.len hx53_ (i := 1) rfl))) hq51_ ?_
  refine A_tk 15 (v := (vP (some ⟨b2_, 2, none⟩))) rfl (by kernel_rfl) (fun w hS => by kernel_rfl) hq51_ ?_
  refine A_tk 16 (v := v) rfl (by kernel_rfl) (fun w hS => x_load1 rfl Try.underlying32 rfl (hS.1 2 v rfl)) hq51_ ?_
  refine A_tk 17 (v := (vI .i64 (k : Int))) rfl (by kernel_rfl) (fun w hS => x_move rfl) hq51_ ?_
  refine A_tk 18 (v := (vP (some ⟨(sb v), so v + (k * 4 + 0), none⟩))) rfl (by kernel_rfl) (fun w hS => x_idxRS (v := v) rfl (RS.mono h1 hsR1) rfl Try.underlying32 z68 (by omega) (by omega) (by omega : _ = k) rfl) hq51_ ?_
  refine A_tk 19 (v := (vP (some ⟨(sb v), so v + (k * 4 + 3), none⟩))) rfl (by kernel_rfl) (fun w hS => by kernel_rfl) hq51_ ?_
  refine A_tk 20 (v := x52_.revs) rfl (by kernel_rfl) (fun w hS => x_load1 rfl Try.underlying41 rfl (RC.cell (RS.rc (RS.mono h1 hsR1)) hS.2 (j := k * 4 + 3) (u := x52_.revs) (fm_cell GN.len hx53_ (i := 3) rfl))) hq51_ ?_
  refine A_ready (i := 1) (rs := [14]) (by kernel_rfl) ?_
  refine AllR.cons ?_ ?_
  ·skip
   refine A_op (ls' := #[true, true, true, true, true, true, true, true, true, true, true, true, true, true, false, true, true, true, true, true, true, false, false, false, false, false, false]) rfl (by kernel_rfl) (T_val (v := gv) (x_load1 rfl Try.underlying59 rfl ((Holds.rd H50_ 1 rfl) 2 gv rfl)) ?_)
   refine ⟨⟨Holds.rd H50_ 3 rfl, (Holds.ro_at H50_ 4 rfl)⟩, ?_⟩
   refine A_ready (i := 14) (rs := []) (by kernel_rfl) ?_
   refine AllR.cons ?_ AllR.nil
   refine A_op (ls' := #[true, true, true, true, true, true, true, true, true, true, true, true, true, true, true, true, true, true, true, true, true, false, false, false, false, false, false]) rfl (by kernel_rfl) (T_callW (al := [(vA #[(vI .i64 x52_.created_Main), (vI .i64 x52_.created_Sub)])]) rfl rfl cb33 (Calls.into (n := 8) (al := [(vA #[(vI .i64 x52_.created_Main), (vI .i64 x52_.created_Sub)])]) Try.func33 rfl Try.ntmps33 rfl rfl ?_))
   refine C_seq (fun K58_ hK58_ => C_reg ?_)
   refine S_list (T_box (v := (vA #[(vI .i64 x52_.created_Main), (vI .i64 x52_.created_Sub)])) rfl H50_ ?_)
   intro b59_ w60_ S62_ H61_
   have S63_ := Same.trans (Same.trans S45_ (Same.drew _)) S62_
   refine S_list (T_alloc z58 H61_ ?_)
   intro b64_ w65_ S67_ H66_
   have S68_ := Same.trans S63_ S67_
   refine wpList_nil (X_then (hK58_ _ _ ?_))
   clear hK58_
   refine C_seq (fun K69_ hK69_ => C_reg ?_)
   refine sv (v := (vP (some ⟨b59_, 0, none⟩))) (by kernel_rfl) ?_
   refine sv (v := (vI .i64 x52_.created_Main)) (x_load1 rfl Try.underlying2 rfl ((Holds.rd H66_ 1 rfl) 0 (vI .i64 x52_.created_Main) rfl)) ?_
   refine sv (v := (vP (some ⟨b59_, 1, none⟩))) (by kernel_rfl) ?_
   refine sv (v := (vI .i64 x52_.created_Sub)) (x_load1 rfl Try.underlying2 rfl ((Holds.rd H66_ 1 rfl) 1 (vI .i64 x52_.created_Sub) rfl)) ?_
   refine sv (v := (vA #[(vI .i64 x52_.created_Main), (vI .i64 x52_.created_Sub)])) (by kernel_rfl) ?_
   refine S_list0 (T_storeN (vs := [(vI .i64 x52_.created_Main), (vI .i64 x52_.created_Sub)]) rfl rfl z58 rfl (by simp [Value.oneCell']) H66_ 0 rfl (Nat.le_of_ble_eq_true (by rfl)) ?_)
   intro w70_ S72_ H71_
   have S73_ := Same.trans S68_ S72_
   refine wpList_nil (X_then (hK69_ _ _ ?_))
   clear hK69_
   refine C_ret ?_
   refine R_any (v := (vA #[(vI .i64 x52_.created_Main), (vI .i64 x52_.created_Sub)])) (run_results1 rfl ⟨_, rfl, load_resN Try.underlying58 rfl z58 rfl (vs := [(vI .i64 x52_.created_Main), (vI .i64 x52_.created_Sub)]) (Holds.cl_cells H71_ 0 rfl 0 rfl)⟩) ⟨_, rfl, ?_⟩
   refine ⟨⟨Holds.rd H71_ 5 rfl, (Holds.ro_at H71_ 6 rfl)⟩, ?_⟩
   refine A_ready (i := 21) (rs := []) (by kernel_rfl) ?_
   refine AllR.cons ?_ AllR.nil
   have H75_ := ((Holds.bring H71_ 6 rfl) :)
   refine A_op (ls' := #[true, true, true, true, true, true, true, true, true, true, true, true, true, true, true, true, true, true, true, true, true, true, false, false, false, false, false]) rfl (by kernel_rfl) (T_call (al := [x52_.revs]) (pre := []) rfl rfl cb34 (kRevsIn R1 x52_.revs x52_.l (RS.mono hg57_ hsR1) (by first | assumption | omega)) H75_ ?_)
   rintro v74_ p79_ w76_ ⟨_, rfl, rfl⟩ S78_ H77_
   have S80_ := Same.trans S73_ S78_
   obtain ⟨-, a81_, cp82_, rfl, hle83_⟩ := Holds.sl_len H77_ 1 rfl
   refine ⟨⟨Holds.rd H77_ 7 rfl, (Holds.ro_at H77_ 0 rfl)⟩, ?_⟩
   have hq84_ := And.intro (Holds.rd H77_ 7 rfl) ((Holds.ro_at H77_ 0 rfl))
   refine A_tk 22 (v := (vA #[(vI .i64 x52_.ver), (vI .i64 x52_.created_Main), (vI .i64 x52_.created_Sub), (vS a81_ (List.length x52_.l) cp82_)])) rfl (by kernel_rfl) (fun w hS => by kernel_rfl) hq84_ ?_
   refine A_ready (i := 23) (rs := []) (by kernel_rfl) ?_
   refine AllR.cons ?_ AllR.nil
   refine A_op (ls' := #[true, true, true, true, true, true, true, true, true, true, true, true, true, true, true, true, true, true, true, true, true, true, true, true, false, false, false]) rfl (by kernel_rfl) (T_new (obj := .cells #[(vI .i64 x52_.ver), (vI .i64 x52_.created_Main), (vI .i64 x52_.created_Sub), (vS a81_ (List.length x52_.l) cp82_)] 83) (f := fun b__ => .slice (some ⟨b__, 0, none⟩) 1 1) (A := fun b__ => cl b__ 83 [(vI .i64 x52_.ver), (vI .i64 x52_.created_Main), (vI .i64 x52_.created_Sub), (vS a81_ (List.length x52_.l) cp82_)]) (by kernel_rfl) (fun l h => h.alloc _ _) H77_ ?_)
   intro b85_ w86_ S88_ H87_
   have S89_ := Same.trans S80_ S88_
   refine ⟨⟨Holds.rd H87_ 8 rfl, (Holds.ro_at H87_ 1 rfl)⟩, ?_⟩
   refine A_ready (i := 24) (rs := []) (by kernel_rfl) ?_
   refine AllR.cons ?_ AllR.nil
   refine A_op (ls' := #[true, true, true, true, true, true, true, true, true, true, true, true, true, true, true, true, true, true, true, true, true, true, true, true, true, false, false]) rfl (by kernel_rfl) (T_append rfl rfl Try.underlying59 z83 rfl (by decide) H87_ 5 rfl (Holds.cl_src H87_ 0 rfl Try.underlying59 (by simp [Value.oneCell']) rfl) (by have hz_ := congrArg List.length hm; rw [List.length_map, List.length_map, List.length_take] at hz_; omega) ?_)
   intro v90_ w91_ S93_ H92_
   have S94_ := Same.trans S89_ S93_
   refine ⟨⟨Holds.rd H92_ 8 rfl, (Holds.ro_at H92_ 1 rfl)⟩, ?_⟩
   have hq95_ := And.intro (Holds.rd H92_ 8 rfl) ((Holds.ro_at H92_ 1 rfl))
   refine A_tk 25 (v := (vP (some ⟨b29_, 2, none⟩))) rfl (by kernel_rfl) (fun w hS => by kernel_rfl) hq95_ ?_
   refine A_ready (i := 26) (rs := []) (by kernel_rfl) ?_
   refine AllR.cons ?_ AllR.nil
   refine A_op0 (ls' := #[true, true, true, true, true, true, true, true, true, true, true, true, true, true, true, true, true, true, true, true, true, true, true, true, true, true, true]) rfl (by kernel_rfl) (T_store1 (v := v90_) rfl rfl z59 (Holds.sl_one H92_ 5 rfl) H92_ 6 rfl (Nat.le_of_ble_eq_true (by rfl)) ?_)
   intro w96_ S98_ H97_
   have S99_ := Same.trans S94_ S98_
   refine ⟨⟨Holds.rd H97_ 8 rfl, (Holds.ro_at H97_ 1 rfl)⟩, ?_⟩
   refine A_done (by kernel_rfl) ?_
   refine (X_blkN (X_then (hK49_ _ _ ?_)))
   clear hK49_
   refine C_reg ?_
   refine sv (v := (vI .i64 (k : Int))) (x_move rfl) ?_
   refine sv (v := (vI .i64 ((k : Int) + 1))) (x_bin rfl rfl (ib_add (IntWalk.i64_in _ (by omega)))) ?_
   refine sv (v := (vI .i64 ((k : Int) + 1))) (x_assign rfl) ?_
   refine wpList_nil (X_then ?_)
   have H100_ := ((Holds.bring (Holds.bring H97_ 2 rfl) 2 rfl) :)
   obtain ⟨R101_, hs102_, ⟨R103_, ha104_, hs105_⟩, H106_⟩ := Holds.gift H100_
   have hz_R_R101_ := Sub.trans' hsR1 hs102_
   have hr107_ : RS R101_ 2 (vS a81_ (List.length x52_.l) cp82_) (List.length x52_.l) (x52_.l.flatMap RV.cells) := (sl_RS ha104_ (Sub.rfl' _)).mono hs105_
   have H108_ := Holds.resl H106_ 4 rfl (by simp [GN.cells] : (N'.flatMap GN.cells) ++ [(vI .i64 x52_.ver), (vI .i64 x52_.created_Main), (vI .i64 x52_.created_Sub), (vS a81_ (List.length x52_.l) cp82_)] = (N' ++ [(⟨x52_.ver, x52_.created_Main, x52_.created_Sub, (vS a81_ (List.length x52_.l) cp82_), x52_.l⟩ : GN)]).flatMap GN.cells) (by simp : (List.length N') + 1 = (List.length (N' ++ [(⟨x52_.ver, x52_.created_Main, x52_.created_Sub, (vS a81_ (List.length x52_.l) cp82_), x52_.l⟩ : GN)])))
   have H109_ : Holds w96_ (sl 83 4 v90_ (List.length (N' ++ [(⟨x52_.ver, x52_.created_Main, x52_.created_Sub, (vS a81_ (List.length x52_.l) cp82_), x52_.l⟩ : GN)])) ((N' ++ [(⟨x52_.ver, x52_.created_Main, x52_.created_Sub, (vS a81_ (List.length x52_.l) cp82_), x52_.l⟩ : GN)]).flatMap GN.cells) :: cl b29_ 61 [(vI .i64 m), (vI .i64 n), v90_] :: cl b7_ 61 [(vI .i64 0), (vI .i64 0), (vS none 0 0)] :: cl b2_ 34 [(vI .i64 m), (vI .i64 n), v] :: ro R101_ :: F) := (Holds.pkF H108_ [4, 4, 4, 4, 0] 3 :)
   exact ⟨⟨R101_, k + 1, v90_, (N' ++ [(⟨x52_.ver, x52_.created_Main, x52_.created_Sub, (vS a81_ (List.length x52_.l) cp82_), x52_.l⟩ : GN)])⟩, ⟨_, congrArg (fun e => mkA 43 e []) (ch (ch (ch (ch rfl rfl) rfl) rfl) (congrArg (vI .i64) ((by first | rfl | omega | (simp; done) | (simp; omega)) : (k : Int) + 1 = ((k + 1 : Nat) : Int)))), H109_, S99_, (hz_R_R101_), (by first | assumption | omega | exact rfl), (map_m_snoc hm hx53_ rfl), (all_snoc (fun x hx => (hN x hx).mono hs102_) (show RS _ 2 _ _ _ from hr107_))⟩, by first | omega | (dsimp only; omega) | (simp; omega)⟩
  refine AllR.cons ?_ AllR.nil
  refine A_op (ls' := #[true, false, true, true, true, true, true, true, true, true, true, true, true, true, true, true, true, true, true, true, true, false, false, false, false, false, false]) rfl (by kernel_rfl) (T_callW (al := [(vA #[(vI .i64 x52_.created_Main), (vI .i64 x52_.created_Sub)])]) rfl rfl cb33 (Calls.into (n := 8) (al := [(vA #[(vI .i64 x52_.created_Main), (vI .i64 x52_.created_Sub)])]) Try.func33 rfl Try.ntmps33 rfl rfl ?_))
  refine C_seq (fun K110_ hK110_ => C_reg ?_)
  refine S_list (T_box (v := (vA #[(vI .i64 x52_.created_Main), (vI .i64 x52_.created_Sub)])) rfl H50_ ?_)
  intro b111_ w112_ S114_ H113_
  have S115_ := Same.trans (Same.trans S45_ (Same.drew _)) S114_
  refine S_list (T_alloc z58 H113_ ?_)
  intro b116_ w117_ S119_ H118_
  have S120_ := Same.trans S115_ S119_
  refine wpList_nil (X_then (hK110_ _ _ ?_))
  clear hK110_
  refine C_seq (fun K121_ hK121_ => C_reg ?_)
  refine sv (v := (vP (some ⟨b111_, 0, none⟩))) (by kernel_rfl) ?_
  refine sv (v := (vI .i64 x52_.created_Main)) (x_load1 rfl Try.underlying2 rfl ((Holds.rd H118_ 1 rfl) 0 (vI .i64 x52_.created_Main) rfl)) ?_
  refine sv (v := (vP (some ⟨b111_, 1, none⟩))) (by kernel_rfl) ?_
  refine sv (v := (vI .i64 x52_.created_Sub)) (x_load1 rfl Try.underlying2 rfl ((Holds.rd H118_ 1 rfl) 1 (vI .i64 x52_.created_Sub) rfl)) ?_
  refine sv (v := (vA #[(vI .i64 x52_.created_Main), (vI .i64 x52_.created_Sub)])) (by kernel_rfl) ?_
  refine S_list0 (T_storeN (vs := [(vI .i64 x52_.created_Main), (vI .i64 x52_.created_Sub)]) rfl rfl z58 rfl (by simp [Value.oneCell']) H118_ 0 rfl (Nat.le_of_ble_eq_true (by rfl)) ?_)
  intro w122_ S124_ H123_
  have S125_ := Same.trans S120_ S124_
  refine wpList_nil (X_then (hK121_ _ _ ?_))
  clear hK121_
  refine C_ret ?_
  refine R_any (v := (vA #[(vI .i64 x52_.created_Main), (vI .i64 x52_.created_Sub)])) (run_results1 rfl ⟨_, rfl, load_resN Try.underlying58 rfl z58 rfl (vs := [(vI .i64 x52_.created_Main), (vI .i64 x52_.created_Sub)]) (Holds.cl_cells H123_ 0 rfl 0 rfl)⟩) ⟨_, rfl, ?_⟩
  refine ⟨⟨Holds.rd H123_ 5 rfl, (Holds.ro_at H123_ 6 rfl)⟩, ?_⟩
  refine A_ready (i := 1) (rs := [21]) (by kernel_rfl) ?_
  refine AllR.cons ?_ ?_
  ·skip
   refine A_op (ls' := #[true, true, true, true, true, true, true, true, true, true, true, true, true, true, true, true, true, true, true, true, true, false, false, false, false, false, false]) rfl (by kernel_rfl) (T_val (v := gv) (x_load1 rfl Try.underlying59 rfl ((Holds.rd H123_ 3 rfl) 2 gv rfl)) ?_)
   refine ⟨⟨Holds.rd H123_ 5 rfl, (Holds.ro_at H123_ 6 rfl)⟩, ?_⟩
   refine A_ready (i := 21) (rs := []) (by kernel_rfl) ?_
   refine AllR.cons ?_ AllR.nil
   have H127_ := ((Holds.bring H123_ 6 rfl) :)
   refine A_op (ls' := #[true, true, true, true, true, true, true, true, true, true, true, true, true, true, true, true, true, true, true, true, true, true, false, false, false, false, false]) rfl (by kernel_rfl) (T_call (al := [x52_.revs]) (pre := []) rfl rfl cb34 (kRevsIn R1 x52_.revs x52_.l (RS.mono hg57_ hsR1) (by first | assumption | omega)) H127_ ?_)
   rintro v126_ p131_ w128_ ⟨_, rfl, rfl⟩ S130_ H129_
   have S132_ := Same.trans S125_ S130_
   obtain ⟨-, a133_, cp134_, rfl, hle135_⟩ := Holds.sl_len H129_ 1 rfl
   refine ⟨⟨Holds.rd H129_ 7 rfl, (Holds.ro_at H129_ 0 rfl)⟩, ?_⟩
   have hq136_ := And.intro (Holds.rd H129_ 7 rfl) ((Holds.ro_at H129_ 0 rfl))
   refine A_tk 22 (v := (vA #[(vI .i64 x52_.ver), (vI .i64 x52_.created_Main), (vI .i64 x52_.created_Sub), (vS a133_ (List.length x52_.l) cp134_)])) rfl (by kernel_rfl) (fun w hS => by kernel_rfl) hq136_ ?_
   refine A_ready (i := 23) (rs := []) (by kernel_rfl) ?_
   refine AllR.cons ?_ AllR.nil
   refine A_op (ls' := #[true, true, true, true, true, true, true, true, true, true, true, true, true, true, true, true, true, true, true, true, true, true, true, true, false, false, false]) rfl (by kernel_rfl) (T_new (obj := .cells #[(vI .i64 x52_.ver), (vI .i64 x52_.created_Main), (vI .i64 x52_.created_Sub), (vS a133_ (List.length x52_.l) cp134_)] 83) (f := fun b__ => .slice (some ⟨b__, 0, none⟩) 1 1) (A := fun b__ => cl b__ 83 [(vI .i64 x52_.ver), (vI .i64 x52_.created_Main), (vI .i64 x52_.created_Sub), (vS a133_ (List.length x52_.l) cp134_)]) (by kernel_rfl) (fun l h => h.alloc _ _) H129_ ?_)
   intro b137_ w138_ S140_ H139_
   have S141_ := Same.trans S132_ S140_
   refine ⟨⟨Holds.rd H139_ 8 rfl, (Holds.ro_at H139_ 1 rfl)⟩, ?_⟩
   refine A_ready (i := 24) (rs := []) (by kernel_rfl) ?_
   refine AllR.cons ?_ AllR.nil
   refine A_op (ls' := #[true, true, true, true, true, true, true, true, true, true, true, true, true, true, true, true, true, true, true, true, true, true, true, true, true, false, false]) rfl (by kernel_rfl) (T_append rfl rfl Try.underlying59 z83 rfl (by decide) H139_ 5 rfl (Holds.cl_src H139_ 0 rfl Try.underlying59 (by simp [Value.oneCell']) rfl) (by have hz_ := congrArg List.length hm; rw [List.length_map, List.length_map, List.length_take] at hz_; omega) ?_)
   intro v142_ w143_ S145_ H144_
   have S146_ := Same.trans S141_ S145_
   refine ⟨⟨Holds.rd H144_ 8 rfl, (Holds.ro_at H144_ 1 rfl)⟩, ?_⟩
   have hq147_ := And.intro (Holds.rd H144_ 8 rfl) ((Holds.ro_at H144_ 1 rfl))
   refine A_tk 25 (v := (vP (some ⟨b29_, 2, none⟩))) rfl (by kernel_rfl) (fun w hS => by kernel_rfl) hq147_ ?_
   refine A_ready (i := 26) (rs := []) (by kernel_rfl) ?_
   refine AllR.cons ?_ AllR.nil
   refine A_op0 (ls' := #[true, true, true, true, true, true, true, true, true, true, true, true, true, true, true, true, true, true, true, true, true, true, true, true, true, true, true]) rfl (by kernel_rfl) (T_store1 (v := v142_) rfl rfl z59 (Holds.sl_one H144_ 5 rfl) H144_ 6 rfl (Nat.le_of_ble_eq_true (by rfl)) ?_)
   intro w148_ S150_ H149_
   have S151_ := Same.trans S146_ S150_
   refine ⟨⟨Holds.rd H149_ 8 rfl, (Holds.ro_at H149_ 1 rfl)⟩, ?_⟩
   refine A_done (by kernel_rfl) ?_
   refine (X_blkN (X_then (hK49_ _ _ ?_)))
   clear hK49_
   refine C_reg ?_
   refine sv (v := (vI .i64 (k : Int))) (x_move rfl) ?_
   refine sv (v := (vI .i64 ((k : Int) + 1))) (x_bin rfl rfl (ib_add (IntWalk.i64_in _ (by omega)))) ?_
   refine sv (v := (vI .i64 ((k : Int) + 1))) (x_assign rfl) ?_
   refine wpList_nil (X_then ?_)
   have H152_ := ((Holds.bring (Holds.bring H149_ 2 rfl) 2 rfl) :)
   obtain ⟨R153_, hs154_, ⟨R155_, ha156_, hs157_⟩, H158_⟩ := Holds.gift H152_
   have hz_R_R153_ := Sub.trans' hsR1 hs154_
   have hr159_ : RS R153_ 2 (vS a133_ (List.length x52_.l) cp134_) (List.length x52_.l) (x52_.l.flatMap RV.cells) := (sl_RS ha156_ (Sub.rfl' _)).mono hs157_
   have H160_ := Holds.resl H158_ 4 rfl (by simp [GN.cells] : (N'.flatMap GN.cells) ++ [(vI .i64 x52_.ver), (vI .i64 x52_.created_Main), (vI .i64 x52_.created_Sub), (vS a133_ (List.length x52_.l) cp134_)] = (N' ++ [(⟨x52_.ver, x52_.created_Main, x52_.created_Sub, (vS a133_ (List.length x52_.l) cp134_), x52_.l⟩ : GN)]).flatMap GN.cells) (by simp : (List.length N') + 1 = (List.length (N' ++ [(⟨x52_.ver, x52_.created_Main, x52_.created_Sub, (vS a133_ (List.length x52_.l) cp134_), x52_.l⟩ : GN)])))
   have H161_ : Holds w148_ (sl 83 4 v142_ (List.length (N' ++ [(⟨x52_.ver, x52_.created_Main, x52_.created_Sub, (vS a133_ (List.length x52_.l) cp134_), x52_.l⟩ : GN)])) ((N' ++ [(⟨x52_.ver, x52_.created_Main, x52_.created_Sub, (vS a133_ (List.length x52_.l) cp134_), x52_.l⟩ : GN)]).flatMap GN.cells) :: cl b29_ 61 [(vI .i64 m), (vI .i64 n), v142_] :: cl b7_ 61 [(vI .i64 0), (vI .i64 0), (vS none 0 0)] :: cl b2_ 34 [(vI .i64 m), (vI .i64 n), v] :: ro R153_ :: F) := (Holds.pkF H160_ [4, 4, 4, 4, 0] 3 :)
   exact ⟨⟨R153_, k + 1, v142_, (N' ++ [(⟨x52_.ver, x52_.created_Main, x52_.created_Sub, (vS a133_ (List.length x52_.l) cp134_), x52_.l⟩ : GN)])⟩, ⟨_, congrArg (fun e => mkA 43 e []) (ch (ch (ch (ch rfl rfl) rfl) rfl) (congrArg (vI .i64) ((by first | rfl | omega | (simp; done) | (simp; omega)) : (k : Int) + 1 = ((k + 1 : Nat) : Int)))), H161_, S151_, (hz_R_R153_), (by first | assumption | omega | exact rfl), (map_m_snoc hm hx53_ rfl), (all_snoc (fun x hx => (hN x hx).mono hs154_) (show RS _ 2 _ _ _ from hr159_))⟩, by first | omega | (dsimp only; omega) | (simp; omega)⟩
  refine AllR.cons ?_ AllR.nil
  have H163_ := ((Holds.bring H123_ 6 rfl) :)
  refine A_op (ls' := #[true, false, true, true, true, true, true, true, true, true, true, true, true, true, true, true, true, true, true, true, true, true, false, false, false, false, false]) rfl (by kernel_rfl) (T_call (al := [x52_.revs]) (pre := []) rfl rfl cb34 (kRevsIn R1 x52_.revs x52_.l (RS.mono hg57_ hsR1) (by first | assumption | omega)) H163_ ?_)
  rintro v162_ p167_ w164_ ⟨_, rfl, rfl⟩ S166_ H165_
  have S168_ := Same.trans S125_ S166_
  obtain ⟨-, a169_, cp170_, rfl, hle171_⟩ := Holds.sl_len H165_ 1 rfl
  refine ⟨⟨Holds.rd H165_ 7 rfl, (Holds.ro_at H165_ 0 rfl)⟩, ?_⟩
  have hq172_ := And.intro (Holds.rd H165_ 7 rfl) ((Holds.ro_at H165_ 0 rfl))
  refine A_tk 22 (v := (vA #[(vI .i64 x52_.ver), (vI .i64 x52_.created_Main), (vI .i64 x52_.created_Sub), (vS a169_ (List.length x52_.l) cp170_)])) rfl (by kernel_rfl) (fun w hS => by kernel_rfl) hq172_ ?_
  refine A_ready (i := 1) (rs := [23]) (by kernel_rfl) ?_
  refine AllR.cons ?_ ?_
  ·skip
   refine A_op (ls' := #[true, true, true, true, true, true, true, true, true, true, true, true, true, true, true, true, true, true, true, true, true, true, true, false, false, false, false]) rfl (by kernel_rfl) (T_val (v := gv) (x_load1 rfl Try.underlying59 rfl ((Holds.rd H165_ 5 rfl) 2 gv rfl)) ?_)
   refine ⟨⟨Holds.rd H165_ 7 rfl, (Holds.ro_at H165_ 0 rfl)⟩, ?_⟩
   refine A_ready (i := 23) (rs := []) (by kernel_rfl) ?_
   refine AllR.cons ?_ AllR.nil
   refine A_op (ls' := #[true, true, true, true, true, true, true, true, true, true, true, true, true, true, true, true, true, true, true, true, true, true, true, true, false, false, false]) rfl (by kernel_rfl) (T_new (obj := .cells #[(vI .i64 x52_.ver), (vI .i64 x52_.created_Main), (vI .i64 x52_.created_Sub), (vS a169_ (List.length x52_.l) cp170_)] 83) (f := fun b__ => .slice (some ⟨b__, 0, none⟩) 1 1) (A := fun b__ => cl b__ 83 [(vI .i64 x52_.ver), (vI .i64 x52_.created_Main), (vI .i64 x52_.created_Sub), (vS a169_ (List.length x52_.l) cp170_)]) (by kernel_rfl) (fun l h => h.alloc _ _) H165_ ?_)
   intro b173_ w174_ S176_ H175_
   have S177_ := Same.trans S168_ S176_
   refine ⟨⟨Holds.rd H175_ 8 rfl, (Holds.ro_at H175_ 1 rfl)⟩, ?_⟩
   refine A_ready (i := 24) (rs := []) (by kernel_rfl) ?_
   refine AllR.cons ?_ AllR.nil
   refine A_op (ls' := #[true, true, true, true, true, true, true, true, true, true, true, true, true, true, true, true, true, true, true, true, true, true, true, true, true, false, false]) rfl (by kernel_rfl) (T_append rfl rfl Try.underlying59 z83 rfl (by decide) H175_ 5 rfl (Holds.cl_src H175_ 0 rfl Try.underlying59 (by simp [Value.oneCell']) rfl) (by have hz_ := congrArg List.length hm; rw [List.length_map, List.length_map, List.length_take] at hz_; omega) ?_)
   intro v178_ w179_ S181_ H180_
   have S182_ := Same.trans S177_ S181_
   refine ⟨⟨Holds.rd H180_ 8 rfl, (Holds.ro_at H180_ 1 rfl)⟩, ?_⟩
   have hq183_ := And.intro (Holds.rd H180_ 8 rfl) ((Holds.ro_at H180_ 1 rfl))
   refine A_tk 25 (v := (vP (some ⟨b29_, 2, none⟩))) rfl (by kernel_rfl) (fun w hS => by kernel_rfl) hq183_ ?_
   refine A_ready (i := 26) (rs := []) (by kernel_rfl) ?_
   refine AllR.cons ?_ AllR.nil
   refine A_op0 (ls' := #[true, true, true, true, true, true, true, true, true, true, true, true, true, true, true, true, true, true, true, true, true, true, true, true, true, true, true]) rfl (by kernel_rfl) (T_store1 (v := v178_) rfl rfl z59 (Holds.sl_one H180_ 5 rfl) H180_ 6 rfl (Nat.le_of_ble_eq_true (by rfl)) ?_)
   intro w184_ S186_ H185_
   have S187_ := Same.trans S182_ S186_
   refine ⟨⟨Holds.rd H185_ 8 rfl, (Holds.ro_at H185_ 1 rfl)⟩, ?_⟩
   refine A_done (by kernel_rfl) ?_
   refine (X_blkN (X_then (hK49_ _ _ ?_)))
   clear hK49_
   refine C_reg ?_
   refine sv (v := (vI .i64 (k : Int))) (x_move rfl) ?_
   refine sv (v := (vI .i64 ((k : Int) + 1))) (x_bin rfl rfl (ib_add (IntWalk.i64_in _ (by omega)))) ?_
   refine sv (v := (vI .i64 ((k : Int) + 1))) (x_assign rfl) ?_
   refine wpList_nil (X_then ?_)
   have H188_ := ((Holds.bring (Holds.bring H185_ 2 rfl) 2 rfl) :)
   obtain ⟨R189_, hs190_, ⟨R191_, ha192_, hs193_⟩, H194_⟩ := Holds.gift H188_
   have hz_R_R189_ := Sub.trans' hsR1 hs190_
   have hr195_ : RS R189_ 2 (vS a169_ (List.length x52_.l) cp170_) (List.length x52_.l) (x52_.l.flatMap RV.cells) := (sl_RS ha192_ (Sub.rfl' _)).mono hs193_
   have H196_ := Holds.resl H194_ 4 rfl (by simp [GN.cells] : (N'.flatMap GN.cells) ++ [(vI .i64 x52_.ver), (vI .i64 x52_.created_Main), (vI .i64 x52_.created_Sub), (vS a169_ (List.length x52_.l) cp170_)] = (N' ++ [(⟨x52_.ver, x52_.created_Main, x52_.created_Sub, (vS a169_ (List.length x52_.l) cp170_), x52_.l⟩ : GN)]).flatMap GN.cells) (by simp : (List.length N') + 1 = (List.length (N' ++ [(⟨x52_.ver, x52_.created_Main, x52_.created_Sub, (vS a169_ (List.length x52_.l) cp170_), x52_.l⟩ : GN)])))
   have H197_ : Holds w184_ (sl 83 4 v178_ (List.length (N' ++ [(⟨x52_.ver, x52_.created_Main, x52_.created_Sub, (vS a169_ (List.length x52_.l) cp170_), x52_.l⟩ : GN)])) ((N' ++ [(⟨x52_.ver, x52_.created_Main, x52_.created_Sub, (vS a169_ (List.length x52_.l) cp170_), x52_.l⟩ : GN)]).flatMap GN.cells) :: cl b29_ 61 [(vI .i64 m), (vI .i64 n), v178_] :: cl b7_ 61 [(vI .i64 0), (vI .i64 0), (vS none 0 0)] :: cl b2_ 34 [(vI .i64 m), (vI .i64 n), v] :: ro R189_ :: F) := (Holds.pkF H196_ [4, 4, 4, 4, 0] 3 :)
   exact ⟨⟨R189_, k + 1, v178_, (N' ++ [(⟨x52_.ver, x52_.created_Main, x52_.created_Sub, (vS a169_ (List.length x52_.l) cp170_), x52_.l⟩ : GN)])⟩, ⟨_, congrArg (fun e => mkA 43 e []) (ch (ch (ch (ch rfl rfl) rfl) rfl) (congrArg (vI .i64) ((by first | rfl | omega | (simp; done) | (simp; omega)) : (k : Int) + 1 = ((k + 1 : Nat) : Int)))), H197_, S187_, (hz_R_R189_), (by first | assumption | omega | exact rfl), (map_m_snoc hm hx53_ rfl), (all_snoc (fun x hx => (hN x hx).mono hs190_) (show RS _ 2 _ _ _ from hr195_))⟩, by first | omega | (dsimp only; omega) | (simp; omega)⟩
  refine AllR.cons ?_ AllR.nil
  refine A_op (ls' := #[true, false, true, true, true, true, true, true, true, true, true, true, true, true, true, true, true, true, true, true, true, true, true, true, false, false, false]) rfl (by kernel_rfl) (T_new (obj := .cells #[(vI .i64 x52_.ver), (vI .i64 x52_.created_Main), (vI .i64 x52_.created_Sub), (vS a169_ (List.length x52_.l) cp170_)] 83) (f := fun b__ => .slice (some ⟨b__, 0, none⟩) 1 1) (A := fun b__ => cl b__ 83 [(vI .i64 x52_.ver), (vI .i64 x52_.created_Main), (vI .i64 x52_.created_Sub), (vS a169_ (List.length x52_.l) cp170_)]) (by kernel_rfl) (fun l h => h.alloc _ _) H165_ ?_)
  intro b198_ w199_ S201_ H200_
  have S202_ := Same.trans S168_ S201_
  refine ⟨⟨Holds.rd H200_ 8 rfl, (Holds.ro_at H200_ 1 rfl)⟩, ?_⟩
  refine A_ready (i := 1) (rs := []) (by kernel_rfl) ?_
  refine AllR.cons ?_ AllR.nil
  refine A_op (ls' := #[true, true, true, true, true, true, true, true, true, true, true, true, true, true, true, true, true, true, true, true, true, true, true, true, false, false, false]) rfl (by kernel_rfl) (T_val (v := gv) (x_load1 rfl Try.underlying59 rfl ((Holds.rd H200_ 6 rfl) 2 gv rfl)) ?_)
  refine ⟨⟨Holds.rd H200_ 8 rfl, (Holds.ro_at H200_ 1 rfl)⟩, ?_⟩
  refine A_ready (i := 24) (rs := []) (by kernel_rfl) ?_
  refine AllR.cons ?_ AllR.nil
  refine A_op (ls' := #[true, true, true, true, true, true, true, true, true, true, true, true, true, true, true, true, true, true, true, true, true, true, true, true, true, false, false]) rfl (by kernel_rfl) (T_append rfl rfl Try.underlying59 z83 rfl (by decide) H200_ 5 rfl (Holds.cl_src H200_ 0 rfl Try.underlying59 (by simp [Value.oneCell']) rfl) (by have hz_ := congrArg List.length hm; rw [List.length_map, List.length_map, List.length_take] at hz_; omega) ?_)
  intro v203_ w204_ S206_ H205_
  have S207_ := Same.trans S202_ S206_
  refine ⟨⟨Holds.rd H205_ 8 rfl, (Holds.ro_at H205_ 1 rfl)⟩, ?_⟩
  have hq208_ := And.intro (Holds.rd H205_ 8 rfl) ((Holds.ro_at H205_ 1 rfl))
  refine A_tk 25 (v := (vP (some ⟨b29_, 2, none⟩))) rfl (by kernel_rfl) (fun w hS => by kernel_rfl) hq208_ ?_
  refine A_ready (i := 26) (rs := []) (by kernel_rfl) ?_
  refine AllR.cons ?_ AllR.nil
  refine A_op0 (ls' := #[true, true, true, true, true, true, true, true, true, true, true, true, true, true, true, true, true, true, true, true, true, true, true, true, true, true, true]) rfl (by kernel_rfl) (T_store1 (v := v203_) rfl rfl z59 (Holds.sl_one H205_ 5 rfl) H205_ 6 rfl (Nat.le_of_ble_eq_true (by rfl)) ?_)
  intro w209_ S211_ H210_
  have S212_ := Same.trans S207_ S211_
  refine ⟨⟨Holds.rd H210_ 8 rfl, (Holds.ro_at H210_ 1 rfl)⟩, ?_⟩
  refine A_done (by kernel_rfl) ?_
  refine (X_blkN (X_then (hK49_ _ _ ?_)))
  clear hK49_
  refine C_reg ?_
  refine sv (v := (vI .i64 (k : Int))) (x_move rfl) ?_
  refine sv (v := (vI .i64 ((k : Int) + 1))) (x_bin rfl rfl (ib_add (IntWalk.i64_in _ (by omega)))) ?_
  refine sv (v := (vI .i64 ((k : Int) + 1))) (x_assign rfl) ?_
  refine wpList_nil (X_then ?_)
  have H213_ := ((Holds.bring (Holds.bring H210_ 2 rfl) 2 rfl) :)
  obtain ⟨R214_, hs215_, ⟨R216_, ha217_, hs218_⟩, H219_⟩ := Holds.gift H213_
  have hz_R_R214_ := Sub.trans' hsR1 hs215_
  have hr220_ : RS R214_ 2 (vS a169_ (List.length x52_.l) cp170_) (List.length x52_.l) (x52_.l.flatMap RV.cells) := (sl_RS ha217_ (Sub.rfl' _)).mono hs218_
  have H221_ := Holds.resl H219_ 4 rfl (by simp [GN.cells] : (N'.flatMap GN.cells) ++ [(vI .i64 x52_.ver), (vI .i64 x52_.created_Main), (vI .i64 x52_.created_Sub), (vS a169_ (List.length x52_.l) cp170_)] = (N' ++ [(⟨x52_.ver, x52_.created_Main, x52_.created_Sub, (vS a169_ (List.length x52_.l) cp170_), x52_.l⟩ : GN)]).flatMap GN.cells) (by simp : (List.length N') + 1 = (List.length (N' ++ [(⟨x52_.ver, x52_.created_Main, x52_.created_Sub, (vS a169_ (List.length x52_.l) cp170_), x52_.l⟩ : GN)])))
  have H222_ : Holds w209_ (sl 83 4 v203_ (List.length (N' ++ [(⟨x52_.ver, x52_.created_Main, x52_.created_Sub, (vS a169_ (List.length x52_.l) cp170_), x52_.l⟩ : GN)])) ((N' ++ [(⟨x52_.ver, x52_.created_Main, x52_.created_Sub, (vS a169_ (List.length x52_.l) cp170_), x52_.l⟩ : GN)]).flatMap GN.cells) :: cl b29_ 61 [(vI .i64 m), (vI .i64 n), v203_] :: cl b7_ 61 [(vI .i64 0), (vI .i64 0), (vS none 0 0)] :: cl b2_ 34 [(vI .i64 m), (vI .i64 n), v] :: ro R214_ :: F) := (Holds.pkF H221_ [4, 4, 4, 4, 0] 3 :)
  exact ⟨⟨R214_, k + 1, v203_, (N' ++ [(⟨x52_.ver, x52_.created_Main, x52_.created_Sub, (vS a169_ (List.length x52_.l) cp170_), x52_.l⟩ : GN)])⟩, ⟨_, congrArg (fun e => mkA 43 e []) (ch (ch (ch (ch rfl rfl) rfl) rfl) (congrArg (vI .i64) ((by first | rfl | omega | (simp; done) | (simp; omega)) : (k : Int) + 1 = ((k + 1 : Nat) : Int)))), H222_, S212_, (hz_R_R214_), (by first | assumption | omega | exact rfl), (map_m_snoc hm hx53_ rfl), (all_snoc (fun x hx => (hN x hx).mono hs215_) (show RS _ 2 _ _ _ from hr220_))⟩, by first | omega | (dsimp only; omega) | (simp; omega)⟩
 ·have c48_fp : ¬ ((k : Int) < ((List.length N) : Int)) := of_decide_eq_false c48_f
  refine C_exit (X_thenX (X_thenX (X_blkHit ?_)))
  refine (X_then (hK38_ _ _ ?_))
  clear hK38_
  refine C_seq (fun K223_ hK223_ => C_reg ?_)
  refine sv (v := (vA #[(vI .i64 m), (vI .i64 n), gv])) (x_loadN (vs := [(vI .i64 m), (vI .i64 n), gv]) rfl Try.underlying61 rfl z61 rfl (Rd.cells (Holds.rd H44_ 1 rfl) 0 rfl)) ?_
  refine S_list0 (T_storeN (vs := [(vI .i64 m), (vI .i64 n), gv]) rfl rfl z61 rfl (List.forall_mem_cons.2 ⟨rfl, (List.forall_mem_cons.2 ⟨rfl, (List.forall_mem_cons.2 ⟨(Holds.sl_one H44_ 0 rfl), (fun _ h__ => by cases h__)⟩)⟩)⟩) H44_ 2 rfl (Nat.le_of_ble_eq_true (by rfl)) ?_)
  intro w224_ S226_ H225_
  have S227_ := Same.trans S45_ S226_
  refine wpList_nil (X_then (hK223_ _ _ ?_))
  clear hK223_
  refine C_ret ?_
  refine R_any (v := (vA #[(vI .i64 m), (vI .i64 n), gv])) (run_results1 rfl ⟨_, rfl, load_resN Try.underlying61 rfl z61 rfl (vs := [(vI .i64 m), (vI .i64 n), gv]) (Holds.cl_cells H225_ 2 rfl 0 rfl)⟩) ?_
  have H228_ := ((Holds.bring H225_ 4 rfl) :)
  obtain ⟨R229_, hs230_, ⟨R231_, ha232_, hs233_⟩, H234_⟩ := Holds.gift H228_
  have hz_R_R229_ := Sub.trans' hsR1 hs230_
  have hr235_ : RS R229_ 4 gv (List.length N') (N'.flatMap GN.cells) := (sl_RS ha232_ (Sub.rfl' _)).mono hs233_
  rw [List.take_of_length_le (by omega)] at hm
  have H236_ : Holds w224_ (ro R229_ :: F) := (Holds.pkF H234_ [0] 3 :)
  exact ⟨R229_, _, _, rfl, hz_R_R229_, ⟨gv, N', rfl, rfl, (hm), (hr235_), (fun x hx => (hN x hx).mono hs230_)⟩, S227_, H236_⟩
end Go.Proofs.Ytiblemgccgbhoaa
set_option linter.unusedVariables false
set_option linter.unusedSimpArgs false
namespace Go.Proofs.Ytiblemgccgbhoaa
open Go Go.RowKit Gw
open Go.Value renaming int → vI, bool → vB, slice → vS, pointer → vP, agg → vA, tuple → vT

set_option maxHeartbeats 1600000 in
theorem kZzIn (R : HP) (ka : Option Addr) (kl kc : Nat) (m n : Int) (v : Value) (N : List GN) (h1 : RS R 4 v (List.length N) (N.flatMap GN.cells)) (hg1 : ∀ x ∈ N, GOk R x) (hb1 : N.length ≤ 100000) (hb2 : ∀ x ∈ N, x.l.length ≤ 100000) :
    TriG Try.prog 32 #[(vS ka kl kc), (vA #[(vI .i64 m), (vI .i64 n), v])] R [] (fun R' v__ post__ => ∃ (kb : Nat) (gv lv : Value) (N0 T : List GN) (ll : List RV), v__ = (vP (some ⟨kb, 0, none⟩)) ∧ post__ = [cl kb 104 [(vS ka kl kc), (vI .i64 m), (vI .i64 n), gv], sl 106 4 gv (List.length (N0 ++ T)) ((N0 ++ T).flatMap GN.cells), sl 58 2 lv (List.length ll) (ll.flatMap RV.cells)] ∧ ((N0 ++ T).map GN.m = N.map GN.m) ∧ (∀ x ∈ N0, GOk R' x) ∧ (Tlk T lv ll) ∧ (T = [] → N0 = [])) := by
 refine TriG.into (n := 39) (al := [(vS ka kl kc), (vA #[(vI .i64 m), (vI .i64 n), v])]) Try.func32 rfl Try.ntmps32 rfl rfl fun w F H => ?_
 refine C_seq (fun K1_ hK1_ => C_reg ?_)
 refine S_list (T_box (v := (vA #[(vI .i64 m), (vI .i64 n), v])) rfl H ?_)
 intro b2_ w3_ S5_ H4_
 have S6_ := Same.trans (Same.refl w) S5_
 refine sv (v := (vP none)) (x_assign rfl) ?_
 refine wpList_nil (X_then (hK1_ _ _ ?_))
 clear hK1_
 refine C_seq (fun K7_ hK7_ => C_reg ?_)
 refine sv (v := (vS ka kl kc)) (x_move rfl) ?_
 refine sv (v := (vP (some ⟨b2_, 0, none⟩))) (by kernel_rfl) ?_
 refine sv (v := (vA #[(vI .i64 m), (vI .i64 n)])) (x_loadN (vs := [(vI .i64 m), (vI .i64 n)]) rfl Try.underlying58 rfl z58 rfl (Rd.cells (Holds.rd H4_ 0 rfl) 0 rfl)) ?_
 refine sv (v := (vA #[(vS ka kl kc), (vI .i64 m), (vI .i64 n), (vS none 0 0)])) (by kernel_rfl) ?_
 refine S_list (T_box (v := (vA #[(vS ka kl kc), (vI .i64 m), (vI .i64 n), (vS none 0 0)])) rfl H4_ ?_)
 intro b8_ w9_ S11_ H10_
 have S12_ := Same.trans S6_ S11_
 refine sv (v := (vP (some ⟨b8_, 0, none⟩))) (x_assign rfl) ?_
 refine wpList_nil (X_then (hK7_ _ _ ?_))
 clear hK7_
 refine C_seq (fun K13_ hK13_ => ?_)
 refine C_seq (fun K14_ hK14_ => C_reg ?_)
 refine sv (v := (vP (some ⟨b2_, 2, none⟩))) (by kernel_rfl) ?_
 refine sv (v := v) (x_load1 rfl Try.underlying59 rfl ((Holds.rd H10_ 1 rfl) 2 v rfl)) ?_
 refine sv (v := (vI .i64 ((List.length N) : Int))) (x_lenRS rfl h1 Try.underlying59) ?_
 refine sv (v := (vI .i64 0)) (x_move rfl) ?_
 refine wpList_nil (X_then (hK14_ _ _ ?_))
 clear hK14_
 refine C_block ?_
 have H15_ : Holds w9_ (sl 106 4 (vS none 0 0) (List.length (([] : List GN) ++ ([] : List GN))) ((([] : List GN) ++ ([] : List GN)).flatMap GN.cells) :: cl b8_ 104 [(vS ka kl kc), (vI .i64 m), (vI .i64 n), (vS none 0 0)] :: cl b2_ 61 [(vI .i64 m), (vI .i64 n), v] :: ro R :: F) := Holds.add_nil H10_ 106 4
 have H16_ : Holds w9_ (sl 58 2 (vS none 0 0) (List.length ([] : List RV)) (([] : List RV).flatMap RV.cells) :: sl 106 4 (vS none 0 0) (List.length (([] : List GN) ++ ([] : List GN))) ((([] : List GN) ++ ([] : List GN)).flatMap GN.cells) :: cl b8_ 104 [(vS ka kl kc), (vI .i64 m), (vI .i64 n), (vS none 0 0)] :: cl b2_ 61 [(vI .i64 m), (vI .i64 n), v] :: ro R :: F) := Holds.add_nil H15_ 58 2
 have H17_ := Holds.recl H16_ 2 rfl ((lcons rfl (lcons rfl (lcons rfl (lcons (rfl : (vS none 0 0) = ((vS none 0 0))) rfl)))) : [(vS ka kl kc), (vI .i64 m), (vI .i64 n), (vS none 0 0)] = [(vS ka kl kc), (vI .i64 m), (vI .i64 n), ((vS none 0 0))])
 refine C_loop (γ := HP × Nat × (List GN) × (List GN) × Value × Value × (List RV)) (fun x__ a__ w1__ => match x__ with | ⟨R1, k, N0, T, gv, lv, ll⟩ => ∃ h : Env, a__ = mkA 39 (upd (upd (upd (upd (upd h 4 (vP none)) 5 (vP (some ⟨b8_, 0, none⟩))) 14 v) 15 (vI .i64 ((List.length N) : Int))) 16 (vI .i64 (k : Int))) [] ∧ Holds w1__ (sl 58 2 lv (List.length ll) (ll.flatMap RV.cells) :: sl 106 4 gv (List.length (N0 ++ T)) ((N0 ++ T).flatMap GN.cells) :: cl b8_ 104 [(vS ka kl kc), (vI .i64 m), (vI .i64 n), gv] :: cl b2_ 61 [(vI .i64 m), (vI .i64 n), v] :: ro R1 :: F) ∧ Same w w1__ ∧ (Sub R R1) ∧ (k ≤ N.length) ∧ ((N0 ++ T).map GN.m = (N.take k).map GN.m) ∧ (∀ x ∈ N0, GOk R1 x) ∧ (Tlk T lv ll) ∧ (T = [] → N0 = [])) (fun x__ => match x__ with | ⟨R1, k, N0, T, gv, lv, ll⟩ => N.length - k) (⟨R, 0, ([] : List GN), ([] : List GN), (vS none 0 0), (vS none 0 0), ([] : List RV)⟩) ⟨_, congrArg (fun e => mkA 39 e []) (ch (ch (ch (ch (ch rfl rfl) rfl) rfl) rfl) (congrArg (vI .i64) ((by first | rfl | omega | (simp; done) | (simp; omega)) : 0 = (0 : Int)))), H17_, S12_, (Sub.rfl' _), (by first | assumption | omega | exact rfl), (rfl), (fun x hx => by cases hx), (Or.inl ⟨rfl, rfl, rfl⟩), (fun _ => rfl)⟩ ?_
 rintro ⟨R1, k, N0, T, gv, lv, ll⟩ _ w18_ ⟨h, rfl, H19_, S20_, hsR1, hk, hm, hN, hT, hTN⟩
 refine C_seq (fun K21_ hK21_ => C_reg ?_)
 refine sv (v := (vB (decide ((k : Int) < ((List.length N) : Int))))) (x_bin rfl rfl rfl) ?_
 refine wpList_nil (X_then (hK21_ _ _ ?_))
 clear hK21_
 refine C_seq (fun K22_ hK22_ => ?_)
 refine C_cond (b := decide ((k : Int) < ((List.length N) : Int))) rfl (fun c23_t => ?_) (fun c23_f => ?_)
 ·have c23_tp : (k : Int) < ((List.length N) : Int) := of_decide_eq_true c23_t
  refine C_skip (X_then (hK22_ _ _ ?_))
  clear hK22_
  refine C_seq (fun K24_ hK24_ => ?_)
  refine C_block ?_
  refine C_seq (fun K25_ hK25_ => C_reg ?_)
  have H26_ := ((Holds.bring H19_ 4 rfl) :)
  obtain ⟨R27_, hs28_, ⟨R29_, ha30_, hs31_⟩, H32_⟩ := Holds.gift H26_
  have hz_R_R27_ := Sub.trans' hsR1 hs28_
  have hr33_ : RS R27_ 2 lv (List.length ll) (ll.flatMap RV.cells) := (sl_RS ha30_ (Sub.rfl' _)).mono hs31_
  obtain ⟨x34_, hx35_, hm36_⟩ := elem_at N k (by omega)
  have hp37_ := hg1 x34_ hm36_
  have hp38_ := hb2 x34_ hm36_
  have hg39_ := hg1 x34_ hm36_
  refine sv (v := (vP (some ⟨(sb v), so v + (k * 4 + 0), none⟩))) (x_idxRS (v := v) rfl (RS.mono h1 hz_R_R27_) rfl Try.underlying59 z83 (by omega) (by omega) (by omega : _ = k) rfl) ?_
  refine sv (v := (vA #[(vI .i64 x34_.ver), (vI .i64 x34_.created_Main), (vI .i64 x34_.created_Sub), x34_.revs])) (x_loadN (vs := [(vI .i64 x34_.ver), (vI .i64 x34_.created_Main), (vI .i64 x34_.created_Sub), x34_.revs]) rfl Try.underlying83 rfl z83 rfl (RC.cells (RS.rc (RS.mono h1 hz_R_R27_)) (Holds.ro_at H32_ 0 rfl) (k * 4 + 0) (fm_cells GN.len hx35_ (i := 0) rfl))) ?_
  refine S_list (T_alloc z83 H32_ ?_)
  intro b40_ w41_ S43_ H42_
  have S44_ := Same.trans S20_ S43_
  refine S_list0 (T_storeN (vs := [(vI .i64 x34_.ver), (vI .i64 x34_.created_Main), (vI .i64 x34_.created_Sub), x34_.revs]) rfl rfl z83 rfl (List.forall_mem_cons.2 ⟨rfl, (List.forall_mem_cons.2 ⟨rfl, (List.forall_mem_cons.2 ⟨rfl, (List.forall_mem_cons.2 ⟨(RS.one (RS.mono hg39_ hz_R_R27_)), (fun _ h__ => by cases h__)⟩)⟩)⟩)⟩) H42_ 0 rfl (Nat.le_of_ble_eq_true (by rfl)) ?_)
  intro w45_ S47_ H46_
  have S48_ := Same.trans S44_ S47_
  refine wpList_nil (X_then (hK25_ _ _ ?_))
  clear hK25_
  refine A_start (S := fun w => Rd b40_ [(vI .i64 x34_.ver), (vI .i64 x34_.created_Main), (vI .i64 x34_.created_Sub), x34_.revs] w ∧ Sub R27_ (hp w)) (N := 18) foll rfl rfl ?_
  have H49_ := Holds.drew_ H46_
  have hq50_ := And.intro (Holds.rd H49_ 0 rfl) ((Holds.ro_at H49_ 1 rfl))
  refine A_tk 0 (v := (vP (some ⟨b8_, 0, none⟩))) rfl (by kernel_rfl) (fun w hS => x_move rfl) hq50_ ?_
  refine A_tk 1 (v := (vP (some ⟨b8_, 0, none⟩))) rfl (by kernel_rfl) (fun w hS => x_move rfl) hq50_ ?_
  refine A_tk 2 (v := (vP (some ⟨b8_, 0, none⟩))) rfl (by kernel_rfl) (fun w hS => by kernel_rfl) hq50_ ?_
  refine A_tk 3 (v := (vP (some ⟨b8_, 3, none⟩))) rfl (by kernel_rfl) (fun w hS => by kernel_rfl) hq50_ ?_
  refine A_tk 5 (v := (vP (some ⟨b40_, 0, none⟩))) rfl (by kernel_rfl) (fun w hS => by kernel_rfl) hq50_ ?_
  refine A_tk 6 (v := (vI .i64 x34_.ver)) rfl (by kernel_rfl) (fun w hS => x_load1 rfl Try.underlying2 rfl (hS.1 0 (vI .i64 x34_.ver) rfl)) hq50_ ?_
  refine A_tk 7 (v := (vP (some ⟨b40_, 1, none⟩))) rfl (by kernel_rfl) (fun w hS => by kernel_rfl) hq50_ ?_
  refine A_tk 8 (v := (vA #[(vI .i64 x34_.created_Main), (vI .i64 x34_.created_Sub)])) rfl (by kernel_rfl) (fun w hS => x_loadN (vs := [(vI .i64 x34_.created_Main), (vI .i64 x34_.created_Sub)]) rfl Try.underlying58 rfl z58 rfl (Rd.cells hS.1 1 rfl)) hq50_ ?_
  refine A_tk 9 (v := (vP (some ⟨b40_, 3, none⟩))) rfl (by kernel_rfl) (fun w hS => by kernel_rfl) hq50_ ?_
  refine A_tk 10 (v := x34_.revs) rfl (by kernel_rfl) (fun w hS => x_load1 rfl Try.underlying80 rfl (hS.1 3 x34_.revs rfl)) hq50_ ?_
  refine A_ready (i := 4) (rs := [11]) (by kernel_rfl) ?_
  refine AllR.cons ?_ ?_
  ·skip
   refine A_op (ls' := #[true, true, true, true, true, true, true, true, true, true, true, false, false, false, false, false, false, false]) rfl (by kernel_rfl) (T_val (v := gv) (x_load1 rfl Try.underlying102 rfl ((Holds.rd H49_ 3 rfl) 3 gv rfl)) ?_)
   refine ⟨⟨Holds.rd H49_ 0 rfl, (Holds.ro_at H49_ 1 rfl)⟩, ?_⟩
   refine A_ready (i := 11) (rs := []) (by kernel_rfl) ?_
   refine AllR.cons ?_ AllR.nil
   have H51_ : Holds w45_.drew (sl 58 2 (.slice none 0 0) 0 [] :: cl b40_ 83 [(vI .i64 x34_.ver), (vI .i64 x34_.created_Main), (vI .i64 x34_.created_Sub), x34_.revs] :: ro R27_ :: sl 106 4 gv (List.length (N0 ++ T)) ((N0 ++ T).flatMap GN.cells) :: cl b8_ 104 [(vS ka kl kc), (vI .i64 m), (vI .i64 n), gv] :: cl b2_ 61 [(vI .i64 m), (vI .i64 n), v] :: F) := Holds.add_nil H49_ 58 2
   have H52_ : Holds w45_.drew (sl 58 2 (.slice none 0 0) 0 [] :: sl 58 2 (.slice none 0 0) 0 [] :: cl b40_ 83 [(vI .i64 x34_.ver), (vI .i64 x34_.created_Main), (vI .i64 x34_.created_Sub), x34_.revs] :: ro R27_ :: sl 106 4 gv (List.length (N0 ++ T)) ((N0 ++ T).flatMap GN.cells) :: cl b8_ 104 [(vS ka kl kc), (vI .i64 m), (vI .i64 n), gv] :: cl b2_ 61 [(vI .i64 m), (vI .i64 n), v] :: F) := Holds.add_nil H51_ 58 2
   refine A_op (ls' := #[true, true, true, true, true, true, true, true, true, true, true, true, false, false, false, false, false, false]) rfl (by kernel_rfl) (T_append rfl rfl Try.underlying80 z58 rfl (by decide) H52_ 0 rfl (RS.src (RS.mono hg39_ hz_R_R27_) (Holds.ro_at H51_ 2 rfl) Try.underlying80 (ones_RV _)) (by have hz_ := congrArg List.length hm; rw [List.length_map, List.length_map, List.length_take] at hz_; first | omega | (simp; omega)) ?_)
   intro v53_ w54_ S56_ H55_
   have S57_ := Same.trans (Same.trans S48_ (Same.drew _)) S56_
   obtain ⟨-, a58_, cp59_, rfl, hle60_⟩ := Holds.sl_len H55_ 0 rfl
   have H61_ := Holds.resl H55_ 0 rfl (by simp : [] ++ (x34_.l.flatMap RV.cells) = x34_.l.flatMap RV.cells) (by simp : 0 + (List.length x34_.l) = (List.length x34_.l))
   refine ⟨⟨Holds.rd H61_ 2 rfl, (Holds.ro_at H61_ 3 rfl)⟩, ?_⟩
   have hq62_ := And.intro (Holds.rd H61_ 2 rfl) ((Holds.ro_at H61_ 3 rfl))
   refine A_tk 12 (v := (vA #[(vI .i64 x34_.ver), (vI .i64 x34_.created_Main), (vI .i64 x34_.created_Sub), (vS a58_ (0 + (List.length x34_.l)) cp59_)])) rfl (by kernel_rfl) (fun w hS => by kernel_rfl) hq62_ ?_
   refine A_ready (i := 13) (rs := []) (by kernel_rfl) ?_
   refine AllR.cons ?_ AllR.nil
   refine A_op (ls' := #[true, true, true, true, true, true, true, true, true, true, true, true, true, true, false, false, false, false]) rfl (by kernel_rfl) (T_new (obj := .cells #[(vI .i64 x34_.ver), (vI .i64 x34_.created_Main), (vI .i64 x34_.created_Sub), (vS a58_ (0 + (List.length x34_.l)) cp59_)] 106) (f := fun b__ => .slice (some ⟨b__, 0, none⟩) 1 1) (A := fun b__ => cl b__ 106 [(vI .i64 x34_.ver), (vI .i64 x34_.created_Main), (vI .i64 x34_.created_Sub), (vS a58_ (0 + (List.length x34_.l)) cp59_)]) (by kernel_rfl) (fun l h => h.alloc _ _) H61_ ?_)
   intro b63_ w64_ S66_ H65_
   have S67_ := Same.trans S57_ S66_
   refine ⟨⟨Holds.rd H65_ 3 rfl, (Holds.ro_at H65_ 4 rfl)⟩, ?_⟩
   refine A_ready (i := 14) (rs := []) (by kernel_rfl) ?_
   refine AllR.cons ?_ AllR.nil
   refine A_op (ls' := #[true, true, true, true, true, true, true, true, true, true, true, true, true, true, true, false, false, false]) rfl (by kernel_rfl) (T_append rfl rfl Try.underlying102 z106 rfl (by decide) H65_ 5 rfl (Holds.cl_src H65_ 0 rfl Try.underlying102 (by simp [Value.oneCell']) rfl) (by have hz_ := congrArg List.length hm; rw [List.length_map, List.length_map, List.length_take] at hz_; first | omega | (simp; omega)) ?_)
   intro v68_ w69_ S71_ H70_
   have S72_ := Same.trans S67_ S71_
   refine ⟨⟨Holds.rd H70_ 3 rfl, (Holds.ro_at H70_ 4 rfl)⟩, ?_⟩
   have hq73_ := And.intro (Holds.rd H70_ 3 rfl) ((Holds.ro_at H70_ 4 rfl))
   refine A_tk 15 (v := (vP (some ⟨b8_, 0, none⟩))) rfl (by kernel_rfl) (fun w hS => by kernel_rfl) hq73_ ?_
   refine A_tk 16 (v := (vP (some ⟨b8_, 3, none⟩))) rfl (by kernel_rfl) (fun w hS => by kernel_rfl) hq73_ ?_
   refine A_ready (i := 17) (rs := []) (by kernel_rfl) ?_
   refine AllR.cons ?_ AllR.nil
   refine A_op0 (ls' := #[true, true, true, true, true, true, true, true, true, true, true, true, true, true, true, true, true, true]) rfl (by kernel_rfl) (T_store1 (v := v68_) rfl rfl z102 (Holds.sl_one H70_ 5 rfl) H70_ 6 rfl (Nat.le_of_ble_eq_true (by rfl)) ?_)
   intro w74_ S76_ H75_
   have S77_ := Same.trans S72_ S76_
   refine ⟨⟨Holds.rd H75_ 3 rfl, (Holds.ro_at H75_ 4 rfl)⟩, ?_⟩
   refine A_done (by kernel_rfl) ?_
   refine (X_blkN (X_then (hK24_ _ _ ?_)))
   clear hK24_
   refine C_reg ?_
   refine sv (v := (vI .i64 ((k : Int) + 1))) (x_bin rfl rfl (ib_add (IntWalk.i64_in _ (by omega)))) ?_
   refine sv (v := (vI .i64 ((k : Int) + 1))) (x_move rfl) ?_
   refine wpList_nil (X_then ?_)
   have H78_ := Holds.resl H75_ 5 rfl (by simp [GN.cells] : ((N0 ++ T).flatMap GN.cells) ++ [(vI .i64 x34_.ver), (vI .i64 x34_.created_Main), (vI .i64 x34_.created_Sub), (vS a58_ (0 + (List.length x34_.l)) cp59_)] = ((N0 ++ T) ++ [(⟨x34_.ver, x34_.created_Main, x34_.created_Sub, ((vS a58_ (0 + (List.length x34_.l)) cp59_)), x34_.l⟩ : GN)]).flatMap GN.cells) (by simp : (List.length (N0 ++ T)) + 1 = (List.length (N0 ++ T) + 1))
   have H79_ := Holds.resl H78_ 5 rfl ((by first | rfl | (simp; done) | (simp; omega)) : ((N0 ++ T) ++ [(⟨x34_.ver, x34_.created_Main, x34_.created_Sub, ((vS a58_ (0 + (List.length x34_.l)) cp59_)), x34_.l⟩ : GN)]).flatMap GN.cells = ((N0 ++ T) ++ [(⟨x34_.ver, x34_.created_Main, x34_.created_Sub, ((vS a58_ (0 + (List.length x34_.l)) cp59_)), x34_.l⟩ : GN)]).flatMap GN.cells) ((by first | rfl | (simp; done) | (simp; omega)) : (List.length (N0 ++ T) + 1) = (List.length ((N0 ++ T) ++ [(⟨x34_.ver, x34_.created_Main, x34_.created_Sub, ((vS a58_ (0 + (List.length x34_.l)) cp59_)), x34_.l⟩ : GN)])))
   have H80_ : Holds w74_ (sl 58 2 (vS a58_ (0 + (List.length x34_.l)) cp59_) (List.length x34_.l) (x34_.l.flatMap RV.cells) :: sl 106 4 v68_ (List.length ((N0 ++ T) ++ [(⟨x34_.ver, x34_.created_Main, x34_.created_Sub, ((vS a58_ (0 + (List.length x34_.l)) cp59_)), x34_.l⟩ : GN)])) (((N0 ++ T) ++ [(⟨x34_.ver, x34_.created_Main, x34_.created_Sub, ((vS a58_ (0 + (List.length x34_.l)) cp59_)), x34_.l⟩ : GN)]).flatMap GN.cells) :: cl b8_ 104 [(vS ka kl kc), (vI .i64 m), (vI .i64 n), v68_] :: cl b2_ 61 [(vI .i64 m), (vI .i64 n), v] :: ro R27_ :: F) := (Holds.pkF H79_ [1, 4, 4, 4, 3] 3 :)
   exact ⟨⟨R27_, k + 1, (N0 ++ T), [(⟨x34_.ver, x34_.created_Main, x34_.created_Sub, ((vS a58_ (0 + (List.length x34_.l)) cp59_)), x34_.l⟩ : GN)], v68_, (vS a58_ (0 + (List.length x34_.l)) cp59_), x34_.l⟩, ⟨_, congrArg (fun e => mkA 39 e []) (ch (ch (ch (ch (ch rfl rfl) rfl) rfl) rfl) (congrArg (vI .i64) ((by first | rfl | omega | (simp; done) | (simp; omega)) : (k : Int) + 1 = ((k + 1 : Nat) : Int)))), H80_, S77_, (hz_R_R27_), (by first | assumption | omega | exact rfl), (map_m_snoc hm hx35_ rfl), (GOk_app hN hs28_ hT hr33_), (Or.inr ⟨_, _, _, rfl⟩), (fun h => by cases h)⟩, by first | omega | (dsimp only; omega) | (simp; omega)⟩
  refine AllR.cons ?_ AllR.nil
  have H81_ : Holds w45_.drew (sl 58 2 (.slice none 0 0) 0 [] :: cl b40_ 83 [(vI .i64 x34_.ver), (vI .i64 x34_.created_Main), (vI .i64 x34_.created_Sub), x34_.revs] :: ro R27_ :: sl 106 4 gv (List.length (N0 ++ T)) ((N0 ++ T).flatMap GN.cells) :: cl b8_ 104 [(vS ka kl kc), (vI .i64 m), (vI .i64 n), gv] :: cl b2_ 61 [(vI .i64 m), (vI .i64 n), v] :: F) := Holds.add_nil H49_ 58 2
  have H82_ : Holds w45_.drew (sl 58 2 (.slice none 0 0) 0 [] :: sl 58 2 (.slice none 0 0) 0 [] :: cl b40_ 83 [(vI .i64 x34_.ver), (vI .i64 x34_.created_Main), (vI .i64 x34_.created_Sub), x34_.revs] :: ro R27_ :: sl 106 4 gv (List.length (N0 ++ T)) ((N0 ++ T).flatMap GN.cells) :: cl b8_ 104 [(vS ka kl kc), (vI .i64 m), (vI .i64 n), gv] :: cl b2_ 61 [(vI .i64 m), (vI .i64 n), v] :: F) := Holds.add_nil H81_ 58 2
  refine A_op (ls' := #[true, true, true, true, false, true, true, true, true, true, true, true, false, false, false, false, false, false]) rfl (by kernel_rfl) (T_append rfl rfl Try.underlying80 z58 rfl (by decide) H82_ 0 rfl (RS.src (RS.mono hg39_ hz_R_R27_) (Holds.ro_at H81_ 2 rfl) Try.underlying80 (ones_RV _)) (by have hz_ := congrArg List.length hm; rw [List.length_map, List.length_map, List.length_take] at hz_; first | omega | (simp; omega)) ?_)
  intro v83_ w84_ S86_ H85_
  have S87_ := Same.trans (Same.trans S48_ (Same.drew _)) S86_
  obtain ⟨-, a88_, cp89_, rfl, hle90_⟩ := Holds.sl_len H85_ 0 rfl
  have H91_ := Holds.resl H85_ 0 rfl (by simp : [] ++ (x34_.l.flatMap RV.cells) = x34_.l.flatMap RV.cells) (by simp : 0 + (List.length x34_.l) = (List.length x34_.l))
  refine ⟨⟨Holds.rd H91_ 2 rfl, (Holds.ro_at H91_ 3 rfl)⟩, ?_⟩
  have hq92_ := And.intro (Holds.rd H91_ 2 rfl) ((Holds.ro_at H91_ 3 rfl))
  refine A_tk 12 (v := (vA #[(vI .i64 x34_.ver), (vI .i64 x34_.created_Main), (vI .i64 x34_.created_Sub), (vS a88_ (0 + (List.length x34_.l)) cp89_)])) rfl (by kernel_rfl) (fun w hS => by kernel_rfl) hq92_ ?_
  refine A_ready (i := 4) (rs := [13]) (by kernel_rfl) ?_
  refine AllR.cons ?_ ?_
  ·skip
   refine A_op (ls' := #[true, true, true, true, true, true, true, true, true, true, true, true, true, false, false, false, false, false]) rfl (by kernel_rfl) (T_val (v := gv) (x_load1 rfl Try.underlying102 rfl ((Holds.rd H91_ 5 rfl) 3 gv rfl)) ?_)
   refine ⟨⟨Holds.rd H91_ 2 rfl, (Holds.ro_at H91_ 3 rfl)⟩, ?_⟩
   refine A_ready (i := 13) (rs := []) (by kernel_rfl) ?_
   refine AllR.cons ?_ AllR.nil
   refine A_op (ls' := #[true, true, true, true, true, true, true, true, true, true, true, true, true, true, false, false, false, false]) rfl (by kernel_rfl) (T_new (obj := .cells #[(vI .i64 x34_.ver), (vI .i64 x34_.created_Main), (vI .i64 x34_.created_Sub), (vS a88_ (0 + (List.length x34_.l)) cp89_)] 106) (f := fun b__ => .slice (some ⟨b__, 0, none⟩) 1 1) (A := fun b__ => cl b__ 106 [(vI .i64 x34_.ver), (vI .i64 x34_.created_Main), (vI .i64 x34_.created_Sub), (vS a88_ (0 + (List.length x34_.l)) cp89_)]) (by kernel_rfl) (fun l h => h.alloc _ _) H91_ ?_)
   intro b93_ w94_ S96_ H95_
   have S97_ := Same.trans S87_ S96_
   refine ⟨⟨Holds.rd H95_ 3 rfl, (Holds.ro_at H95_ 4 rfl)⟩, ?_⟩
   refine A_ready (i := 14) (rs := []) (by kernel_rfl) ?_
   refine AllR.cons ?_ AllR.nil
   refine A_op (ls' := #[true, true, true, true, true, true, true, true, true, true, true, true, true, true, true, false, false, false]) rfl (by kernel_rfl) (T_append rfl rfl Try.underlying102 z106 rfl (by decide) H95_ 5 rfl (Holds.cl_src H95_ 0 rfl Try.underlying102 (by simp [Value.oneCell']) rfl) (by have hz_ := congrArg List.length hm; rw [List.length_map, List.length_map, List.length_take] at hz_; first | omega | (simp; omega)) ?_)
   intro v98_ w99_ S101_ H100_
   have S102_ := Same.trans S97_ S101_
   refine ⟨⟨Holds.rd H100_ 3 rfl, (Holds.ro_at H100_ 4 rfl)⟩, ?_⟩
   have hq103_ := And.intro (Holds.rd H100_ 3 rfl) ((Holds.ro_at H100_ 4 rfl))
   refine A_tk 15 (v := (vP (some ⟨b8_, 0, none⟩))) rfl (by kernel_rfl) (fun w hS => by kernel_rfl) hq103_ ?_
   refine A_tk 16 (v := (vP (some ⟨b8_, 3, none⟩))) rfl (by kernel_rfl) (fun w hS => by kernel_rfl) hq103_ ?_
   refine A_ready (i := 17) (rs := []) (by kernel_rfl) ?_
   refine AllR.cons ?_ AllR.nil
   refine A_op0 (ls' := #[true, true, true, true, true, true, true, true, true, true, true, true, true, true, true, true, true, true]) rfl (by kernel_rfl) (T_store1 (v := v98_) rfl rfl z102 (Holds.sl_one H100_ 5 rfl) H100_ 6 rfl (Nat.le_of_ble_eq_true (by rfl)) ?_)
   intro w104_ S106_ H105_
   have S107_ := Same.trans S102_ S106_
   refine ⟨⟨Holds.rd H105_ 3 rfl, (Holds.ro_at H105_ 4 rfl)⟩, ?_⟩
   refine A_done (by kernel_rfl) ?_
   refine (X_blkN (X_then (hK24_ _ _ ?_)))
   clear hK24_
   refine C_reg ?_
   refine sv (v := (vI .i64 ((k : Int) + 1))) (x_bin rfl rfl (ib_add (IntWalk.i64_in _ (by omega)))) ?_
   refine sv (v := (vI .i64 ((k : Int) + 1))) (x_move rfl) ?_
   refine wpList_nil (X_then ?_)
   have H108_ := Holds.resl H105_ 5 rfl (by simp [GN.cells] : ((N0 ++ T).flatMap GN.cells) ++ [(vI .i64 x34_.ver), (vI .i64 x34_.created_Main), (vI .i64 x34_.created_Sub), (vS a88_ (0 + (List.length x34_.l)) cp89_)] = ((N0 ++ T) ++ [(⟨x34_.ver, x34_.created_Main, x34_.created_Sub, ((vS a88_ (0 + (List.length x34_.l)) cp89_)), x34_.l⟩ : GN)]).flatMap GN.cells) (by simp : (List.length (N0 ++ T)) + 1 = (List.length (N0 ++ T) + 1))
   have H109_ := Holds.resl H108_ 5 rfl ((by first | rfl | (simp; done) | (simp; omega)) : ((N0 ++ T) ++ [(⟨x34_.ver, x34_.created_Main, x34_.created_Sub, ((vS a88_ (0 + (List.length x34_.l)) cp89_)), x34_.l⟩ : GN)]).flatMap GN.cells = ((N0 ++ T) ++ [(⟨x34_.ver, x34_.created_Main, x34_.created_Sub, ((vS a88_ (0 + (List.length x34_.l)) cp89_)), x34_.l⟩ : GN)]).flatMap GN.cells) ((by first | rfl | (simp; done) | (simp; omega)) : (List.length (N0 ++ T) + 1) = (List.length ((N0 ++ T) ++ [(⟨x34_.ver, x34_.created_Main, x34_.created_Sub, ((vS a88_ (0 + (List.length x34_.l)) cp89_)), x34_.l⟩ : GN)])))
   have H110_ : Holds w104_ (sl 58 2 (vS a88_ (0 + (List.length x34_.l)) cp89_) (List.length x34_.l) (x34_.l.flatMap RV.cells) :: sl 106 4 v98_ (List.length ((N0 ++ T) ++ [(⟨x34_.ver, x34_.created_Main, x34_.created_Sub, ((vS a88_ (0 + (List.length x34_.l)) cp89_)), x34_.l⟩ : GN)])) (((N0 ++ T) ++ [(⟨x34_.ver, x34_.created_Main, x34_.created_Sub, ((vS a88_ (0 + (List.length x34_.l)) cp89_)), x34_.l⟩ : GN)]).flatMap GN.cells) :: cl b8_ 104 [(vS ka kl kc), (vI .i64 m), (vI .i64 n), v98_] :: cl b2_ 61 [(vI .i64 m), (vI .i64 n), v] :: ro R27_ :: F) := (Holds.pkF H109_ [1, 4, 4, 4, 3] 3 :)
   exact ⟨⟨R27_, k + 1, (N0 ++ T), [(⟨x34_.ver, x34_.created_Main, x34_.created_Sub, ((vS a88_ (0 + (List.length x34_.l)) cp89_)), x34_.l⟩ : GN)], v98_, (vS a88_ (0 + (List.length x34_.l)) cp89_), x34_.l⟩, ⟨_, congrArg (fun e => mkA 39 e []) (ch (ch (ch (ch (ch rfl rfl) rfl) rfl) rfl) (congrArg (vI .i64) ((by first | rfl | omega | (simp; done) | (simp; omega)) : (k : Int) + 1 = ((k + 1 : Nat) : Int)))), H110_, S107_, (hz_R_R27_), (by first | assumption | omega | exact rfl), (map_m_snoc hm hx35_ rfl), (GOk_app hN hs28_ hT hr33_), (Or.inr ⟨_, _, _, rfl⟩), (fun h => by cases h)⟩, by first | omega | (dsimp only; omega) | (simp; omega)⟩
  refine AllR.cons ?_ AllR.nil
  refine A_op (ls' := #[true, true, true, true, false, true, true, true, true, true, true, true, true, true, false, false, false, false]) rfl (by kernel_rfl) (T_new (obj := .cells #[(vI .i64 x34_.ver), (vI .i64 x34_.created_Main), (vI .i64 x34_.created_Sub), (vS a88_ (0 + (List.length x34_.l)) cp89_)] 106) (f := fun b__ => .slice (some ⟨b__, 0, none⟩) 1 1) (A := fun b__ => cl b__ 106 [(vI .i64 x34_.ver), (vI .i64 x34_.created_Main), (vI .i64 x34_.created_Sub), (vS a88_ (0 + (List.length x34_.l)) cp89_)]) (by kernel_rfl) (fun l h => h.alloc _ _) H91_ ?_)
  intro b111_ w112_ S114_ H113_
  have S115_ := Same.trans S87_ S114_
  refine ⟨⟨Holds.rd H113_ 3 rfl, (Holds.ro_at H113_ 4 rfl)⟩, ?_⟩
  refine A_ready (i := 4) (rs := []) (by kernel_rfl) ?_
  refine AllR.cons ?_ AllR.nil
  refine A_op (ls' := #[true, true, true, true, true, true, true, true, true, true, true, true, true, true, false, false, false, false]) rfl (by kernel_rfl) (T_val (v := gv) (x_load1 rfl Try.underlying102 rfl ((Holds.rd H113_ 6 rfl) 3 gv rfl)) ?_)
  refine ⟨⟨Holds.rd H113_ 3 rfl, (Holds.ro_at H113_ 4 rfl)⟩, ?_⟩
  refine A_ready (i := 14) (rs := []) (by kernel_rfl) ?_
  refine AllR.cons ?_ AllR.nil
  refine A_op (ls' := #[true, true, true, true, true, true, true, true, true, true, true, true, true, true, true, false, false, false]) rfl (by kernel_rfl) (T_append rfl rfl Try.underlying102 z106 rfl (by decide) H113_ 5 rfl (Holds.cl_src H113_ 0 rfl Try.underlying102 (by simp [Value.oneCell']) rfl) (by have hz_ := congrArg List.length hm; rw [List.length_map, List.length_map, List.length_take] at hz_; first | omega | (simp; omega)) ?_)
  intro v116_ w117_ S119_ H118_
  have S120_ := Same.trans S115_ S119_
  refine ⟨⟨Holds.rd H118_ 3 rfl, (Holds.ro_at H118_ 4 rfl)⟩, ?_⟩
  have hq121_ := And.intro (Holds.rd H118_ 3 rfl) ((Holds.ro_at H118_ 4 rfl))
  refine A_tk 15 (v := (vP (some ⟨b8_, 0, none⟩))) rfl (by kernel_rfl) (fun w hS => by kernel_rfl) hq121_ ?_
  refine A_tk 16 (v := (vP (some ⟨b8_, 3, none⟩))) rfl (by kernel_rfl) (fun w hS => by kernel_rfl) hq121_ ?_
  refine A_ready (i := 17) (rs := []) (by kernel_rfl) ?_
  refine AllR.cons ?_ AllR.nil
  refine A_op0 (ls' := #[true, true, true, true, true, true, true, true, true, true, true, true, true, true, true, true, true, true]) rfl (by kernel_rfl) (T_store1 (v := v116_) rfl rfl z102 (Holds.sl_one H118_ 5 rfl) H118_ 6 rfl (Nat.le_of_ble_eq_true (by rfl)) ?_)
  intro w122_ S124_ H123_
  have S125_ := Same.trans S120_ S124_
  refine ⟨⟨Holds.rd H123_ 3 rfl, (Holds.ro_at H123_ 4 rfl)⟩, ?_⟩
  refine A_done (by kernel_rfl) ?_
  refine (X_blkN (X_then (hK24_ _ _ ?_)))
  clear hK24_
  refine C_reg ?_
  refine sv (v := (vI .i64 ((k : Int) + 1))) (x_bin rfl rfl (ib_add (IntWalk.i64_in _ (by omega)))) ?_
  refine sv (v := (vI .i64 ((k : Int) + 1))) (x_move rfl) ?_
  refine wpList_nil (X_then ?_)
  have H126_ := Holds.resl H123_ 5 rfl (by simp [GN.cells] : ((N0 ++ T).flatMap GN.cells) ++ [(vI .i64 x34_.ver), (vI .i64 x34_.created_Main), (vI .i64 x34_.created_Sub), (vS a88_ (0 + (List.length x34_.l)) cp89_)] = ((N0 ++ T) ++ [(⟨x34_.ver, x34_.created_Main, x34_.created_Sub, ((vS a88_ (0 + (List.length x34_.l)) cp89_)), x34_.l⟩ : GN)]).flatMap GN.cells) (by simp : (List.length (N0 ++ T)) + 1 = (List.length (N0 ++ T) + 1))
  have H127_ := Holds.resl H126_ 5 rfl ((by first | rfl | (simp; done) | (simp; omega)) : ((N0 ++ T) ++ [(⟨x34_.ver, x34_.created_Main, x34_.created_Sub, ((vS a88_ (0 + (List.length x34_.l)) cp89_)), x34_.l⟩ : GN)]).flatMap GN.cells = ((N0 ++ T) ++ [(⟨x34_.ver, x34_.created_Main, x34_.created_Sub, ((vS a88_ (0 + (List.length x34_.l)) cp89_)), x34_.l⟩ : GN)]).flatMap GN.cells) ((by first | rfl | (simp; done) | (simp; omega)) : (List.length (N0 ++ T) + 1) = (List.length ((N0 ++ T) ++ [(⟨x34_.ver, x34_.created_Main, x34_.created_Sub, ((vS a88_ (0 + (List.length x34_.l)) cp89_)), x34_.l⟩ : GN)])))
  have H128_ : Holds w122_ (sl 58 2 (vS a88_ (0 + (List.length x34_.l)) cp89_) (List.length x34_.l) (x34_.l.flatMap RV.cells) :: sl 106 4 v116_ (List.length ((N0 ++ T) ++ [(⟨x34_.ver, x34_.created_Main, x34_.created_Sub, ((vS a88_ (0 + (List.length x34_.l)) cp89_)), x34_.l⟩ : GN)])) (((N0 ++ T) ++ [(⟨x34_.ver, x34_.created_Main, x34_.created_Sub, ((vS a88_ (0 + (List.length x34_.l)) cp89_)), x34_.l⟩ : GN)]).flatMap GN.cells) :: cl b8_ 104 [(vS ka kl kc), (vI .i64 m), (vI .i64 n), v116_] :: cl b2_ 61 [(vI .i64 m), (vI .i64 n), v] :: ro R27_ :: F) := (Holds.pkF H127_ [1, 4, 4, 4, 3] 3 :)
  exact ⟨⟨R27_, k + 1, (N0 ++ T), [(⟨x34_.ver, x34_.created_Main, x34_.created_Sub, ((vS a88_ (0 + (List.length x34_.l)) cp89_)), x34_.l⟩ : GN)], v116_, (vS a88_ (0 + (List.length x34_.l)) cp89_), x34_.l⟩, ⟨_, congrArg (fun e => mkA 39 e []) (ch (ch (ch (ch (ch rfl rfl) rfl) rfl) rfl) (congrArg (vI .i64) ((by first | rfl | omega | (simp; done) | (simp; omega)) : (k : Int) + 1 = ((k + 1 : Nat) : Int)))), H128_, S125_, (hz_R_R27_), (by first | assumption | omega | exact rfl), (map_m_snoc hm hx35_ rfl), (GOk_app hN hs28_ hT hr33_), (Or.inr ⟨_, _, _, rfl⟩), (fun h => by cases h)⟩, by first | omega | (dsimp only; omega) | (simp; omega)⟩
 ·have c23_fp : ¬ ((k : Int) < ((List.length N) : Int)) := of_decide_eq_false c23_f
  refine C_exit (X_thenX (X_thenX (X_blkHit ?_)))
  refine (X_then (hK13_ _ _ ?_))
  clear hK13_
  refine C_seq (fun K129_ hK129_ => C_reg ?_)
  refine sv (v := (vP (some ⟨b8_, 0, none⟩))) (x_move rfl) ?_
  refine sv (v := (vP (some ⟨b8_, 0, none⟩))) (x_assign rfl) ?_
  refine wpList_nil (X_then (hK129_ _ _ ?_))
  clear hK129_
  refine C_ret ?_
  refine R_any (v := (vP (some ⟨b8_, 0, none⟩))) (run_results1 rfl rfl) ?_
  rw [List.take_of_length_le (by omega)] at hm
  have H130_ : Holds w18_ (ro R1 :: cl b8_ 104 [(vS ka kl kc), (vI .i64 m), (vI .i64 n), gv] :: sl 106 4 gv (List.length (N0 ++ T)) ((N0 ++ T).flatMap GN.cells) :: sl 58 2 lv (List.length ll) (ll.flatMap RV.cells) :: F) := (Holds.pkF H19_ [4, 2, 1, 0] 1 :)
  exact ⟨R1, _, _, rfl, hsR1, ⟨b8_, gv, lv, N0, T, ll, rfl, rfl, (hm), (hN), (hT), (hTN)⟩, S20_, H130_⟩
end Go.Proofs.Ytiblemgccgbhoaa
set_option linter.unusedVariables false
set_option linter.unusedSimpArgs false
namespace Go.Proofs.Ytiblemgccgbhoaa
open Go Go.RowKit Gw
open Go.Value renaming int → vI, bool → vB, slice → vS, pointer → vP, agg → vA, tuple → vT

theorem Tlk_nil {T : List GN} {lv : Value} {ll : List RV} (h : Tlk T lv ll) (h0 : T = []) : lv = .slice none 0 0 ∧ ll = [] := by
  rcases h with ⟨_, h⟩ | ⟨a, b, c, h⟩
  · exact h
  · rw [h0] at h; cases h
def iNew (G : List GM) : List GM := if G.length = 0 then [⟨0, 0, 0, []⟩] else G
def iAdd (g : GM) (m n : Int) : GM := ⟨g.ver + 1, if g.l.length = 0 then m else g.cm, if g.l.length = 0 then n else g.cs, g.l ++ [⟨m, n⟩]⟩
/-- A put. -/
def iPut (G : List GM) (m n : Int) : List GM := (iNew G).dropLast ++ [iAdd (gLast (iNew G)) m n]
theorem iPut_old {N : List GN} {a b c m n : Int} {lv lv' : Value} {ll : List RV} (h : ¬ (ll.length : Int) = 0) :
    (N ++ [(⟨a + 1, b, c, lv', ll ++ [⟨m, n⟩]⟩ : GN)]).map GN.m = iPut ((N ++ [(⟨a, b, c, lv, ll⟩ : GN)]).map GN.m) m n := by
  have h1 : ¬ ll.length = 0 := by omega
  have h2 : ¬ ll = [] := fun e => h1 (by rw [e]; rfl)
  simp [iPut, iNew, gLast, iAdd, GN.m, h2]
theorem iPut_first {N : List GN} {a b c m n : Int} {lv lv' : Value} {ll : List RV} (h : (ll.length : Int) = 0) :
    (N ++ [(⟨a + 1, m, n, lv', ll ++ [⟨m, n⟩]⟩ : GN)]).map GN.m = iPut ((N ++ [(⟨a, b, c, lv, ll⟩ : GN)]).map GN.m) m n := by
  have h1 : ll = [] := List.eq_nil_of_length_eq_zero (by omega)
  subst h1
  simp [iPut, iNew, gLast, iAdd, GN.m]
theorem iPut_nil {m n : Int} {lv' : Value} : ([] ++ [(⟨0 + 1, m, n, lv', [(⟨m, n⟩ : RV)]⟩ : GN)]).map GN.m = iPut (([] : List GN).map GN.m) m n := by
  simp [iPut, iNew, gLast, iAdd, GN.m]
theorem vLessB_gt {a b c d : Int} (h : vLessB a b c d = true) : a < c ∨ (a = c ∧ b < d) := of_decide_eq_true h
theorem gsetN {A : List GN} {x y : GN} {i : Nat} {vs : List Value} (h : (GN.cells x).take i ++ vs ++ (GN.cells x).drop (i + vs.length) = GN.cells y) :
    List.take (A.length * 4 + i) ((A ++ [x]).flatMap GN.cells) ++ vs ++ List.drop (A.length * 4 + i + vs.length) ((A ++ [x]).flatMap GN.cells) = (A ++ [y]).flatMap GN.cells := by
  have hl : (A.flatMap GN.cells).length = A.length * 4 := fm_len GN.len A
  rw [List.flatMap_append, List.flatMap_append, ← hl, List.take_append, List.drop_append, List.take_of_length_le (by omega), List.drop_eq_nil_of_le (by omega)]
  simp only [List.flatMap_cons, List.flatMap_nil, List.append_nil, Nat.add_sub_cancel_left, List.nil_append]
  rw [show (List.flatMap GN.cells A).length + i + vs.length - (List.flatMap GN.cells A).length = i + vs.length by omega, ← h]
  simp only [List.append_assoc]


set_option maxHeartbeats 1600000 in
theorem kGreater (R : HP) (a b c d : Int) :
    Tri Try.prog 68 #[(vA #[(vI .i64 a), (vI .i64 b)]), (vA #[(vI .i64 c), (vI .i64 d)])] R [] (fun v__ post__ => v__ = (vB (vLessB c d a b)) ∧ post__ = []) := by
 refine Tri.into (n := 20) (al := [(vA #[(vI .i64 a), (vI .i64 b)]), (vA #[(vI .i64 c), (vI .i64 d)])]) Try.func68 rfl Try.ntmps68 rfl rfl fun w F H => ?_
 refine C_seq (fun K1_ hK1_ => C_reg ?_)
 refine S_list (T_box (v := (vA #[(vI .i64 a), (vI .i64 b)])) rfl H ?_)
 intro b2_ w3_ S5_ H4_
 have S6_ := Same.trans (Same.refl w) S5_
 refine S_list (T_box (v := (vA #[(vI .i64 c), (vI .i64 d)])) rfl H4_ ?_)
 intro b7_ w8_ S10_ H9_
 replace H9_ : Holds w8_ (cl b7_ 58 [(vI .i64 c), (vI .i64 d)] :: cl b2_ 58 [(vI .i64 a), (vI .i64 b)] :: ro R :: F) := H9_
 have S11_ := Same.trans S6_ S10_
 refine sv (v := (vB false)) (x_assign rfl) ?_
 refine wpList_nil (X_then (hK1_ _ _ ?_))
 clear hK1_
 refine C_seq (fun K12_ hK12_ => ?_)
 refine C_seq (fun K13_ hK13_ => C_reg ?_)
 refine sv (v := (vP (some ⟨b2_, 0, none⟩))) (by kernel_rfl) ?_
 refine sv (v := (vI .i64 a)) (x_load1 rfl Try.underlying2 rfl ((Holds.rd H9_ 1 rfl) 0 (vI .i64 a) rfl)) ?_
 refine sv (v := (vP (some ⟨b7_, 0, none⟩))) (by kernel_rfl) ?_
 refine sv (v := (vI .i64 c)) (x_load1 rfl Try.underlying2 rfl ((Holds.rd H9_ 0 rfl) 0 (vI .i64 c) rfl)) ?_
 refine sv (v := (vB (decide (c < a)))) (x_bin rfl rfl rfl) ?_
 refine wpList_nil (X_then (hK13_ _ _ ?_))
 clear hK13_
 refine C_cond (b := decide (c < a)) rfl (fun c14_t => ?_) (fun c14_f => ?_)
 ·have c14_tp : c < a := of_decide_eq_true c14_t
  refine C_seq (fun K15_ hK15_ => C_reg ?_)
  refine sv (v := (vB true)) (x_assign rfl) ?_
  refine wpList_nil (X_then (hK15_ _ _ ?_))
  clear hK15_
  refine C_ret (X_thenR ?_)
  refine R_any (v := (vB true)) (run_results1 rfl rfl) ?_
  have H16_ : Holds w8_ (ro R :: F) := (Holds.pkF H9_ [2] 2 :)
  exact ⟨_, _, rfl, ⟨(congrArg vB ((by unfold vLessB; exact (decide_eq_true (by first | (simp_all; done) | omega)).symm) : true = (vLessB c d a b))), rfl⟩, S11_, H16_⟩
 ·have c14_fp : ¬ (c < a) := of_decide_eq_false c14_f
  refine C_skip (X_then (hK12_ _ _ ?_))
  clear hK12_
  refine C_seq (fun K17_ hK17_ => ?_)
  refine C_seq (fun K18_ hK18_ => C_reg ?_)
  refine sv (v := (vP (some ⟨b2_, 0, none⟩))) (by kernel_rfl) ?_
  refine sv (v := (vI .i64 a)) (x_load1 rfl Try.underlying2 rfl ((Holds.rd H9_ 1 rfl) 0 (vI .i64 a) rfl)) ?_
  refine sv (v := (vP (some ⟨b7_, 0, none⟩))) (by kernel_rfl) ?_
  refine sv (v := (vI .i64 c)) (x_load1 rfl Try.underlying2 rfl ((Holds.rd H9_ 0 rfl) 0 (vI .i64 c) rfl)) ?_
  refine sv (v := (vB (decide (a < c)))) (x_bin rfl rfl rfl) ?_
  refine wpList_nil (X_then (hK18_ _ _ ?_))
  clear hK18_
  refine C_cond (b := decide (a < c)) rfl (fun c19_t => ?_) (fun c19_f => ?_)
  ·have c19_tp : a < c := of_decide_eq_true c19_t
   refine C_seq (fun K20_ hK20_ => C_reg ?_)
   refine sv (v := (vB false)) (x_assign rfl) ?_
   refine wpList_nil (X_then (hK20_ _ _ ?_))
   clear hK20_
   refine C_ret (X_thenR ?_)
   refine R_any (v := (vB false)) (run_results1 rfl rfl) ?_
   have H21_ : Holds w8_ (ro R :: F) := (Holds.pkF H9_ [2] 2 :)
   exact ⟨_, _, rfl, ⟨(congrArg vB ((by unfold vLessB; exact (decide_eq_false (by first | (simp_all; done) | omega)).symm) : false = (vLessB c d a b))), rfl⟩, S11_, H21_⟩
  ·have c19_fp : ¬ (a < c) := of_decide_eq_false c19_f
   refine C_skip (X_then (hK17_ _ _ ?_))
   clear hK17_
   refine C_seq (fun K22_ hK22_ => C_reg ?_)
   refine sv (v := (vP (some ⟨b2_, 1, none⟩))) (by kernel_rfl) ?_
   refine sv (v := (vI .i64 b)) (x_load1 rfl Try.underlying2 rfl ((Holds.rd H9_ 1 rfl) 1 (vI .i64 b) rfl)) ?_
   refine sv (v := (vP (some ⟨b7_, 1, none⟩))) (by kernel_rfl) ?_
   refine sv (v := (vI .i64 d)) (x_load1 rfl Try.underlying2 rfl ((Holds.rd H9_ 0 rfl) 1 (vI .i64 d) rfl)) ?_
   refine sv (v := (vB (decide (d < b)))) (x_bin rfl rfl rfl) ?_
   refine sv (v := (vB (decide (d < b)))) (x_assign rfl) ?_
   refine wpList_nil (X_then (hK22_ _ _ ?_))
   clear hK22_
   refine C_ret ?_
   refine R_any (v := (vB (decide (d < b)))) (run_results1 rfl rfl) ?_
   have H23_ : Holds w8_ (ro R :: F) := (Holds.pkF H9_ [2] 2 :)
   exact ⟨_, _, rfl, ⟨(congrArg vB ((by unfold vLessB; exact decide_eq_decide.2 (by first | (simp_all; done) | omega)) : (decide (d < b)) = (vLessB c d a b))), rfl⟩, S11_, H23_⟩

set_option maxHeartbeats 4000000 in
theorem kPut (R : HP) (kb : Nat) (ka : Option Addr) (kl kc : Nat) (m n : Int) (gv lv : Value) (N0 T : List GN) (ll : List RV) (m' n' : Int) (hT : Tlk T lv ll) (hTN : T = [] → N0 = []) (hbd : (N0 ++ T).length ≤ 100000 ∧ ll.length ≤ 100000) (hbv : ∀ x ∈ N0 ++ T, 0 ≤ x.ver ∧ x.ver ≤ 100000) (hgt : vLessB m n m' n' = true) :
    Tri Try.prog 54 #[(vP (some ⟨kb, 0, none⟩)), (vP none), (vI .i64 m'), (vI .i64 n')] R [cl kb 104 [(vS ka kl kc), (vI .i64 m), (vI .i64 n), gv], sl 106 4 gv (List.length (N0 ++ T)) ((N0 ++ T).flatMap GN.cells), sl 58 2 lv (List.length ll) (ll.flatMap RV.cells)] (fun v__ post__ => ∃ (gv' lv' : Value) (T' : List GN) (ll' : List RV), v__ = (vT #[]) ∧ post__ = [cl kb 104 [(vS ka kl kc), (vI .i64 m'), (vI .i64 n'), gv'], sl 106 4 gv' (List.length (N0 ++ T')) ((N0 ++ T').flatMap GN.cells), sl 58 2 lv' (List.length ll') (ll'.flatMap RV.cells)] ∧ ((N0 ++ T').map GN.m = iPut ((N0 ++ T).map GN.m) m' n') ∧ (Tlk T' lv' ll') ∧ (T' ≠ [])) := by
 refine Tri.into (n := 79) (al := [(vP (some ⟨kb, 0, none⟩)), (vP none), (vI .i64 m'), (vI .i64 n')]) Try.func54 rfl Try.ntmps54 rfl rfl fun w F H => ?_
 refine C_seq (fun K1_ hK1_ => C_reg ?_)
 refine sv (v := (vI .i64 m')) (x_move rfl) ?_
 refine sv (v := (vI .i64 n')) (x_move rfl) ?_
 refine sv (v := (vA #[(vI .i64 m'), (vI .i64 n')])) (by kernel_rfl) ?_
 refine S_list (T_alloc z58 H ?_)
 intro b2_ w3_ S5_ H4_
 have S6_ := Same.trans (Same.refl w) S5_
 refine S_list0 (T_storeN (vs := [(vI .i64 m'), (vI .i64 n')]) rfl rfl z58 rfl (by simp [Value.oneCell']) H4_ 0 rfl (Nat.le_of_ble_eq_true (by rfl)) ?_)
 intro w7_ S9_ H8_
 replace H8_ : Holds w7_ (cl b2_ 58 [(vI .i64 m'), (vI .i64 n')] :: ro R :: cl kb 104 [(vS ka kl kc), (vI .i64 m), (vI .i64 n), gv] :: sl 106 4 gv (List.length (N0 ++ T)) ((N0 ++ T).flatMap GN.cells) :: sl 58 2 lv (List.length ll) (ll.flatMap RV.cells) :: F) := H8_
 have S10_ := Same.trans S6_ S9_
 refine wpList_nil (X_then (hK1_ _ _ ?_))
 clear hK1_
 refine C_seq (fun K11_ hK11_ => ?_)
 refine C_seq (fun K12_ hK12_ => ?_)
 refine A_start (S := fun w => Rd b2_ [(vI .i64 m'), (vI .i64 n')] w ∧ Rd kb [(vS ka kl kc), (vI .i64 m), (vI .i64 n), gv] w ∧ SlRd gv ((N0 ++ T).flatMap GN.cells) w ∧ SlRd lv (ll.flatMap RV.cells) w ∧ Sub R (hp w)) (N := 7) foll rfl rfl ?_
 have H13_ := Holds.drew_ H8_
 have hq14_ := And.intro (Holds.rd H13_ 0 rfl) (And.intro (Holds.rd H13_ 2 rfl) (And.intro (Holds.slrd H13_ 3 rfl) (And.intro (Holds.slrd H13_ 4 rfl) ((Holds.ro_at H13_ 1 rfl)))))
 refine A_tk 0 (v := (vA #[(vI .i64 m'), (vI .i64 n')])) rfl (by kernel_rfl) (fun w hS => x_loadN (vs := [(vI .i64 m'), (vI .i64 n')]) rfl Try.underlying58 rfl z58 rfl (Rd.cells hS.1 0 rfl)) hq14_ ?_
 refine A_tk 1 (v := (vP (some ⟨kb, 0, none⟩))) rfl (by kernel_rfl) (fun w hS => x_move rfl) hq14_ ?_
 refine A_tk 2 (v := (vP (some ⟨kb, 0, none⟩))) rfl (by kernel_rfl) (fun w hS => by kernel_rfl) hq14_ ?_
 refine A_tk 3 (v := (vP (some ⟨kb, 1, none⟩))) rfl (by kernel_rfl) (fun w hS => by kernel_rfl) hq14_ ?_
 refine A_tk 4 (v := (vA #[(vI .i64 m), (vI .i64 n)])) rfl (by kernel_rfl) (fun w hS => x_loadN (vs := [(vI .i64 m), (vI .i64 n)]) rfl Try.underlying58 rfl z58 rfl (Rd.cells hS.2.1 1 rfl)) hq14_ ?_
 refine A_ready (i := 5) (rs := []) (by kernel_rfl) ?_
 refine AllR.cons ?_ AllR.nil
 have H16_ := ((Holds.bring H13_ 1 rfl) :)
 refine A_op (ls' := #[true, true, true, true, true, true, false]) rfl (by kernel_rfl) (T_call (al := [(vA #[(vI .i64 m'), (vI .i64 n')]), (vA #[(vI .i64 m), (vI .i64 n)])]) (pre := []) rfl rfl cb68 (kGreater R m' n' m n) H16_ ?_)
 rintro v15_ p20_ w17_ ⟨rfl, rfl⟩ S19_ H18_
 have S21_ := Same.trans (Same.trans S10_ (Same.drew _)) S19_
 refine ⟨⟨Holds.rd H18_ 1 rfl, Holds.rd H18_ 2 rfl, Holds.slrd H18_ 3 rfl, Holds.slrd H18_ 4 rfl, (Holds.ro_at H18_ 0 rfl)⟩, ?_⟩
 have hq22_ := And.intro (Holds.rd H18_ 1 rfl) (And.intro (Holds.rd H18_ 2 rfl) (And.intro (Holds.slrd H18_ 3 rfl) (And.intro (Holds.slrd H18_ 4 rfl) ((Holds.ro_at H18_ 0 rfl)))))
 refine A_tk 6 (v := (vB (!(vLessB m n m' n')))) rfl (by kernel_rfl) (fun w hS => x_not rfl) hq22_ ?_
 refine A_done (by kernel_rfl) ?_
 refine (X_then (hK12_ _ _ ?_))
 clear hK12_
 refine C_cond (b := !(vLessB m n m' n')) rfl (fun c23_t => ?_) (fun c23_f => ?_)
 ·skip
  rw [hgt] at c23_t; cases c23_t
 ·skip
  refine C_skip (X_then (hK11_ _ _ ?_))
  clear hK11_
  refine C_seq (fun K24_ hK24_ => ?_)
  refine C_seq (fun K25_ hK25_ => C_reg ?_)
  refine sv (v := (vP (some ⟨kb, 0, none⟩))) (x_move rfl) ?_
  refine sv (v := (vP (some ⟨kb, 0, none⟩))) (by kernel_rfl) ?_
  refine sv (v := (vP (some ⟨kb, 3, none⟩))) (by kernel_rfl) ?_
  refine sv (v := gv) (x_load1 rfl Try.underlying102 rfl ((Holds.rd H18_ 2 rfl) 3 gv rfl)) ?_
  refine sv (v := (vI .i64 ((List.length (N0 ++ T)) : Int))) (x_lenSl rfl H18_ 3 rfl Try.underlying102) ?_
  refine sv (v := (vB (decide (((List.length (N0 ++ T)) : Int) = 0)))) (x_bin rfl rfl rfl) ?_
  refine wpList_nil (X_then (hK25_ _ _ ?_))
  clear hK25_
  refine C_cond (b := decide (((List.length (N0 ++ T)) : Int) = 0)) rfl (fun c26_t => ?_) (fun c26_f => ?_)
  ·have c26_tp : ((List.length (N0 ++ T)) : Int) = 0 := of_decide_eq_true c26_t
   refine C_reg ?_
   obtain ⟨hN0_, hT0_⟩ := List.append_eq_nil_iff.1 (List.eq_nil_of_length_eq_zero (show (N0 ++ T).length = 0 by omega))
   obtain ⟨hlv_, hll_⟩ := Tlk_nil hT hT0_
   subst hlv_ hll_
   refine sv (v := (vP (some ⟨kb, 0, none⟩))) (x_move rfl) ?_
   refine sv (v := (vP (some ⟨kb, 0, none⟩))) (x_move rfl) ?_
   refine sv (v := (vP (some ⟨kb, 0, none⟩))) (by kernel_rfl) ?_
   refine sv (v := (vP (some ⟨kb, 3, none⟩))) (by kernel_rfl) ?_
   refine sv (v := gv) (x_load1 rfl Try.underlying102 rfl ((Holds.rd H18_ 2 rfl) 3 gv rfl)) ?_
   refine sv (v := (vA #[(vI .i64 0), (vI .i64 0), (vI .i64 0), (vS none 0 0)])) (by kernel_rfl) ?_
   refine S_list (T_new (obj := .cells #[(vI .i64 0), (vI .i64 0), (vI .i64 0), (vS none 0 0)] 106) (f := fun b__ => .slice (some ⟨b__, 0, none⟩) 1 1) (A := fun b__ => cl b__ 106 [(vI .i64 0), (vI .i64 0), (vI .i64 0), (vS none 0 0)]) (by kernel_rfl) (fun l h => h.alloc _ _) H18_ ?_)
   intro b27_ w28_ S30_ H29_
   replace H29_ : Holds w28_ (cl b27_ 106 [(vI .i64 0), (vI .i64 0), (vI .i64 0), (vS none 0 0)] :: ro R :: cl b2_ 58 [(vI .i64 m'), (vI .i64 n')] :: cl kb 104 [(vS ka kl kc), (vI .i64 m), (vI .i64 n), gv] :: sl 106 4 gv (List.length (N0 ++ T)) ((N0 ++ T).flatMap GN.cells) :: sl 58 2 (vS none 0 0) (List.length ([] : List RV)) (([] : List RV).flatMap RV.cells) :: F) := H29_
   have S31_ := Same.trans S21_ S30_
   refine S_list (T_append rfl rfl Try.underlying102 z106 rfl (by decide) H29_ 4 rfl (Holds.cl_src H29_ 0 rfl Try.underlying102 (by simp [Value.oneCell']) rfl) (by first | omega | (simp only [List.length_append, List.length_cons, List.length_nil]; omega)) ?_)
   intro v32_ w33_ S35_ H34_
   have S36_ := Same.trans S31_ S35_
   refine sv (v := (vP (some ⟨kb, 0, none⟩))) (by kernel_rfl) ?_
   refine sv (v := (vP (some ⟨kb, 3, none⟩))) (by kernel_rfl) ?_
   refine S_list0 (T_store1 (v := v32_) rfl rfl z102 (Holds.sl_one H34_ 4 rfl) H34_ 3 rfl (Nat.le_of_ble_eq_true (by rfl)) ?_)
   intro w37_ S39_ H38_
   have S40_ := Same.trans S36_ S39_
   refine wpList_nil (X_then (hK24_ _ _ ?_))
   clear hK24_
   refine C_seq (fun K41_ hK41_ => ?_)
   refine A_start (S := fun w => Rd kb [(vS ka kl kc), (vI .i64 m), (vI .i64 n), v32_] w ∧ SlRd (vS none 0 0) (([] : List RV).flatMap RV.cells) w ∧ Sub R (hp w)) (N := 12) foll rfl rfl ?_
   have H42_ := Holds.drew_ H38_
   have H43_ := Holds.resl H42_ 4 rfl (by rw [hT0_]; simp [GN.cells] : ((N0 ++ T).flatMap GN.cells) ++ [(vI .i64 0), (vI .i64 0), (vI .i64 0), (vS none 0 0)] = (N0 ++ [(⟨0, 0, 0, (vS none 0 0), ([] : List RV)⟩ : GN)]).flatMap GN.cells) (by rw [hT0_]; simp : (List.length (N0 ++ T)) + 1 = (List.length N0 + 1))
   have hn0_ : N0.length = 0 := by rw [hN0_]; rfl
   have hq44_ := And.intro (Holds.rd H43_ 3 rfl) (And.intro (Holds.slrd H43_ 5 rfl) ((Holds.ro_at H43_ 1 rfl)))
   refine A_tk 0 (v := (vP (some ⟨kb, 0, none⟩))) rfl (by kernel_rfl) (fun w hS => x_move rfl) hq44_ ?_
   refine A_tk 1 (v := (vP (some ⟨kb, 0, none⟩))) rfl (by kernel_rfl) (fun w hS => by kernel_rfl) hq44_ ?_
   refine A_tk 2 (v := (vP (some ⟨kb, 3, none⟩))) rfl (by kernel_rfl) (fun w hS => by kernel_rfl) hq44_ ?_
   refine A_tk 3 (v := v32_) rfl (by kernel_rfl) (fun w hS => x_load1 rfl Try.underlying102 rfl (hS.1 3 v32_ rfl)) hq44_ ?_
   refine A_tk 4 (v := (vP (some ⟨kb, 0, none⟩))) rfl (by kernel_rfl) (fun w hS => x_move rfl) hq44_ ?_
   refine A_tk 5 (v := (vP (some ⟨kb, 0, none⟩))) rfl (by kernel_rfl) (fun w hS => by kernel_rfl) hq44_ ?_
   refine A_tk 6 (v := (vP (some ⟨kb, 3, none⟩))) rfl (by kernel_rfl) (fun w hS => by kernel_rfl) hq44_ ?_
   refine A_tk 7 (v := v32_) rfl (by kernel_rfl) (fun w hS => x_load1 rfl Try.underlying102 rfl (hS.1 3 v32_ rfl)) hq44_ ?_
   refine A_ready (i := 8) (rs := []) (by kernel_rfl) ?_
   refine AllR.cons ?_ AllR.nil
   refine A_op (ls' := #[true, true, true, true, true, true, true, true, true, false, false, false]) rfl (by kernel_rfl) (T_val (v := (vI .i64 ((List.length N0 + 1) : Int))) (x_lenSl rfl H43_ 4 rfl Try.underlying102) ?_)
   refine ⟨⟨Holds.rd H43_ 3 rfl, Holds.slrd H43_ 5 rfl, (Holds.ro_at H43_ 1 rfl)⟩, ?_⟩
   refine A_tk 9 (v := (vI .i64 (((List.length N0 + 1) : Int) - 1))) rfl (by kernel_rfl) (fun w hS => x_bin rfl rfl (ib_sub (IntWalk.i64_in _ (by omega)))) hq44_ ?_
   have hr45_ := Holds.sl_RSw H43_ 4 rfl
   refine A_tk 10 (v := (vP (some ⟨(sb v32_), so v32_ + ((List.length N0) * 4 + 0), none⟩))) rfl (by kernel_rfl) (fun w hS => x_idxSlR (v := v32_) rfl hr45_ rfl Try.underlying102 z106 (by omega) (by omega) (by omega : _ = List.length N0) rfl) hq44_ ?_
   refine A_tk 11 (v := (vP (some ⟨(sb v32_), so v32_ + ((List.length N0) * 4 + 0), none⟩))) rfl (by kernel_rfl) (fun w hS => x_assign rfl) hq44_ ?_
   refine A_done (by kernel_rfl) ?_
   refine (X_then (hK41_ _ _ ?_))
   clear hK41_
   refine C_seq (fun K46_ hK46_ => ?_)
   refine C_seq (fun K47_ hK47_ => C_reg ?_)
   refine sv (v := (vP (some ⟨(sb v32_), so v32_ + ((List.length N0) * 4 + 0), none⟩))) (x_move rfl) ?_
   refine sv (v := (vP (some ⟨(sb v32_), so v32_ + ((List.length N0) * 4 + 0), none⟩))) (by kernel_rfl) ?_
   refine sv (v := (vP (some ⟨(sb v32_), so v32_ + ((List.length N0) * 4 + 3), none⟩))) (by kernel_rfl) ?_
   refine sv (v := ((vS none 0 0))) (x_load1 rfl Try.underlying80 rfl ((Holds.slrd H43_ 4 rfl) _ _ (fm_cell GN.len (gat _ _) (i := 3) rfl))) ?_
   refine sv (v := (vI .i64 ((List.length ([] : List RV)) : Int))) (x_lenSl rfl H43_ 5 rfl Try.underlying80) ?_
   refine sv (v := (vB (decide (((List.length ([] : List RV)) : Int) = 0)))) (x_bin rfl rfl rfl) ?_
   refine wpList_nil (X_then (hK47_ _ _ ?_))
   clear hK47_
   refine C_cond (b := decide (((List.length ([] : List RV)) : Int) = 0)) rfl (fun c48_t => ?_) (fun c48_f => ?_)
   ·have c48_tp : ((List.length ([] : List RV)) : Int) = 0 := of_decide_eq_true c48_t
    refine C_reg ?_
    refine sv (v := (vP (some ⟨(sb v32_), so v32_ + ((List.length N0) * 4 + 0), none⟩))) (x_move rfl) ?_
    refine sv (v := (vA #[(vI .i64 m'), (vI .i64 n')])) (x_loadN (vs := [(vI .i64 m'), (vI .i64 n')]) rfl Try.underlying58 rfl z58 rfl (Rd.cells (Holds.rd H43_ 2 rfl) 0 rfl)) ?_
    refine sv (v := (vP (some ⟨(sb v32_), so v32_ + ((List.length N0) * 4 + 0), none⟩))) (by kernel_rfl) ?_
    refine sv (v := (vP (some ⟨(sb v32_), so v32_ + ((List.length N0) * 4 + 1), none⟩))) (by kernel_rfl) ?_
    refine S_list0 (T_storeSlN (vs := [(vI .i64 m'), (vI .i64 n')]) (k := (List.length N0) * 4 + 1) rfl rfl z58 rfl (by simp [Value.oneCell']) H43_ 4 rfl (by first | omega | (rw [fm_len GN.len]; simp only [List.length_append, List.length_cons, List.length_nil]; omega)) (Nat.zero_lt_succ _) rfl rfl ?_)
    intro w49_ S51_ H50_
    replace H50_ : Holds w49_ (cl b27_ 106 [(vI .i64 0), (vI .i64 0), (vI .i64 0), (vS none 0 0)] :: ro R :: cl b2_ 58 [(vI .i64 m'), (vI .i64 n')] :: cl kb 104 [(vS ka kl kc), (vI .i64 m), (vI .i64 n), v32_] :: sl 106 4 v32_ (List.length N0 + 1) (List.take ((List.length N0) * 4 + 1) ((N0 ++ [(⟨0, 0, 0, (vS none 0 0), ([] : List RV)⟩ : GN)]).flatMap GN.cells) ++ [(vI .i64 m'), (vI .i64 n')] ++ List.drop ((List.length N0) * 4 + 1 + List.length [(vI .i64 m'), (vI .i64 n')]) ((N0 ++ [(⟨0, 0, 0, (vS none 0 0), ([] : List RV)⟩ : GN)]).flatMap GN.cells)) :: sl 58 2 (vS none 0 0) (List.length ([] : List RV)) (([] : List RV).flatMap RV.cells) :: F) := H50_
    have S52_ := Same.trans (Same.trans S40_ (Same.drew _)) S51_
    have H53_ := Holds.resl H50_ 4 rfl (gsetN rfl : List.take ((List.length N0) * 4 + 1) ((N0 ++ [(⟨0, 0, 0, (vS none 0 0), ([] : List RV)⟩ : GN)]).flatMap GN.cells) ++ [(vI .i64 m'), (vI .i64 n')] ++ List.drop ((List.length N0) * 4 + 1 + List.length [(vI .i64 m'), (vI .i64 n')]) ((N0 ++ [(⟨0, 0, 0, (vS none 0 0), ([] : List RV)⟩ : GN)]).flatMap GN.cells) = (N0 ++ [(⟨0, m', n', (vS none 0 0), ([] : List RV)⟩ : GN)]).flatMap GN.cells) (rfl : (List.length N0 + 1) = (List.length N0 + 1))
    refine wpList_nil (X_then (hK46_ _ _ ?_))
    clear hK46_
    refine C_seq (fun K54_ hK54_ => ?_)
    refine A_start (S := fun w => Rd b2_ [(vI .i64 m'), (vI .i64 n')] w ∧ Sub R (hp w)) (N := 11) foll rfl rfl ?_
    have H55_ := Holds.drew_ H53_
    have hq56_ := And.intro (Holds.rd H55_ 2 rfl) ((Holds.ro_at H55_ 1 rfl))
    refine A_tk 0 (v := (vP (some ⟨(sb v32_), so v32_ + ((List.length N0) * 4 + 0), none⟩))) rfl (by kernel_rfl) (fun w hS => x_move rfl) hq56_ ?_
    refine A_tk 1 (v := (vP (some ⟨(sb v32_), so v32_ + ((List.length N0) * 4 + 0), none⟩))) rfl (by kernel_rfl) (fun w hS => x_move rfl) hq56_ ?_
    refine A_tk 2 (v := (vP (some ⟨(sb v32_), so v32_ + ((List.length N0) * 4 + 0), none⟩))) rfl (by kernel_rfl) (fun w hS => by kernel_rfl) hq56_ ?_
    refine A_tk 3 (v := (vP (some ⟨(sb v32_), so v32_ + ((List.length N0) * 4 + 3), none⟩))) rfl (by kernel_rfl) (fun w hS => by kernel_rfl) hq56_ ?_
    refine A_tk 5 (v := (vA #[(vI .i64 m'), (vI .i64 n')])) rfl (by kernel_rfl) (fun w hS => x_loadN (vs := [(vI .i64 m'), (vI .i64 n')]) rfl Try.underlying58 rfl z58 rfl (Rd.cells hS.1 0 rfl)) hq56_ ?_
    refine A_ready (i := 4) (rs := [6]) (by kernel_rfl) ?_
    refine AllR.cons ?_ ?_
    ·skip
     refine A_op (ls' := #[true, true, true, true, true, true, false, false, false, false, false]) rfl (by kernel_rfl) (T_val (v := ((vS none 0 0))) (x_load1 rfl Try.underlying80 rfl ((Holds.slrd H55_ 4 rfl) _ _ (fm_cell GN.len (gat _ _) (i := 3) rfl))) ?_)
     refine ⟨⟨Holds.rd H55_ 2 rfl, (Holds.ro_at H55_ 1 rfl)⟩, ?_⟩
     refine A_ready (i := 6) (rs := []) (by kernel_rfl) ?_
     refine AllR.cons ?_ AllR.nil
     refine A_op (ls' := #[true, true, true, true, true, true, true, false, false, false, false]) rfl (by kernel_rfl) (T_new (obj := .cells #[(vI .i64 m'), (vI .i64 n')] 58) (f := fun b__ => .slice (some ⟨b__, 0, none⟩) 1 1) (A := fun b__ => cl b__ 58 [(vI .i64 m'), (vI .i64 n')]) (by kernel_rfl) (fun l h => h.alloc _ _) H55_ ?_)
     intro b57_ w58_ S60_ H59_
     replace H59_ : Holds w58_ (cl b57_ 58 [(vI .i64 m'), (vI .i64 n')] :: cl b27_ 106 [(vI .i64 0), (vI .i64 0), (vI .i64 0), (vS none 0 0)] :: ro R :: cl b2_ 58 [(vI .i64 m'), (vI .i64 n')] :: cl kb 104 [(vS ka kl kc), (vI .i64 m), (vI .i64 n), v32_] :: sl 106 4 v32_ (List.length N0 + 1) ((N0 ++ [(⟨0, m', n', (vS none 0 0), ([] : List RV)⟩ : GN)]).flatMap GN.cells) :: sl 58 2 (vS none 0 0) (List.length ([] : List RV)) (([] : List RV).flatMap RV.cells) :: F) := H59_
     have S61_ := Same.trans (Same.trans S52_ (Same.drew _)) S60_
     refine ⟨⟨Holds.rd H59_ 3 rfl, (Holds.ro_at H59_ 2 rfl)⟩, ?_⟩
     refine A_ready (i := 7) (rs := []) (by kernel_rfl) ?_
     refine AllR.cons ?_ AllR.nil
     refine A_op (ls' := #[true, true, true, true, true, true, true, true, false, false, false]) rfl (by kernel_rfl) (T_append rfl rfl Try.underlying80 z58 rfl (by decide) H59_ 6 rfl (Holds.cl_src H59_ 0 rfl Try.underlying80 (by simp [Value.oneCell']) rfl) (by first | omega | (simp only [List.length_append, List.length_cons, List.length_nil]; omega)) ?_)
     intro v62_ w63_ S65_ H64_
     have S66_ := Same.trans S61_ S65_
     refine ⟨⟨Holds.rd H64_ 3 rfl, (Holds.ro_at H64_ 2 rfl)⟩, ?_⟩
     have hq67_ := And.intro (Holds.rd H64_ 3 rfl) ((Holds.ro_at H64_ 2 rfl))
     refine A_tk 8 (v := (vP (some ⟨(sb v32_), so v32_ + ((List.length N0) * 4 + 0), none⟩))) rfl (by kernel_rfl) (fun w hS => by kernel_rfl) hq67_ ?_
     refine A_tk 9 (v := (vP (some ⟨(sb v32_), so v32_ + ((List.length N0) * 4 + 3), none⟩))) rfl (by kernel_rfl) (fun w hS => by kernel_rfl) hq67_ ?_
     refine A_ready (i := 10) (rs := []) (by kernel_rfl) ?_
     refine AllR.cons ?_ AllR.nil
     refine A_op0 (ls' := #[true, true, true, true, true, true, true, true, true, true, true]) rfl (by kernel_rfl) (T_storeSl (v := v32_) (u := v62_) rfl rfl z80 (Holds.sl_one H64_ 6 rfl) H64_ 5 rfl (by first | omega | (rw [fm_len GN.len]; simp only [List.length_append, List.length_cons, List.length_nil]; omega)) rfl rfl ?_)
     intro w68_ S70_ H69_
     have S71_ := Same.trans S66_ S70_
     have H72_ := Holds.resl H69_ 5 rfl (gset rfl : List.set ((N0 ++ [(⟨0, m', n', (vS none 0 0), ([] : List RV)⟩ : GN)]).flatMap GN.cells) ((List.length N0) * 4 + 3) v62_ = (N0 ++ [(⟨0, m', n', v62_, [(⟨m', n'⟩ : RV)]⟩ : GN)]).flatMap GN.cells) (rfl : (List.length N0 + 1) = (List.length N0 + 1))
     refine ⟨⟨Holds.rd H72_ 3 rfl, (Holds.ro_at H72_ 2 rfl)⟩, ?_⟩
     refine A_done (by kernel_rfl) ?_
     refine (X_then (hK54_ _ _ ?_))
     clear hK54_
     refine C_seq (fun K73_ hK73_ => C_reg ?_)
     refine sv (v := (vP (some ⟨(sb v32_), so v32_ + ((List.length N0) * 4 + 0), none⟩))) (x_move rfl) ?_
     refine sv (v := (vP (some ⟨(sb v32_), so v32_ + ((List.length N0) * 4 + 0), none⟩))) (by kernel_rfl) ?_
     refine sv (v := (vP (some ⟨(sb v32_), so v32_ + ((List.length N0) * 4 + 0), none⟩))) (by kernel_rfl) ?_
     refine sv (v := (vI .i64 0)) (x_load1 rfl Try.underlying2 rfl ((Holds.slrd H72_ 5 rfl) _ _ (fm_cell GN.len (gat _ _) (i := 0) rfl))) ?_
     refine sv (v := (vI .i64 1)) (x_bin rfl rfl (by rfl)) ?_
     refine sv (v := (vP (some ⟨(sb v32_), so v32_ + ((List.length N0) * 4 + 0), none⟩))) (by kernel_rfl) ?_
     refine sv (v := (vP (some ⟨(sb v32_), so v32_ + ((List.length N0) * 4 + 0), none⟩))) (by kernel_rfl) ?_
     refine S_list0 (T_storeSl (v := v32_) (u := (vI .i64 1)) rfl rfl z2 rfl H72_ 5 rfl (by first | omega | (rw [fm_len GN.len]; simp only [List.length_append, List.length_cons, List.length_nil]; omega)) rfl rfl ?_)
     intro w74_ S76_ H75_
     replace H75_ : Holds w74_ (cl b57_ 58 [(vI .i64 m'), (vI .i64 n')] :: cl b27_ 106 [(vI .i64 0), (vI .i64 0), (vI .i64 0), (vS none 0 0)] :: ro R :: cl b2_ 58 [(vI .i64 m'), (vI .i64 n')] :: cl kb 104 [(vS ka kl kc), (vI .i64 m), (vI .i64 n), v32_] :: sl 106 4 v32_ (List.length N0 + 1) (List.set ((N0 ++ [(⟨0, m', n', v62_, [(⟨m', n'⟩ : RV)]⟩ : GN)]).flatMap GN.cells) ((List.length N0) * 4 + 0) (vI .i64 1)) :: sl 58 2 v62_ ((List.length ([] : List RV)) + 1) ((([] : List RV).flatMap RV.cells) ++ [(vI .i64 m'), (vI .i64 n')]) :: F) := H75_
     have S77_ := Same.trans S71_ S76_
     have H78_ := Holds.resl H75_ 5 rfl (gset rfl : List.set ((N0 ++ [(⟨0, m', n', v62_, [(⟨m', n'⟩ : RV)]⟩ : GN)]).flatMap GN.cells) ((List.length N0) * 4 + 0) (vI .i64 1) = (N0 ++ [(⟨1, m', n', v62_, [(⟨m', n'⟩ : RV)]⟩ : GN)]).flatMap GN.cells) (rfl : (List.length N0 + 1) = (List.length N0 + 1))
     refine wpList_nil (X_then (hK73_ _ _ ?_))
     clear hK73_
     refine C_reg ?_
     refine sv (v := (vP (some ⟨kb, 0, none⟩))) (x_move rfl) ?_
     refine sv (v := (vA #[(vI .i64 m'), (vI .i64 n')])) (x_loadN (vs := [(vI .i64 m'), (vI .i64 n')]) rfl Try.underlying58 rfl z58 rfl (Rd.cells (Holds.rd H78_ 3 rfl) 0 rfl)) ?_
     refine sv (v := (vP (some ⟨kb, 0, none⟩))) (by kernel_rfl) ?_
     refine sv (v := (vP (some ⟨kb, 1, none⟩))) (by kernel_rfl) ?_
     refine S_list0 (T_storeN (vs := [(vI .i64 m'), (vI .i64 n')]) rfl rfl z58 rfl (by simp [Value.oneCell']) H78_ 4 rfl (Nat.le_of_ble_eq_true (by rfl)) ?_)
     intro w79_ S81_ H80_
     have S82_ := Same.trans S77_ S81_
     refine wpList_nil ?_
     refine R_0 rfl ?_
     have H83_ := Holds.resl H80_ 5 rfl ((by first | rfl | (simp [RV.cells, GN.cells]; done) | (simp; omega)) : (N0 ++ [(⟨1, m', n', v62_, [(⟨m', n'⟩ : RV)]⟩ : GN)]).flatMap GN.cells = (N0 ++ [(⟨1, m', n', v62_, [(⟨m', n'⟩ : RV)]⟩ : GN)]).flatMap GN.cells) ((by first | rfl | (simp [RV.cells, GN.cells]; done) | (simp; omega)) : (List.length N0 + 1) = (List.length (N0 ++ [(⟨1, m', n', v62_, [(⟨m', n'⟩ : RV)]⟩ : GN)])))
     have H84_ := Holds.resl H83_ 6 rfl ((by first | rfl | (simp [RV.cells, GN.cells]; done) | (simp; omega)) : (([] : List RV).flatMap RV.cells) ++ [(vI .i64 m'), (vI .i64 n')] = [(⟨m', n'⟩ : RV)].flatMap RV.cells) ((by first | rfl | (simp [RV.cells, GN.cells]; done) | (simp; omega)) : (List.length ([] : List RV)) + 1 = (List.length [(⟨m', n'⟩ : RV)]))
     have H85_ : Holds w79_ (ro R :: cl kb 104 [(vS ka kl kc), (vI .i64 m'), (vI .i64 n'), v32_] :: sl 106 4 v32_ (List.length (N0 ++ [(⟨1, m', n', v62_, [(⟨m', n'⟩ : RV)]⟩ : GN)])) ((N0 ++ [(⟨1, m', n', v62_, [(⟨m', n'⟩ : RV)]⟩ : GN)]).flatMap GN.cells) :: sl 58 2 v62_ (List.length [(⟨m', n'⟩ : RV)]) ([(⟨m', n'⟩ : RV)].flatMap RV.cells) :: F) := (Holds.pkF H84_ [2, 3, 3, 3] 3 :)
     exact ⟨_, _, rfl, ⟨v32_, v62_, [(⟨1, m', n', v62_, [(⟨m', n'⟩ : RV)]⟩ : GN)], [(⟨m', n'⟩ : RV)], rfl, rfl, (by rw [hN0_, hT0_]; exact iPut_nil), (Or.inr ⟨_, _, _, rfl⟩), (fun h_ => by cases h_)⟩, S82_, H85_⟩
    refine AllR.cons ?_ AllR.nil
    refine A_op (ls' := #[true, true, true, true, false, true, true, false, false, false, false]) rfl (by kernel_rfl) (T_new (obj := .cells #[(vI .i64 m'), (vI .i64 n')] 58) (f := fun b__ => .slice (some ⟨b__, 0, none⟩) 1 1) (A := fun b__ => cl b__ 58 [(vI .i64 m'), (vI .i64 n')]) (by kernel_rfl) (fun l h => h.alloc _ _) H55_ ?_)
    intro b86_ w87_ S89_ H88_
    have S90_ := Same.trans (Same.trans S52_ (Same.drew _)) S89_
    refine ⟨⟨Holds.rd H88_ 3 rfl, (Holds.ro_at H88_ 2 rfl)⟩, ?_⟩
    refine A_ready (i := 4) (rs := []) (by kernel_rfl) ?_
    refine AllR.cons ?_ AllR.nil
    refine A_op (ls' := #[true, true, true, true, true, true, true, false, false, false, false]) rfl (by kernel_rfl) (T_val (v := ((vS none 0 0))) (x_load1 rfl Try.underlying80 rfl ((Holds.slrd H88_ 5 rfl) _ _ (fm_cell GN.len (gat _ _) (i := 3) rfl))) ?_)
    refine ⟨⟨Holds.rd H88_ 3 rfl, (Holds.ro_at H88_ 2 rfl)⟩, ?_⟩
    refine A_ready (i := 7) (rs := []) (by kernel_rfl) ?_
    refine AllR.cons ?_ AllR.nil
    refine A_op (ls' := #[true, true, true, true, true, true, true, true, false, false, false]) rfl (by kernel_rfl) (T_append rfl rfl Try.underlying80 z58 rfl (by decide) H88_ 6 rfl (Holds.cl_src H88_ 0 rfl Try.underlying80 (by simp [Value.oneCell']) rfl) (by first | omega | (simp only [List.length_append, List.length_cons, List.length_nil]; omega)) ?_)
    intro v91_ w92_ S94_ H93_
    have S95_ := Same.trans S90_ S94_
    refine ⟨⟨Holds.rd H93_ 3 rfl, (Holds.ro_at H93_ 2 rfl)⟩, ?_⟩
    have hq96_ := And.intro (Holds.rd H93_ 3 rfl) ((Holds.ro_at H93_ 2 rfl))
    refine A_tk 8 (v := (vP (some ⟨(sb v32_), so v32_ + ((List.length N0) * 4 + 0), none⟩))) rfl (by kernel_rfl) (fun w hS => by kernel_rfl) hq96_ ?_
    refine A_tk 9 (v := (vP (some ⟨(sb v32_), so v32_ + ((List.length N0) * 4 + 3), none⟩))) rfl (by kernel_rfl) (fun w hS => by kernel_rfl) hq96_ ?_
    refine A_ready (i := 10) (rs := []) (by kernel_rfl) ?_
    refine AllR.cons ?_ AllR.nil
    refine A_op0 (ls' := #[true, true, true, true, true, true, true, true, true, true, true]) rfl (by kernel_rfl) (T_storeSl (v := v32_) (u := v91_) rfl rfl z80 (Holds.sl_one H93_ 6 rfl) H93_ 5 rfl (by first | omega | (rw [fm_len GN.len]; simp only [List.length_append, List.length_cons, List.length_nil]; omega)) rfl rfl ?_)
    intro w97_ S99_ H98_
    replace H98_ : Holds w97_ (cl b86_ 58 [(vI .i64 m'), (vI .i64 n')] :: cl b27_ 106 [(vI .i64 0), (vI .i64 0), (vI .i64 0), (vS none 0 0)] :: ro R :: cl b2_ 58 [(vI .i64 m'), (vI .i64 n')] :: cl kb 104 [(vS ka kl kc), (vI .i64 m), (vI .i64 n), v32_] :: sl 106 4 v32_ (List.length N0 + 1) (List.set ((N0 ++ [(⟨0, m', n', (vS none 0 0), ([] : List RV)⟩ : GN)]).flatMap GN.cells) ((List.length N0) * 4 + 3) v91_) :: sl 58 2 v91_ ((List.length ([] : List RV)) + 1) ((([] : List RV).flatMap RV.cells) ++ [(vI .i64 m'), (vI .i64 n')]) :: F) := H98_
    have S100_ := Same.trans S95_ S99_
    have H101_ := Holds.resl H98_ 5 rfl (gset rfl : List.set ((N0 ++ [(⟨0, m', n', (vS none 0 0), ([] : List RV)⟩ : GN)]).flatMap GN.cells) ((List.length N0) * 4 + 3) v91_ = (N0 ++ [(⟨0, m', n', v91_, [(⟨m', n'⟩ : RV)]⟩ : GN)]).flatMap GN.cells) (rfl : (List.length N0 + 1) = (List.length N0 + 1))
    refine ⟨⟨Holds.rd H101_ 3 rfl, (Holds.ro_at H101_ 2 rfl)⟩, ?_⟩
    refine A_done (by kernel_rfl) ?_
    refine (X_then (hK54_ _ _ ?_))
    clear hK54_
    refine C_seq (fun K102_ hK102_ => C_reg ?_)
    refine sv (v := (vP (some ⟨(sb v32_), so v32_ + ((List.length N0) * 4 + 0), none⟩))) (x_move rfl) ?_
    refine sv (v := (vP (some ⟨(sb v32_), so v32_ + ((List.length N0) * 4 + 0), none⟩))) (by kernel_rfl) ?_
    refine sv (v := (vP (some ⟨(sb v32_), so v32_ + ((List.length N0) * 4 + 0), none⟩))) (by kernel_rfl) ?_
    refine sv (v := (vI .i64 0)) (x_load1 rfl Try.underlying2 rfl ((Holds.slrd H101_ 5 rfl) _ _ (fm_cell GN.len (gat _ _) (i := 0) rfl))) ?_
    refine sv (v := (vI .i64 1)) (x_bin rfl rfl (by rfl)) ?_
    refine sv (v := (vP (some ⟨(sb v32_), so v32_ + ((List.length N0) * 4 + 0), none⟩))) (by kernel_rfl) ?_
    refine sv (v := (vP (some ⟨(sb v32_), so v32_ + ((List.length N0) * 4 + 0), none⟩))) (by kernel_rfl) ?_
    refine S_list0 (T_storeSl (v := v32_) (u := (vI .i64 1)) rfl rfl z2 rfl H101_ 5 rfl (by first | omega | (rw [fm_len GN.len]; simp only [List.length_append, List.length_cons, List.length_nil]; omega)) rfl rfl ?_)
    intro w103_ S105_ H104_
    have S106_ := Same.trans S100_ S105_
    have H107_ := Holds.resl H104_ 5 rfl (gset rfl : List.set ((N0 ++ [(⟨0, m', n', v91_, [(⟨m', n'⟩ : RV)]⟩ : GN)]).flatMap GN.cells) ((List.length N0) * 4 + 0) (vI .i64 1) = (N0 ++ [(⟨1, m', n', v91_, [(⟨m', n'⟩ : RV)]⟩ : GN)]).flatMap GN.cells) (rfl : (List.length N0 + 1) = (List.length N0 + 1))
    refine wpList_nil (X_then (hK102_ _ _ ?_))
    clear hK102_
    refine C_reg ?_
    refine sv (v := (vP (some ⟨kb, 0, none⟩))) (x_move rfl) ?_
    refine sv (v := (vA #[(vI .i64 m'), (vI .i64 n')])) (x_loadN (vs := [(vI .i64 m'), (vI .i64 n')]) rfl Try.underlying58 rfl z58 rfl (Rd.cells (Holds.rd H107_ 3 rfl) 0 rfl)) ?_
    refine sv (v := (vP (some ⟨kb, 0, none⟩))) (by kernel_rfl) ?_
    refine sv (v := (vP (some ⟨kb, 1, none⟩))) (by kernel_rfl) ?_
    refine S_list0 (T_storeN (vs := [(vI .i64 m'), (vI .i64 n')]) rfl rfl z58 rfl (by simp [Value.oneCell']) H107_ 4 rfl (Nat.le_of_ble_eq_true (by rfl)) ?_)
    intro w108_ S110_ H109_
    have S111_ := Same.trans S106_ S110_
    refine wpList_nil ?_
    refine R_0 rfl ?_
    have H112_ := Holds.resl H109_ 5 rfl ((by first | rfl | (simp [RV.cells, GN.cells]; done) | (simp; omega)) : (N0 ++ [(⟨1, m', n', v91_, [(⟨m', n'⟩ : RV)]⟩ : GN)]).flatMap GN.cells = (N0 ++ [(⟨1, m', n', v91_, [(⟨m', n'⟩ : RV)]⟩ : GN)]).flatMap GN.cells) ((by first | rfl | (simp [RV.cells, GN.cells]; done) | (simp; omega)) : (List.length N0 + 1) = (List.length (N0 ++ [(⟨1, m', n', v91_, [(⟨m', n'⟩ : RV)]⟩ : GN)])))
    have H113_ := Holds.resl H112_ 6 rfl ((by first | rfl | (simp [RV.cells, GN.cells]; done) | (simp; omega)) : (([] : List RV).flatMap RV.cells) ++ [(vI .i64 m'), (vI .i64 n')] = [(⟨m', n'⟩ : RV)].flatMap RV.cells) ((by first | rfl | (simp [RV.cells, GN.cells]; done) | (simp; omega)) : (List.length ([] : List RV)) + 1 = (List.length [(⟨m', n'⟩ : RV)]))
    have H114_ : Holds w108_ (ro R :: cl kb 104 [(vS ka kl kc), (vI .i64 m'), (vI .i64 n'), v32_] :: sl 106 4 v32_ (List.length (N0 ++ [(⟨1, m', n', v91_, [(⟨m', n'⟩ : RV)]⟩ : GN)])) ((N0 ++ [(⟨1, m', n', v91_, [(⟨m', n'⟩ : RV)]⟩ : GN)]).flatMap GN.cells) :: sl 58 2 v91_ (List.length [(⟨m', n'⟩ : RV)]) ([(⟨m', n'⟩ : RV)].flatMap RV.cells) :: F) := (Holds.pkF H113_ [2, 3, 3, 3] 3 :)
    exact ⟨_, _, rfl, ⟨v32_, v91_, [(⟨1, m', n', v91_, [(⟨m', n'⟩ : RV)]⟩ : GN)], [(⟨m', n'⟩ : RV)], rfl, rfl, (by rw [hN0_, hT0_]; exact iPut_nil), (Or.inr ⟨_, _, _, rfl⟩), (fun h_ => by cases h_)⟩, S111_, H114_⟩
   ·have c48_fp : ¬ (((List.length ([] : List RV)) : Int) = 0) := of_decide_eq_false c48_f
    exact absurd rfl c48_fp
  ·have c26_fp : ¬ (((List.length (N0 ++ T)) : Int) = 0) := of_decide_eq_false c26_f
   refine C_skip (X_then (hK24_ _ _ ?_))
   clear hK24_
   refine C_seq (fun K115_ hK115_ => ?_)
   refine A_start (S := fun w => Rd kb [(vS ka kl kc), (vI .i64 m), (vI .i64 n), gv] w ∧ SlRd lv (ll.flatMap RV.cells) w ∧ Sub R (hp w)) (N := 12) foll rfl rfl ?_
   have H116_ := Holds.drew_ H18_
   obtain ⟨ta, tb, tc, rfl⟩ := Tlk_some hT (fun e_ => by have e2_ := hTN e_; subst e_ e2_; simp_all)
   have hbt_ := hbv _ (List.mem_append_right _ (List.mem_singleton.2 rfl))
   have hbl_ := hbd; simp only [List.length_append, List.length_cons, List.length_nil] at hbl_ hbt_
   have H117_ := Holds.resl H116_ 3 rfl (rfl : (N0 ++ [(⟨ta, tb, tc, lv, ll⟩ : GN)]).flatMap GN.cells = (N0 ++ [(⟨ta, tb, tc, lv, ll⟩ : GN)]).flatMap GN.cells) (by simp : (List.length (N0 ++ [(⟨ta, tb, tc, lv, ll⟩ : GN)])) = (List.length N0 + 1))
   have hq118_ := And.intro (Holds.rd H117_ 2 rfl) (And.intro (Holds.slrd H117_ 4 rfl) ((Holds.ro_at H117_ 0 rfl)))
   refine A_tk 0 (v := (vP (some ⟨kb, 0, none⟩))) rfl (by kernel_rfl) (fun w hS => x_move rfl) hq118_ ?_
   refine A_tk 1 (v := (vP (some ⟨kb, 0, none⟩))) rfl (by kernel_rfl) (fun w hS => by kernel_rfl) hq118_ ?_
   refine A_tk 2 (v := (vP (some ⟨kb, 3, none⟩))) rfl (by kernel_rfl) (fun w hS => by kernel_rfl) hq118_ ?_
   refine A_tk 3 (v := gv) rfl (by kernel_rfl) (fun w hS => x_load1 rfl Try.underlying102 rfl (hS.1 3 gv rfl)) hq118_ ?_
   refine A_tk 4 (v := (vP (some ⟨kb, 0, none⟩))) rfl (by kernel_rfl) (fun w hS => x_move rfl) hq118_ ?_
   refine A_tk 5 (v := (vP (some ⟨kb, 0, none⟩))) rfl (by kernel_rfl) (fun w hS => by kernel_rfl) hq118_ ?_
   refine A_tk 6 (v := (vP (some ⟨kb, 3, none⟩))) rfl (by kernel_rfl) (fun w hS => by kernel_rfl) hq118_ ?_
   refine A_tk 7 (v := gv) rfl (by kernel_rfl) (fun w hS => x_load1 rfl Try.underlying102 rfl (hS.1 3 gv rfl)) hq118_ ?_
   refine A_ready (i := 8) (rs := []) (by kernel_rfl) ?_
   refine AllR.cons ?_ AllR.nil
   refine A_op (ls' := #[true, true, true, true, true, true, true, true, true, false, false, false]) rfl (by kernel_rfl) (T_val (v := (vI .i64 ((List.length N0 + 1) : Int))) (x_lenSl rfl H117_ 3 rfl Try.underlying102) ?_)
   refine ⟨⟨Holds.rd H117_ 2 rfl, Holds.slrd H117_ 4 rfl, (Holds.ro_at H117_ 0 rfl)⟩, ?_⟩
   refine A_tk 9 (v := (vI .i64 (((List.length N0 + 1) : Int) - 1))) rfl (by kernel_rfl) (fun w hS => x_bin rfl rfl (ib_sub (IntWalk.i64_in _ (by omega)))) hq118_ ?_
   have hr119_ := Holds.sl_RSw H117_ 3 rfl
   refine A_tk 10 (v := (vP (some ⟨(sb gv), so gv + ((List.length N0) * 4 + 0), none⟩))) rfl (by kernel_rfl) (fun w hS => x_idxSlR (v := gv) rfl hr119_ rfl Try.underlying102 z106 (by omega) (by omega) (by omega : _ = List.length N0) rfl) hq118_ ?_
   refine A_tk 11 (v := (vP (some ⟨(sb gv), so gv + ((List.length N0) * 4 + 0), none⟩))) rfl (by kernel_rfl) (fun w hS => x_assign rfl) hq118_ ?_
   refine A_done (by kernel_rfl) ?_
   refine (X_then (hK115_ _ _ ?_))
   clear hK115_
   refine C_seq (fun K120_ hK120_ => ?_)
   refine C_seq (fun K121_ hK121_ => C_reg ?_)
   refine sv (v := (vP (some ⟨(sb gv), so gv + ((List.length N0) * 4 + 0), none⟩))) (x_move rfl) ?_
   refine sv (v := (vP (some ⟨(sb gv), so gv + ((List.length N0) * 4 + 0), none⟩))) (by kernel_rfl) ?_
   refine sv (v := (vP (some ⟨(sb gv), so gv + ((List.length N0) * 4 + 3), none⟩))) (by kernel_rfl) ?_
   refine sv (v := lv) (x_load1 rfl Try.underlying80 rfl ((Holds.slrd H117_ 3 rfl) _ _ (fm_cell GN.len (gat _ _) (i := 3) rfl))) ?_
   refine sv (v := (vI .i64 ((List.length ll) : Int))) (x_lenSl rfl H117_ 4 rfl Try.underlying80) ?_
   refine sv (v := (vB (decide (((List.length ll) : Int) = 0)))) (x_bin rfl rfl rfl) ?_
   refine wpList_nil (X_then (hK121_ _ _ ?_))
   clear hK121_
   refine C_cond (b := decide (((List.length ll) : Int) = 0)) rfl (fun c122_t => ?_) (fun c122_f => ?_)
   ·have c122_tp : ((List.length ll) : Int) = 0 := of_decide_eq_true c122_t
    refine C_reg ?_
    refine sv (v := (vP (some ⟨(sb gv), so gv + ((List.length N0) * 4 + 0), none⟩))) (x_move rfl) ?_
    refine sv (v := (vA #[(vI .i64 m'), (vI .i64 n')])) (x_loadN (vs := [(vI .i64 m'), (vI .i64 n')]) rfl Try.underlying58 rfl z58 rfl (Rd.cells (Holds.rd H117_ 1 rfl) 0 rfl)) ?_
    refine sv (v := (vP (some ⟨(sb gv), so gv + ((List.length N0) * 4 + 0), none⟩))) (by kernel_rfl) ?_
    refine sv (v := (vP (some ⟨(sb gv), so gv + ((List.length N0) * 4 + 1), none⟩))) (by kernel_rfl) ?_
    refine S_list0 (T_storeSlN (vs := [(vI .i64 m'), (vI .i64 n')]) (k := (List.length N0) * 4 + 1) rfl rfl z58 rfl (by simp [Value.oneCell']) H117_ 3 rfl (by first | omega | (rw [fm_len GN.len]; simp only [List.length_append, List.length_cons, List.length_nil]; omega)) (Nat.zero_lt_succ _) rfl rfl ?_)
    intro w123_ S125_ H124_
    have S126_ := Same.trans (Same.trans S21_ (Same.drew _)) S125_
    have H127_ := Holds.resl H124_ 3 rfl (gsetN rfl : List.take ((List.length N0) * 4 + 1) ((N0 ++ [(⟨ta, tb, tc, lv, ll⟩ : GN)]).flatMap GN.cells) ++ [(vI .i64 m'), (vI .i64 n')] ++ List.drop ((List.length N0) * 4 + 1 + List.length [(vI .i64 m'), (vI .i64 n')]) ((N0 ++ [(⟨ta, tb, tc, lv, ll⟩ : GN)]).flatMap GN.cells) = (N0 ++ [(⟨ta, m', n', lv, ll⟩ : GN)]).flatMap GN.cells) (rfl : (List.length N0 + 1) = (List.length N0 + 1))
    refine wpList_nil (X_then (hK120_ _ _ ?_))
    clear hK120_
    refine C_seq (fun K128_ hK128_ => ?_)
    refine A_start (S := fun w => Rd b2_ [(vI .i64 m'), (vI .i64 n')] w ∧ Sub R (hp w)) (N := 11) foll rfl rfl ?_
    have H129_ := Holds.drew_ H127_
    have hq130_ := And.intro (Holds.rd H129_ 1 rfl) ((Holds.ro_at H129_ 0 rfl))
    refine A_tk 0 (v := (vP (some ⟨(sb gv), so gv + ((List.length N0) * 4 + 0), none⟩))) rfl (by kernel_rfl) (fun w hS => x_move rfl) hq130_ ?_
    refine A_tk 1 (v := (vP (some ⟨(sb gv), so gv + ((List.length N0) * 4 + 0), none⟩))) rfl (by kernel_rfl) (fun w hS => x_move rfl) hq130_ ?_
    refine A_tk 2 (v := (vP (some ⟨(sb gv), so gv + ((List.length N0) * 4 + 0), none⟩))) rfl (by kernel_rfl) (fun w hS => by kernel_rfl) hq130_ ?_
    refine A_tk 3 (v := (vP (some ⟨(sb gv), so gv + ((List.length N0) * 4 + 3), none⟩))) rfl (by kernel_rfl) (fun w hS => by kernel_rfl) hq130_ ?_
    refine A_tk 5 (v := (vA #[(vI .i64 m'), (vI .i64 n')])) rfl (by kernel_rfl) (fun w hS => x_loadN (vs := [(vI .i64 m'), (vI .i64 n')]) rfl Try.underlying58 rfl z58 rfl (Rd.cells hS.1 0 rfl)) hq130_ ?_
    refine A_ready (i := 4) (rs := [6]) (by kernel_rfl) ?_
    refine AllR.cons ?_ ?_
    ·skip
     refine A_op (ls' := #[true, true, true, true, true, true, false, false, false, false, false]) rfl (by kernel_rfl) (T_val (v := lv) (x_load1 rfl Try.underlying80 rfl ((Holds.slrd H129_ 3 rfl) _ _ (fm_cell GN.len (gat _ _) (i := 3) rfl))) ?_)
     refine ⟨⟨Holds.rd H129_ 1 rfl, (Holds.ro_at H129_ 0 rfl)⟩, ?_⟩
     refine A_ready (i := 6) (rs := []) (by kernel_rfl) ?_
     refine AllR.cons ?_ AllR.nil
     refine A_op (ls' := #[true, true, true, true, true, true, true, false, false, false, false]) rfl (by kernel_rfl) (T_new (obj := .cells #[(vI .i64 m'), (vI .i64 n')] 58) (f := fun b__ => .slice (some ⟨b__, 0, none⟩) 1 1) (A := fun b__ => cl b__ 58 [(vI .i64 m'), (vI .i64 n')]) (by kernel_rfl) (fun l h => h.alloc _ _) H129_ ?_)
     intro b131_ w132_ S134_ H133_
     have S135_ := Same.trans (Same.trans S126_ (Same.drew _)) S134_
     refine ⟨⟨Holds.rd H133_ 2 rfl, (Holds.ro_at H133_ 1 rfl)⟩, ?_⟩
     refine A_ready (i := 7) (rs := []) (by kernel_rfl) ?_
     refine AllR.cons ?_ AllR.nil
     refine A_op (ls' := #[true, true, true, true, true, true, true, true, false, false, false]) rfl (by kernel_rfl) (T_append rfl rfl Try.underlying80 z58 rfl (by decide) H133_ 5 rfl (Holds.cl_src H133_ 0 rfl Try.underlying80 (by simp [Value.oneCell']) rfl) (by first | omega | (simp only [List.length_append, List.length_cons, List.length_nil]; omega)) ?_)
     intro v136_ w137_ S139_ H138_
     have S140_ := Same.trans S135_ S139_
     refine ⟨⟨Holds.rd H138_ 2 rfl, (Holds.ro_at H138_ 1 rfl)⟩, ?_⟩
     have hq141_ := And.intro (Holds.rd H138_ 2 rfl) ((Holds.ro_at H138_ 1 rfl))
     refine A_tk 8 (v := (vP (some ⟨(sb gv), so gv + ((List.length N0) * 4 + 0), none⟩))) rfl (by kernel_rfl) (fun w hS => by kernel_rfl) hq141_ ?_
     refine A_tk 9 (v := (vP (some ⟨(sb gv), so gv + ((List.length N0) * 4 + 3), none⟩))) rfl (by kernel_rfl) (fun w hS => by kernel_rfl) hq141_ ?_
     refine A_ready (i := 10) (rs := []) (by kernel_rfl) ?_
     refine AllR.cons ?_ AllR.nil
     refine A_op0 (ls' := #[true, true, true, true, true, true, true, true, true, true, true]) rfl (by kernel_rfl) (T_storeSl (v := gv) (u := v136_) rfl rfl z80 (Holds.sl_one H138_ 5 rfl) H138_ 4 rfl (by first | omega | (rw [fm_len GN.len]; simp only [List.length_append, List.length_cons, List.length_nil]; omega)) rfl rfl ?_)
     intro w142_ S144_ H143_
     replace H143_ : Holds w142_ (cl b131_ 58 [(vI .i64 m'), (vI .i64 n')] :: ro R :: cl b2_ 58 [(vI .i64 m'), (vI .i64 n')] :: cl kb 104 [(vS ka kl kc), (vI .i64 m), (vI .i64 n), gv] :: sl 106 4 gv (List.length N0 + 1) (List.set ((N0 ++ [(⟨ta, m', n', lv, ll⟩ : GN)]).flatMap GN.cells) ((List.length N0) * 4 + 3) v136_) :: sl 58 2 v136_ ((List.length ll) + 1) ((ll.flatMap RV.cells) ++ [(vI .i64 m'), (vI .i64 n')]) :: F) := H143_
     have S145_ := Same.trans S140_ S144_
     have H146_ := Holds.resl H143_ 4 rfl (gset rfl : List.set ((N0 ++ [(⟨ta, m', n', lv, ll⟩ : GN)]).flatMap GN.cells) ((List.length N0) * 4 + 3) v136_ = (N0 ++ [(⟨ta, m', n', v136_, (ll ++ [(⟨m', n'⟩ : RV)])⟩ : GN)]).flatMap GN.cells) (rfl : (List.length N0 + 1) = (List.length N0 + 1))
     refine ⟨⟨Holds.rd H146_ 2 rfl, (Holds.ro_at H146_ 1 rfl)⟩, ?_⟩
     refine A_done (by kernel_rfl) ?_
     refine (X_then (hK128_ _ _ ?_))
     clear hK128_
     refine C_seq (fun K147_ hK147_ => C_reg ?_)
     refine sv (v := (vP (some ⟨(sb gv), so gv + ((List.length N0) * 4 + 0), none⟩))) (x_move rfl) ?_
     refine sv (v := (vP (some ⟨(sb gv), so gv + ((List.length N0) * 4 + 0), none⟩))) (by kernel_rfl) ?_
     refine sv (v := (vP (some ⟨(sb gv), so gv + ((List.length N0) * 4 + 0), none⟩))) (by kernel_rfl) ?_
     refine sv (v := (vI .i64 ta)) (x_load1 rfl Try.underlying2 rfl ((Holds.slrd H146_ 4 rfl) _ _ (fm_cell GN.len (gat _ _) (i := 0) rfl))) ?_
     refine sv (v := (vI .i64 (ta + 1))) (x_bin rfl rfl (ib_add (IntWalk.i64_in _ (by omega)))) ?_
     refine sv (v := (vP (some ⟨(sb gv), so gv + ((List.length N0) * 4 + 0), none⟩))) (by kernel_rfl) ?_
     refine sv (v := (vP (some ⟨(sb gv), so gv + ((List.length N0) * 4 + 0), none⟩))) (by kernel_rfl) ?_
     refine S_list0 (T_storeSl (v := gv) (u := (vI .i64 (ta + 1))) rfl rfl z2 rfl H146_ 4 rfl (by first | omega | (rw [fm_len GN.len]; simp only [List.length_append, List.length_cons, List.length_nil]; omega)) rfl rfl ?_)
     intro w148_ S150_ H149_
     have S151_ := Same.trans S145_ S150_
     have H152_ := Holds.resl H149_ 4 rfl (gset rfl : List.set ((N0 ++ [(⟨ta, m', n', v136_, (ll ++ [(⟨m', n'⟩ : RV)])⟩ : GN)]).flatMap GN.cells) ((List.length N0) * 4 + 0) (vI .i64 (ta + 1)) = (N0 ++ [(⟨(ta + 1), m', n', v136_, (ll ++ [(⟨m', n'⟩ : RV)])⟩ : GN)]).flatMap GN.cells) (rfl : (List.length N0 + 1) = (List.length N0 + 1))
     refine wpList_nil (X_then (hK147_ _ _ ?_))
     clear hK147_
     refine C_reg ?_
     refine sv (v := (vP (some ⟨kb, 0, none⟩))) (x_move rfl) ?_
     refine sv (v := (vA #[(vI .i64 m'), (vI .i64 n')])) (x_loadN (vs := [(vI .i64 m'), (vI .i64 n')]) rfl Try.underlying58 rfl z58 rfl (Rd.cells (Holds.rd H152_ 2 rfl) 0 rfl)) ?_
     refine sv (v := (vP (some ⟨kb, 0, none⟩))) (by kernel_rfl) ?_
     refine sv (v := (vP (some ⟨kb, 1, none⟩))) (by kernel_rfl) ?_
     refine S_list0 (T_storeN (vs := [(vI .i64 m'), (vI .i64 n')]) rfl rfl z58 rfl (by simp [Value.oneCell']) H152_ 3 rfl (Nat.le_of_ble_eq_true (by rfl)) ?_)
     intro w153_ S155_ H154_
     have S156_ := Same.trans S151_ S155_
     refine wpList_nil ?_
     refine R_0 rfl ?_
     have H157_ := Holds.resl H154_ 4 rfl ((by first | rfl | (simp [RV.cells, GN.cells]; done) | (simp; omega)) : (N0 ++ [(⟨(ta + 1), m', n', v136_, (ll ++ [(⟨m', n'⟩ : RV)])⟩ : GN)]).flatMap GN.cells = (N0 ++ [(⟨(ta + 1), m', n', v136_, (ll ++ [(⟨m', n'⟩ : RV)])⟩ : GN)]).flatMap GN.cells) ((by first | rfl | (simp [RV.cells, GN.cells]; done) | (simp; omega)) : (List.length N0 + 1) = (List.length (N0 ++ [(⟨(ta + 1), m', n', v136_, (ll ++ [(⟨m', n'⟩ : RV)])⟩ : GN)])))
     have H158_ := Holds.resl H157_ 5 rfl ((by first | rfl | (simp [RV.cells, GN.cells]; done) | (simp; omega)) : (ll.flatMap RV.cells) ++ [(vI .i64 m'), (vI .i64 n')] = (ll ++ [(⟨m', n'⟩ : RV)]).flatMap RV.cells) ((by first | rfl | (simp [RV.cells, GN.cells]; done) | (simp; omega)) : (List.length ll) + 1 = (List.length (ll ++ [(⟨m', n'⟩ : RV)])))
     have H159_ : Holds w153_ (ro R :: cl kb 104 [(vS ka kl kc), (vI .i64 m'), (vI .i64 n'), gv] :: sl 106 4 gv (List.length (N0 ++ [(⟨(ta + 1), m', n', v136_, (ll ++ [(⟨m', n'⟩ : RV)])⟩ : GN)])) ((N0 ++ [(⟨(ta + 1), m', n', v136_, (ll ++ [(⟨m', n'⟩ : RV)])⟩ : GN)]).flatMap GN.cells) :: sl 58 2 v136_ (List.length (ll ++ [(⟨m', n'⟩ : RV)])) ((ll ++ [(⟨m', n'⟩ : RV)]).flatMap RV.cells) :: F) := (Holds.pkF H158_ [1, 2, 2, 2] 2 :)
     exact ⟨_, _, rfl, ⟨gv, v136_, [(⟨(ta + 1), m', n', v136_, (ll ++ [(⟨m', n'⟩ : RV)])⟩ : GN)], (ll ++ [(⟨m', n'⟩ : RV)]), rfl, rfl, (iPut_first c122_tp), (Or.inr ⟨_, _, _, rfl⟩), (fun h_ => by cases h_)⟩, S156_, H159_⟩
    refine AllR.cons ?_ AllR.nil
    refine A_op (ls' := #[true, true, true, true, false, true, true, false, false, false, false]) rfl (by kernel_rfl) (T_new (obj := .cells #[(vI .i64 m'), (vI .i64 n')] 58) (f := fun b__ => .slice (some ⟨b__, 0, none⟩) 1 1) (A := fun b__ => cl b__ 58 [(vI .i64 m'), (vI .i64 n')]) (by kernel_rfl) (fun l h => h.alloc _ _) H129_ ?_)
    intro b160_ w161_ S163_ H162_
    have S164_ := Same.trans (Same.trans S126_ (Same.drew _)) S163_
    refine ⟨⟨Holds.rd H162_ 2 rfl, (Holds.ro_at H162_ 1 rfl)⟩, ?_⟩
    refine A_ready (i := 4) (rs := []) (by kernel_rfl) ?_
    refine AllR.cons ?_ AllR.nil
    refine A_op (ls' := #[true, true, true, true, true, true, true, false, false, false, false]) rfl (by kernel_rfl) (T_val (v := lv) (x_load1 rfl Try.underlying80 rfl ((Holds.slrd H162_ 4 rfl) _ _ (fm_cell GN.len (gat _ _) (i := 3) rfl))) ?_)
    refine ⟨⟨Holds.rd H162_ 2 rfl, (Holds.ro_at H162_ 1 rfl)⟩, ?_⟩
    refine A_ready (i := 7) (rs := []) (by kernel_rfl) ?_
    refine AllR.cons ?_ AllR.nil
    refine A_op (ls' := #[true, true, true, true, true, true, true, true, false, false, false]) rfl (by kernel_rfl) (T_append rfl rfl Try.underlying80 z58 rfl (by decide) H162_ 5 rfl (Holds.cl_src H162_ 0 rfl Try.underlying80 (by simp [Value.oneCell']) rfl) (by first | omega | (simp only [List.length_append, List.length_cons, List.length_nil]; omega)) ?_)
    intro v165_ w166_ S168_ H167_
    have S169_ := Same.trans S164_ S168_
    refine ⟨⟨Holds.rd H167_ 2 rfl, (Holds.ro_at H167_ 1 rfl)⟩, ?_⟩
    have hq170_ := And.intro (Holds.rd H167_ 2 rfl) ((Holds.ro_at H167_ 1 rfl))
    refine A_tk 8 (v := (vP (some ⟨(sb gv), so gv + ((List.length N0) * 4 + 0), none⟩))) rfl (by kernel_rfl) (fun w hS => by kernel_rfl) hq170_ ?_
    refine A_tk 9 (v := (vP (some ⟨(sb gv), so gv + ((List.length N0) * 4 + 3), none⟩))) rfl (by kernel_rfl) (fun w hS => by kernel_rfl) hq170_ ?_
    refine A_ready (i := 10) (rs := []) (by kernel_rfl) ?_
    refine AllR.cons ?_ AllR.nil
    refine A_op0 (ls' := #[true, true, true, true, true, true, true, true, true, true, true]) rfl (by kernel_rfl) (T_storeSl (v := gv) (u := v165_) rfl rfl z80 (Holds.sl_one H167_ 5 rfl) H167_ 4 rfl (by first | omega | (rw [fm_len GN.len]; simp only [List.length_append, List.length_cons, List.length_nil]; omega)) rfl rfl ?_)
    intro w171_ S173_ H172_
    replace H172_ : Holds w171_ (cl b160_ 58 [(vI .i64 m'), (vI .i64 n')] :: ro R :: cl b2_ 58 [(vI .i64 m'), (vI .i64 n')] :: cl kb 104 [(vS ka kl kc), (vI .i64 m), (vI .i64 n), gv] :: sl 106 4 gv (List.length N0 + 1) (List.set ((N0 ++ [(⟨ta, m', n', lv, ll⟩ : GN)]).flatMap GN.cells) ((List.length N0) * 4 + 3) v165_) :: sl 58 2 v165_ ((List.length ll) + 1) ((ll.flatMap RV.cells) ++ [(vI .i64 m'), (vI .i64 n')]) :: F) := H172_
    have S174_ := Same.trans S169_ S173_
    have H175_ := Holds.resl H172_ 4 rfl (gset rfl : List.set ((N0 ++ [(⟨ta, m', n', lv, ll⟩ : GN)]).flatMap GN.cells) ((List.length N0) * 4 + 3) v165_ = (N0 ++ [(⟨ta, m', n', v165_, (ll ++ [(⟨m', n'⟩ : RV)])⟩ : GN)]).flatMap GN.cells) (rfl : (List.length N0 + 1) = (List.length N0 + 1))
    refine ⟨⟨Holds.rd H175_ 2 rfl, (Holds.ro_at H175_ 1 rfl)⟩, ?_⟩
    refine A_done (by kernel_rfl) ?_
    refine (X_then (hK128_ _ _ ?_))
    clear hK128_
    refine C_seq (fun K176_ hK176_ => C_reg ?_)
    refine sv (v := (vP (some ⟨(sb gv), so gv + ((List.length N0) * 4 + 0), none⟩))) (x_move rfl) ?_
    refine sv (v := (vP (some ⟨(sb gv), so gv + ((List.length N0) * 4 + 0), none⟩))) (by kernel_rfl) ?_
    refine sv (v := (vP (some ⟨(sb gv), so gv + ((List.length N0) * 4 + 0), none⟩))) (by kernel_rfl) ?_
    refine sv (v := (vI .i64 ta)) (x_load1 rfl Try.underlying2 rfl ((Holds.slrd H175_ 4 rfl) _ _ (fm_cell GN.len (gat _ _) (i := 0) rfl))) ?_
    refine sv (v := (vI .i64 (ta + 1))) (x_bin rfl rfl (ib_add (IntWalk.i64_in _ (by omega)))) ?_
    refine sv (v := (vP (some ⟨(sb gv), so gv + ((List.length N0) * 4 + 0), none⟩))) (by kernel_rfl) ?_
    refine sv (v := (vP (some ⟨(sb gv), so gv + ((List.length N0) * 4 + 0), none⟩))) (by kernel_rfl) ?_
    refine S_list0 (T_storeSl (v := gv) (u := (vI .i64 (ta + 1))) rfl rfl z2 rfl H175_ 4 rfl (by first | omega | (rw [fm_len GN.len]; simp only [List.length_append, List.length_cons, List.length_nil]; omega)) rfl rfl ?_)
    intro w177_ S179_ H178_
    have S180_ := Same.trans S174_ S179_
    have H181_ := Holds.resl H178_ 4 rfl (gset rfl : List.set ((N0 ++ [(⟨ta, m', n', v165_, (ll ++ [(⟨m', n'⟩ : RV)])⟩ : GN)]).flatMap GN.cells) ((List.length N0) * 4 + 0) (vI .i64 (ta + 1)) = (N0 ++ [(⟨(ta + 1), m', n', v165_, (ll ++ [(⟨m', n'⟩ : RV)])⟩ : GN)]).flatMap GN.cells) (rfl : (List.length N0 + 1) = (List.length N0 + 1))
    refine wpList_nil (X_then (hK176_ _ _ ?_))
    clear hK176_
    refine C_reg ?_
    refine sv (v := (vP (some ⟨kb, 0, none⟩))) (x_move rfl) ?_
    refine sv (v := (vA #[(vI .i64 m'), (vI .i64 n')])) (x_loadN (vs := [(vI .i64 m'), (vI .i64 n')]) rfl Try.underlying58 rfl z58 rfl (Rd.cells (Holds.rd H181_ 2 rfl) 0 rfl)) ?_
    refine sv (v := (vP (some ⟨kb, 0, none⟩))) (by kernel_rfl) ?_
    refine sv (v := (vP (some ⟨kb, 1, none⟩))) (by kernel_rfl) ?_
    refine S_list0 (T_storeN (vs := [(vI .i64 m'), (vI .i64 n')]) rfl rfl z58 rfl (by simp [Value.oneCell']) H181_ 3 rfl (Nat.le_of_ble_eq_true (by rfl)) ?_)
    intro w182_ S184_ H183_
    have S185_ := Same.trans S180_ S184_
    refine wpList_nil ?_
    refine R_0 rfl ?_
    have H186_ := Holds.resl H183_ 4 rfl ((by first | rfl | (simp [RV.cells, GN.cells]; done) | (simp; omega)) : (N0 ++ [(⟨(ta + 1), m', n', v165_, (ll ++ [(⟨m', n'⟩ : RV)])⟩ : GN)]).flatMap GN.cells = (N0 ++ [(⟨(ta + 1), m', n', v165_, (ll ++ [(⟨m', n'⟩ : RV)])⟩ : GN)]).flatMap GN.cells) ((by first | rfl | (simp [RV.cells, GN.cells]; done) | (simp; omega)) : (List.length N0 + 1) = (List.length (N0 ++ [(⟨(ta + 1), m', n', v165_, (ll ++ [(⟨m', n'⟩ : RV)])⟩ : GN)])))
    have H187_ := Holds.resl H186_ 5 rfl ((by first | rfl | (simp [RV.cells, GN.cells]; done) | (simp; omega)) : (ll.flatMap RV.cells) ++ [(vI .i64 m'), (vI .i64 n')] = (ll ++ [(⟨m', n'⟩ : RV)]).flatMap RV.cells) ((by first | rfl | (simp [RV.cells, GN.cells]; done) | (simp; omega)) : (List.length ll) + 1 = (List.length (ll ++ [(⟨m', n'⟩ : RV)])))
    have H188_ : Holds w182_ (ro R :: cl kb 104 [(vS ka kl kc), (vI .i64 m'), (vI .i64 n'), gv] :: sl 106 4 gv (List.length (N0 ++ [(⟨(ta + 1), m', n', v165_, (ll ++ [(⟨m', n'⟩ : RV)])⟩ : GN)])) ((N0 ++ [(⟨(ta + 1), m', n', v165_, (ll ++ [(⟨m', n'⟩ : RV)])⟩ : GN)]).flatMap GN.cells) :: sl 58 2 v165_ (List.length (ll ++ [(⟨m', n'⟩ : RV)])) ((ll ++ [(⟨m', n'⟩ : RV)]).flatMap RV.cells) :: F) := (Holds.pkF H187_ [1, 2, 2, 2] 2 :)
    exact ⟨_, _, rfl, ⟨gv, v165_, [(⟨(ta + 1), m', n', v165_, (ll ++ [(⟨m', n'⟩ : RV)])⟩ : GN)], (ll ++ [(⟨m', n'⟩ : RV)]), rfl, rfl, (iPut_first c122_tp), (Or.inr ⟨_, _, _, rfl⟩), (fun h_ => by cases h_)⟩, S185_, H188_⟩
   ·have c122_fp : ¬ (((List.length ll) : Int) = 0) := of_decide_eq_false c122_f
    refine C_skip (X_then (hK120_ _ _ ?_))
    clear hK120_
    refine C_seq (fun K189_ hK189_ => ?_)
    refine A_start (S := fun w => Rd b2_ [(vI .i64 m'), (vI .i64 n')] w ∧ Sub R (hp w)) (N := 11) foll rfl rfl ?_
    have H190_ := Holds.drew_ H117_
    have hq191_ := And.intro (Holds.rd H190_ 1 rfl) ((Holds.ro_at H190_ 0 rfl))
    refine A_tk 0 (v := (vP (some ⟨(sb gv), so gv + ((List.length N0) * 4 + 0), none⟩))) rfl (by kernel_rfl) (fun w hS => x_move rfl) hq191_ ?_
    refine A_tk 1 (v := (vP (some ⟨(sb gv), so gv + ((List.length N0) * 4 + 0), none⟩))) rfl (by kernel_rfl) (fun w hS => x_move rfl) hq191_ ?_
    refine A_tk 2 (v := (vP (some ⟨(sb gv), so gv + ((List.length N0) * 4 + 0), none⟩))) rfl (by kernel_rfl) (fun w hS => by kernel_rfl) hq191_ ?_
    refine A_tk 3 (v := (vP (some ⟨(sb gv), so gv + ((List.length N0) * 4 + 3), none⟩))) rfl (by kernel_rfl) (fun w hS => by kernel_rfl) hq191_ ?_
    refine A_tk 5 (v := (vA #[(vI .i64 m'), (vI .i64 n')])) rfl (by kernel_rfl) (fun w hS => x_loadN (vs := [(vI .i64 m'), (vI .i64 n')]) rfl Try.underlying58 rfl z58 rfl (Rd.cells hS.1 0 rfl)) hq191_ ?_
    refine A_ready (i := 4) (rs := [6]) (by kernel_rfl) ?_
    refine AllR.cons ?_ ?_
    ·skip
     refine A_op (ls' := #[true, true, true, true, true, true, false, false, false, false, false]) rfl (by kernel_rfl) (T_val (v := lv) (x_load1 rfl Try.underlying80 rfl ((Holds.slrd H190_ 3 rfl) _ _ (fm_cell GN.len (gat _ _) (i := 3) rfl))) ?_)
     refine ⟨⟨Holds.rd H190_ 1 rfl, (Holds.ro_at H190_ 0 rfl)⟩, ?_⟩
     refine A_ready (i := 6) (rs := []) (by kernel_rfl) ?_
     refine AllR.cons ?_ AllR.nil
     refine A_op (ls' := #[true, true, true, true, true, true, true, false, false, false, false]) rfl (by kernel_rfl) (T_new (obj := .cells #[(vI .i64 m'), (vI .i64 n')] 58) (f := fun b__ => .slice (some ⟨b__, 0, none⟩) 1 1) (A := fun b__ => cl b__ 58 [(vI .i64 m'), (vI .i64 n')]) (by kernel_rfl) (fun l h => h.alloc _ _) H190_ ?_)
     intro b192_ w193_ S195_ H194_
     replace H194_ : Holds w193_ (cl b192_ 58 [(vI .i64 m'), (vI .i64 n')] :: ro R :: cl b2_ 58 [(vI .i64 m'), (vI .i64 n')] :: cl kb 104 [(vS ka kl kc), (vI .i64 m), (vI .i64 n), gv] :: sl 106 4 gv (List.length N0 + 1) ((N0 ++ [(⟨ta, tb, tc, lv, ll⟩ : GN)]).flatMap GN.cells) :: sl 58 2 lv (List.length ll) (ll.flatMap RV.cells) :: F) := H194_
     have S196_ := Same.trans (Same.trans (Same.trans S21_ (Same.drew _)) (Same.drew _)) S195_
     refine ⟨⟨Holds.rd H194_ 2 rfl, (Holds.ro_at H194_ 1 rfl)⟩, ?_⟩
     refine A_ready (i := 7) (rs := []) (by kernel_rfl) ?_
     refine AllR.cons ?_ AllR.nil
     refine A_op (ls' := #[true, true, true, true, true, true, true, true, false, false, false]) rfl (by kernel_rfl) (T_append rfl rfl Try.underlying80 z58 rfl (by decide) H194_ 5 rfl (Holds.cl_src H194_ 0 rfl Try.underlying80 (by simp [Value.oneCell']) rfl) (by first | omega | (simp only [List.length_append, List.length_cons, List.length_nil]; omega)) ?_)
     intro v197_ w198_ S200_ H199_
     have S201_ := Same.trans S196_ S200_
     refine ⟨⟨Holds.rd H199_ 2 rfl, (Holds.ro_at H199_ 1 rfl)⟩, ?_⟩
     have hq202_ := And.intro (Holds.rd H199_ 2 rfl) ((Holds.ro_at H199_ 1 rfl))
     refine A_tk 8 (v := (vP (some ⟨(sb gv), so gv + ((List.length N0) * 4 + 0), none⟩))) rfl (by kernel_rfl) (fun w hS => by kernel_rfl) hq202_ ?_
     refine A_tk 9 (v := (vP (some ⟨(sb gv), so gv + ((List.length N0) * 4 + 3), none⟩))) rfl (by kernel_rfl) (fun w hS => by kernel_rfl) hq202_ ?_
     refine A_ready (i := 10) (rs := []) (by kernel_rfl) ?_
     refine AllR.cons ?_ AllR.nil
     refine A_op0 (ls' := #[true, true, true, true, true, true, true, true, true, true, true]) rfl (by kernel_rfl) (T_storeSl (v := gv) (u := v197_) rfl rfl z80 (Holds.sl_one H199_ 5 rfl) H199_ 4 rfl (by first | omega | (rw [fm_len GN.len]; simp only [List.length_append, List.length_cons, List.length_nil]; omega)) rfl rfl ?_)
     intro w203_ S205_ H204_
     have S206_ := Same.trans S201_ S205_
     have H207_ := Holds.resl H204_ 4 rfl (gset rfl : List.set ((N0 ++ [(⟨ta, tb, tc, lv, ll⟩ : GN)]).flatMap GN.cells) ((List.length N0) * 4 + 3) v197_ = (N0 ++ [(⟨ta, tb, tc, v197_, (ll ++ [(⟨m', n'⟩ : RV)])⟩ : GN)]).flatMap GN.cells) (rfl : (List.length N0 + 1) = (List.length N0 + 1))
     refine ⟨⟨Holds.rd H207_ 2 rfl, (Holds.ro_at H207_ 1 rfl)⟩, ?_⟩
     refine A_done (by kernel_rfl) ?_
     refine (X_then (hK189_ _ _ ?_))
     clear hK189_
     refine C_seq (fun K208_ hK208_ => C_reg ?_)
     refine sv (v := (vP (some ⟨(sb gv), so gv + ((List.length N0) * 4 + 0), none⟩))) (x_move rfl) ?_
     refine sv (v := (vP (some ⟨(sb gv), so gv + ((List.length N0) * 4 + 0), none⟩))) (by kernel_rfl) ?_
     refine sv (v := (vP (some ⟨(sb gv), so gv + ((List.length N0) * 4 + 0), none⟩))) (by kernel_rfl) ?_
     refine sv (v := (vI .i64 ta)) (x_load1 rfl Try.underlying2 rfl ((Holds.slrd H207_ 4 rfl) _ _ (fm_cell GN.len (gat _ _) (i := 0) rfl))) ?_
     refine sv (v := (vI .i64 (ta + 1))) (x_bin rfl rfl (ib_add (IntWalk.i64_in _ (by omega)))) ?_
     refine sv (v := (vP (some ⟨(sb gv), so gv + ((List.length N0) * 4 + 0), none⟩))) (by kernel_rfl) ?_
     refine sv (v := (vP (some ⟨(sb gv), so gv + ((List.length N0) * 4 + 0), none⟩))) (by kernel_rfl) ?_
     refine S_list0 (T_storeSl (v := gv) (u := (vI .i64 (ta + 1))) rfl rfl z2 rfl H207_ 4 rfl (by first | omega | (rw [fm_len GN.len]; simp only [List.length_append, List.length_cons, List.length_nil]; omega)) rfl rfl ?_)
     intro w209_ S211_ H210_
     replace H210_ : Holds w209_ (cl b192_ 58 [(vI .i64 m'), (vI .i64 n')] :: ro R :: cl b2_ 58 [(vI .i64 m'), (vI .i64 n')] :: cl kb 104 [(vS ka kl kc), (vI .i64 m), (vI .i64 n), gv] :: sl 106 4 gv (List.length N0 + 1) (List.set ((N0 ++ [(⟨ta, tb, tc, v197_, (ll ++ [(⟨m', n'⟩ : RV)])⟩ : GN)]).flatMap GN.cells) ((List.length N0) * 4 + 0) (vI .i64 (ta + 1))) :: sl 58 2 v197_ ((List.length ll) + 1) ((ll.flatMap RV.cells) ++ [(vI .i64 m'), (vI .i64 n')]) :: F) := H210_
     have S212_ := Same.trans S206_ S211_
     have H213_ := Holds.resl H210_ 4 rfl (gset rfl : List.set ((N0 ++ [(⟨ta, tb, tc, v197_, (ll ++ [(⟨m', n'⟩ : RV)])⟩ : GN)]).flatMap GN.cells) ((List.length N0) * 4 + 0) (vI .i64 (ta + 1)) = (N0 ++ [(⟨(ta + 1), tb, tc, v197_, (ll ++ [(⟨m', n'⟩ : RV)])⟩ : GN)]).flatMap GN.cells) (rfl : (List.length N0 + 1) = (List.length N0 + 1))
     refine wpList_nil (X_then (hK208_ _ _ ?_))
     clear hK208_
     refine C_reg ?_
     refine sv (v := (vP (some ⟨kb, 0, none⟩))) (x_move rfl) ?_
     refine sv (v := (vA #[(vI .i64 m'), (vI .i64 n')])) (x_loadN (vs := [(vI .i64 m'), (vI .i64 n')]) rfl Try.underlying58 rfl z58 rfl (Rd.cells (Holds.rd H213_ 2 rfl) 0 rfl)) ?_
     refine sv (v := (vP (some ⟨kb, 0, none⟩))) (by kernel_rfl) ?_
     refine sv (v := (vP (some ⟨kb, 1, none⟩))) (by kernel_rfl) ?_
     refine S_list0 (T_storeN (vs := [(vI .i64 m'), (vI .i64 n')]) rfl rfl z58 rfl (by simp [Value.oneCell']) H213_ 3 rfl (Nat.le_of_ble_eq_true (by rfl)) ?_)
     intro w214_ S216_ H215_
     have S217_ := Same.trans S212_ S216_
     refine wpList_nil ?_
     refine R_0 rfl ?_
     have H218_ := Holds.resl H215_ 4 rfl ((by first | rfl | (simp [RV.cells, GN.cells]; done) | (simp; omega)) : (N0 ++ [(⟨(ta + 1), tb, tc, v197_, (ll ++ [(⟨m', n'⟩ : RV)])⟩ : GN)]).flatMap GN.cells = (N0 ++ [(⟨(ta + 1), tb, tc, v197_, (ll ++ [(⟨m', n'⟩ : RV)])⟩ : GN)]).flatMap GN.cells) ((by first | rfl | (simp [RV.cells, GN.cells]; done) | (simp; omega)) : (List.length N0 + 1) = (List.length (N0 ++ [(⟨(ta + 1), tb, tc, v197_, (ll ++ [(⟨m', n'⟩ : RV)])⟩ : GN)])))
     have H219_ := Holds.resl H218_ 5 rfl ((by first | rfl | (simp [RV.cells, GN.cells]; done) | (simp; omega)) : (ll.flatMap RV.cells) ++ [(vI .i64 m'), (vI .i64 n')] = (ll ++ [(⟨m', n'⟩ : RV)]).flatMap RV.cells) ((by first | rfl | (simp [RV.cells, GN.cells]; done) | (simp; omega)) : (List.length ll) + 1 = (List.length (ll ++ [(⟨m', n'⟩ : RV)])))
     have H220_ : Holds w214_ (ro R :: cl kb 104 [(vS ka kl kc), (vI .i64 m'), (vI .i64 n'), gv] :: sl 106 4 gv (List.length (N0 ++ [(⟨(ta + 1), tb, tc, v197_, (ll ++ [(⟨m', n'⟩ : RV)])⟩ : GN)])) ((N0 ++ [(⟨(ta + 1), tb, tc, v197_, (ll ++ [(⟨m', n'⟩ : RV)])⟩ : GN)]).flatMap GN.cells) :: sl 58 2 v197_ (List.length (ll ++ [(⟨m', n'⟩ : RV)])) ((ll ++ [(⟨m', n'⟩ : RV)]).flatMap RV.cells) :: F) := (Holds.pkF H219_ [1, 2, 2, 2] 2 :)
     exact ⟨_, _, rfl, ⟨gv, v197_, [(⟨(ta + 1), tb, tc, v197_, (ll ++ [(⟨m', n'⟩ : RV)])⟩ : GN)], (ll ++ [(⟨m', n'⟩ : RV)]), rfl, rfl, (iPut_old c122_fp), (Or.inr ⟨_, _, _, rfl⟩), (fun h_ => by cases h_)⟩, S217_, H220_⟩
    refine AllR.cons ?_ AllR.nil
    refine A_op (ls' := #[true, true, true, true, false, true, true, false, false, false, false]) rfl (by kernel_rfl) (T_new (obj := .cells #[(vI .i64 m'), (vI .i64 n')] 58) (f := fun b__ => .slice (some ⟨b__, 0, none⟩) 1 1) (A := fun b__ => cl b__ 58 [(vI .i64 m'), (vI .i64 n')]) (by kernel_rfl) (fun l h => h.alloc _ _) H190_ ?_)
    intro b221_ w222_ S224_ H223_
    have S225_ := Same.trans (Same.trans (Same.trans S21_ (Same.drew _)) (Same.drew _)) S224_
    refine ⟨⟨Holds.rd H223_ 2 rfl, (Holds.ro_at H223_ 1 rfl)⟩, ?_⟩
    refine A_ready (i := 4) (rs := []) (by kernel_rfl) ?_
    refine AllR.cons ?_ AllR.nil
    refine A_op (ls' := #[true, true, true, true, true, true, true, false, false, false, false]) rfl (by kernel_rfl) (T_val (v := lv) (x_load1 rfl Try.underlying80 rfl ((Holds.slrd H223_ 4 rfl) _ _ (fm_cell GN.len (gat _ _) (i := 3) rfl))) ?_)
    refine ⟨⟨Holds.rd H223_ 2 rfl, (Holds.ro_at H223_ 1 rfl)⟩, ?_⟩
    refine A_ready (i := 7) (rs := []) (by kernel_rfl) ?_
    refine AllR.cons ?_ AllR.nil
    refine A_op (ls' := #[true, true, true, true, true, true, true, true, false, false, false]) rfl (by kernel_rfl) (T_append rfl rfl Try.underlying80 z58 rfl (by decide) H223_ 5 rfl (Holds.cl_src H223_ 0 rfl Try.underlying80 (by simp [Value.oneCell']) rfl) (by first | omega | (simp only [List.length_append, List.length_cons, List.length_nil]; omega)) ?_)
    intro v226_ w227_ S229_ H228_
    have S230_ := Same.trans S225_ S229_
    refine ⟨⟨Holds.rd H228_ 2 rfl, (Holds.ro_at H228_ 1 rfl)⟩, ?_⟩
    have hq231_ := And.intro (Holds.rd H228_ 2 rfl) ((Holds.ro_at H228_ 1 rfl))
    refine A_tk 8 (v := (vP (some ⟨(sb gv), so gv + ((List.length N0) * 4 + 0), none⟩))) rfl (by kernel_rfl) (fun w hS => by kernel_rfl) hq231_ ?_
    refine A_tk 9 (v := (vP (some ⟨(sb gv), so gv + ((List.length N0) * 4 + 3), none⟩))) rfl (by kernel_rfl) (fun w hS => by kernel_rfl) hq231_ ?_
    refine A_ready (i := 10) (rs := []) (by kernel_rfl) ?_
    refine AllR.cons ?_ AllR.nil
    refine A_op0 (ls' := #[true, true, true, true, true, true, true, true, true, true, true]) rfl (by kernel_rfl) (T_storeSl (v := gv) (u := v226_) rfl rfl z80 (Holds.sl_one H228_ 5 rfl) H228_ 4 rfl (by first | omega | (rw [fm_len GN.len]; simp only [List.length_append, List.length_cons, List.length_nil]; omega)) rfl rfl ?_)
    intro w232_ S234_ H233_
    replace H233_ : Holds w232_ (cl b221_ 58 [(vI .i64 m'), (vI .i64 n')] :: ro R :: cl b2_ 58 [(vI .i64 m'), (vI .i64 n')] :: cl kb 104 [(vS ka kl kc), (vI .i64 m), (vI .i64 n), gv] :: sl 106 4 gv (List.length N0 + 1) (List.set ((N0 ++ [(⟨ta, tb, tc, lv, ll⟩ : GN)]).flatMap GN.cells) ((List.length N0) * 4 + 3) v226_) :: sl 58 2 v226_ ((List.length ll) + 1) ((ll.flatMap RV.cells) ++ [(vI .i64 m'), (vI .i64 n')]) :: F) := H233_
    have S235_ := Same.trans S230_ S234_
    have H236_ := Holds.resl H233_ 4 rfl (gset rfl : List.set ((N0 ++ [(⟨ta, tb, tc, lv, ll⟩ : GN)]).flatMap GN.cells) ((List.length N0) * 4 + 3) v226_ = (N0 ++ [(⟨ta, tb, tc, v226_, (ll ++ [(⟨m', n'⟩ : RV)])⟩ : GN)]).flatMap GN.cells) (rfl : (List.length N0 + 1) = (List.length N0 + 1))
    refine ⟨⟨Holds.rd H236_ 2 rfl, (Holds.ro_at H236_ 1 rfl)⟩, ?_⟩
    refine A_done (by kernel_rfl) ?_
    refine (X_then (hK189_ _ _ ?_))
    clear hK189_
    refine C_seq (fun K237_ hK237_ => C_reg ?_)
    refine sv (v := (vP (some ⟨(sb gv), so gv + ((List.length N0) * 4 + 0), none⟩))) (x_move rfl) ?_
    refine sv (v := (vP (some ⟨(sb gv), so gv + ((List.length N0) * 4 + 0), none⟩))) (by kernel_rfl) ?_
    refine sv (v := (vP (some ⟨(sb gv), so gv + ((List.length N0) * 4 + 0), none⟩))) (by kernel_rfl) ?_
    refine sv (v := (vI .i64 ta)) (x_load1 rfl Try.underlying2 rfl ((Holds.slrd H236_ 4 rfl) _ _ (fm_cell GN.len (gat _ _) (i := 0) rfl))) ?_
    refine sv (v := (vI .i64 (ta + 1))) (x_bin rfl rfl (ib_add (IntWalk.i64_in _ (by omega)))) ?_
    refine sv (v := (vP (some ⟨(sb gv), so gv + ((List.length N0) * 4 + 0), none⟩))) (by kernel_rfl) ?_
    refine sv (v := (vP (some ⟨(sb gv), so gv + ((List.length N0) * 4 + 0), none⟩))) (by kernel_rfl) ?_
    refine S_list0 (T_storeSl (v := gv) (u := (vI .i64 (ta + 1))) rfl rfl z2 rfl H236_ 4 rfl (by first | omega | (rw [fm_len GN.len]; simp only [List.length_append, List.length_cons, List.length_nil]; omega)) rfl rfl ?_)
    intro w238_ S240_ H239_
    have S241_ := Same.trans S235_ S240_
    have H242_ := Holds.resl H239_ 4 rfl (gset rfl : List.set ((N0 ++ [(⟨ta, tb, tc, v226_, (ll ++ [(⟨m', n'⟩ : RV)])⟩ : GN)]).flatMap GN.cells) ((List.length N0) * 4 + 0) (vI .i64 (ta + 1)) = (N0 ++ [(⟨(ta + 1), tb, tc, v226_, (ll ++ [(⟨m', n'⟩ : RV)])⟩ : GN)]).flatMap GN.cells) (rfl : (List.length N0 + 1) = (List.length N0 + 1))
    refine wpList_nil (X_then (hK237_ _ _ ?_))
    clear hK237_
    refine C_reg ?_
    refine sv (v := (vP (some ⟨kb, 0, none⟩))) (x_move rfl) ?_
    refine sv (v := (vA #[(vI .i64 m'), (vI .i64 n')])) (x_loadN (vs := [(vI .i64 m'), (vI .i64 n')]) rfl Try.underlying58 rfl z58 rfl (Rd.cells (Holds.rd H242_ 2 rfl) 0 rfl)) ?_
    refine sv (v := (vP (some ⟨kb, 0, none⟩))) (by kernel_rfl) ?_
    refine sv (v := (vP (some ⟨kb, 1, none⟩))) (by kernel_rfl) ?_
    refine S_list0 (T_storeN (vs := [(vI .i64 m'), (vI .i64 n')]) rfl rfl z58 rfl (by simp [Value.oneCell']) H242_ 3 rfl (Nat.le_of_ble_eq_true (by rfl)) ?_)
    intro w243_ S245_ H244_
    have S246_ := Same.trans S241_ S245_
    refine wpList_nil ?_
    refine R_0 rfl ?_
    have H247_ := Holds.resl H244_ 4 rfl ((by first | rfl | (simp [RV.cells, GN.cells]; done) | (simp; omega)) : (N0 ++ [(⟨(ta + 1), tb, tc, v226_, (ll ++ [(⟨m', n'⟩ : RV)])⟩ : GN)]).flatMap GN.cells = (N0 ++ [(⟨(ta + 1), tb, tc, v226_, (ll ++ [(⟨m', n'⟩ : RV)])⟩ : GN)]).flatMap GN.cells) ((by first | rfl | (simp [RV.cells, GN.cells]; done) | (simp; omega)) : (List.length N0 + 1) = (List.length (N0 ++ [(⟨(ta + 1), tb, tc, v226_, (ll ++ [(⟨m', n'⟩ : RV)])⟩ : GN)])))
    have H248_ := Holds.resl H247_ 5 rfl ((by first | rfl | (simp [RV.cells, GN.cells]; done) | (simp; omega)) : (ll.flatMap RV.cells) ++ [(vI .i64 m'), (vI .i64 n')] = (ll ++ [(⟨m', n'⟩ : RV)]).flatMap RV.cells) ((by first | rfl | (simp [RV.cells, GN.cells]; done) | (simp; omega)) : (List.length ll) + 1 = (List.length (ll ++ [(⟨m', n'⟩ : RV)])))
    have H249_ : Holds w243_ (ro R :: cl kb 104 [(vS ka kl kc), (vI .i64 m'), (vI .i64 n'), gv] :: sl 106 4 gv (List.length (N0 ++ [(⟨(ta + 1), tb, tc, v226_, (ll ++ [(⟨m', n'⟩ : RV)])⟩ : GN)])) ((N0 ++ [(⟨(ta + 1), tb, tc, v226_, (ll ++ [(⟨m', n'⟩ : RV)])⟩ : GN)]).flatMap GN.cells) :: sl 58 2 v226_ (List.length (ll ++ [(⟨m', n'⟩ : RV)])) ((ll ++ [(⟨m', n'⟩ : RV)]).flatMap RV.cells) :: F) := (Holds.pkF H248_ [1, 2, 2, 2] 2 :)
    exact ⟨_, _, rfl, ⟨gv, v226_, [(⟨(ta + 1), tb, tc, v226_, (ll ++ [(⟨m', n'⟩ : RV)])⟩ : GN)], (ll ++ [(⟨m', n'⟩ : RV)]), rfl, rfl, (iPut_old c122_fp), (Or.inr ⟨_, _, _, rfl⟩), (fun h_ => by cases h_)⟩, S246_, H249_⟩
end Go.Proofs.Ytiblemgccgbhoaa
