/- Operations of the reference. -/
import Derived.Test.YtiblemgccgbhoaaKyG0
set_option linter.unusedVariables false
set_option linter.unusedSimpArgs false
namespace Go.Proofs.Ytiblemgccgbhoaa
open Go Go.RowKit Gw

def kChk (i : Nat) (l : List VR) (o : KO) : Prop := (1 ≤ o.kind ∧ o.kind ≤ 8 ∧ o.kind ≠ 3 ∧ o.kind ≠ 4) ∧ ¬ (i = 0 ∧ l.length = 0 ∧ o.kind ≠ 1) ∧ (o.kind ≤ 2 → 1 ≤ o.rev_Main ∧ 0 ≤ o.rev_Sub) ∧ ¬ (o.kind = 1 ∧ 0 < l.length ∧ (vLast l).gone = true ∧ (vLast l).rev_Main = o.rev_Main)
instance (i : Nat) (l : List VR) (o : KO) : Decidable (kChk i l o) := by unfold kChk; infer_instance
def KM.at_ (a : KM) (m : List VR) : KM := ⟨a.ok, a.mm, a.ms, a.cm, a.cs, a.ver, a.rl, (vLast m).rev_Main, (vLast m).rev_Sub, dGens m⟩
def kStep (i : Nat) (l : List VR) (o : KO) : Option (List VR × KM) :=
  if kChk i l o then (match kDo l o with | some (m, a) => if m.length = 0 then none else some (m, a.at_ m) | none => none) else none
def kRun (l : List VR) (out : List KM) : List KO → Option (List VR × List KM)
  | [] => some (l, out)
  | o :: r => match kStep out.length l o with | some (m, a) => kRun m (out ++ [a]) r | none => none
/-- Operations on some changes: what is left, and the answers; none: they are not asked for. -/
def kLife (l : List VR) (ops : List KO) : Option (List VR × List KM) := if ops.length ≤ 300 then kRun l [] ops else none
theorem all_snoc {α : Type} {p : α → Prop} {l : List α} {y : α} (h : ∀ x ∈ l, p x) (hy : p y) : ∀ x ∈ l ++ [y], p x := fun x hx => by
  rcases List.mem_append.1 hx with hx | hx
  · exact h x hx
  · rcases List.mem_singleton.1 hx with rfl
    exact hy
theorem drop_at {α : Type} {l : List α} {k : Nat} {x : α} (h : l[k]? = some x) : l.drop k = x :: l.drop (k + 1) := by
  obtain ⟨h1, h2⟩ := List.getElem?_eq_some_iff.1 h
  rw [← h2, List.getElem_cons_drop]
section
variable {l m : List VR} {o : KO} {out : List KM} {ops : List KO} {k : Nat} {a : KM}
theorem kRun_no (h : ops[k]? = some o) (hs : kStep out.length l o = none) : kRun l out (ops.drop k) = none := by
  rw [drop_at h, kRun, hs]
theorem kRun_yes (h : ops[k]? = some o) (hs : kStep out.length l o = some (m, a)) : kRun l out (ops.drop k) = kRun m (out ++ [a]) (ops.drop (k + 1)) := by
  rw [drop_at h, kRun, hs]
theorem kStep_chk {i : Nat} (h : ¬ kChk i l o) : kStep i l o = none := if_neg h
theorem kStep_none {i : Nat} (h : kDo l o = none) : kStep i l o = none := by
  unfold kStep
  rw [h]; simp
theorem kStep_nil {i : Nat} (h : kDo l o = some (m, a)) (h0 : (m.length : Int) = 0) : kStep i l o = none := by
  unfold kStep
  rw [h]
  simp only [if_pos (show m.length = 0 by omega)]
  simp
theorem kStep_yes {i : Nat} (hc : kChk i l o) (h : kDo l o = some (m, a)) (h0 : ¬ (m.length : Int) = 0) : kStep i l o = some (m, a.at_ m) := by
  unfold kStep
  rw [if_pos hc, h]
  simp only [if_neg (show ¬ m.length = 0 by omega)]
theorem vSieve_mem {p : Nat → VR → Bool} {n : Nat} {x : VR} (h : x ∈ vSieve l p n) : x ∈ l := by
  induction n with
  | zero => simp [vSieve] at h
  | succ n ih =>
    unfold vSieve at h
    rcases List.mem_append.1 h with h | h
    · exact ih h
    · split at h
      · rename_i v e
        split at h
        · rcases List.mem_singleton.1 h with rfl
          exact List.mem_of_getElem? e
        · cases h
      · cases h
theorem vLast_mem (h : l ≠ []) : vLast l ∈ l := by
  unfold vLast
  rw [List.getLast?_eq_some_getLast h]
  exact List.getLast_mem h
theorem kDo_len (h : kDo l o = some (m, a)) : m.length ≤ l.length + 1 := by
  unfold kDo at h
  split at h
  · split at h <;> cases h; simp
  · split at h
    · split at h
      · cases h; omega
      · split at h <;> cases h; simp
    · split at h
      · cases h; omega
      · split at h
        · cases h; omega
        · split at h
          · cases h
            have := vSieve_len l (vStay l o.at_) l.length
            unfold vCompact; omega
          · split at h <;> (cases h; omega)
theorem kDo_ver {n : Int} (hn : 0 ≤ n) (hl : ∀ x ∈ l, 0 ≤ x.ver ∧ x.ver ≤ n) (h : kDo l o = some (m, a)) : ∀ x ∈ m, 0 ≤ x.ver ∧ x.ver ≤ n + 1 := by
  have hw : ∀ x ∈ l, 0 ≤ x.ver ∧ x.ver ≤ n + 1 := fun x hx => by have := hl x hx; omega
  have hg : (vLast l).gone = false → 0 ≤ (vLast l).ver ∧ (vLast l).ver ≤ n := fun h => hl _ (vLast_mem fun e => by rw [e] at h; cases h)
  unfold kDo at h
  split at h
  · split at h
    · cases h
      intro x hx
      rcases List.mem_append.1 hx with hx | hx
      · exact hw x hx
      · rcases List.mem_singleton.1 hx with rfl
        unfold vPut
        split
        · exact ⟨by show (0 : Int) ≤ 1; omega, by show (1 : Int) ≤ n + 1; omega⟩
        · rename_i e
          have := hg (by simpa using e)
          show 0 ≤ (vLast l).ver + 1 ∧ (vLast l).ver + 1 ≤ n + 1
          omega
    · cases h
  · split at h
    · split at h
      · cases h; exact hw
      · rename_i e
        split at h
        · cases h
          intro x hx
          rcases List.mem_append.1 hx with hx | hx
          · exact hw x hx
          · rcases List.mem_singleton.1 hx with rfl
            have := hg (by simpa using e)
            show 0 ≤ (vLast l).ver + 1 ∧ (vLast l).ver + 1 ≤ n + 1
            omega
        · cases h
    · split at h
      · cases h; exact hw
      · split at h
        · cases h; exact hw
        · split at h
          · cases h
            exact fun x hx => hw x (vSieve_mem hx)
          · split at h <;> (cases h; exact hw)
end


set_option maxHeartbeats 400000 in
theorem kIxRev (R : HP) (a b : Int) :
    Tri Try.prog 15 #[(Value.agg #[(Value.int .i64 a), (Value.int .i64 b)])] R [] (fun v__ post__ => v__ = (Value.bool (decide (1 ≤ a ∧ 0 ≤ b))) ∧ post__ = []) := by
 refine Tri.into (n := 11) (al := [(Value.agg #[(Value.int .i64 a), (Value.int .i64 b)])]) Try.func15 rfl Try.ntmps15 rfl rfl fun w F H => ?_
 refine C_seq (fun K1_ hK1_ => ?_)
 refine C_reg ?_
 refine S_list (T_box (v := (Value.agg #[(Value.int .i64 a), (Value.int .i64 b)])) rfl H ?_)
 intro b2_ w3_ S5_ H4_
 have S6_ := Same.trans (Same.refl w) S5_
 refine S_list (T_val (v := (Value.bool false)) (x_assign rfl) ?_)
 refine wpList_nil ?_
 refine (X_then (hK1_ _ _ ?_))
 clear hK1_
 refine C_seq (fun K7_ hK7_ => ?_)
 refine C_reg ?_
 refine S_list (T_val (v := (Value.pointer (some ⟨b2_, 0, none⟩))) (by kernel_rfl) ?_)
 refine S_list (T_val (v := (Value.int .i64 a)) (x_load1 rfl Try.underlying2 rfl ((Holds.rd H4_ 0 rfl) 0 (Value.int .i64 a) rfl)) ?_)
 refine S_list (T_val (v := (Value.bool (decide (1 ≤ a)))) (x_bin rfl rfl rfl) ?_)
 refine S_list (T_val (v := (Value.bool (decide (1 ≤ a)))) (x_move rfl) ?_)
 rcases Bool.eq_false_or_eq_true (decide (1 ≤ a)) with c8_t | c8_f
 ·have c8_tp : 1 ≤ a := of_decide_eq_true c8_t
  refine S_yes (j := 3) (dj := 6) (b := true) rfl rfl (congrArg Value.bool c8_t) (T_val (v := (Value.pointer (some ⟨b2_, 1, none⟩))) (by kernel_rfl) ?_)
  refine S_yes (j := 3) (dj := 6) (b := true) rfl rfl (congrArg Value.bool c8_t) (T_val (v := (Value.int .i64 b)) (x_load1 rfl Try.underlying2 rfl ((Holds.rd H4_ 0 rfl) 1 (Value.int .i64 b) rfl)) ?_)
  refine S_yes (j := 3) (dj := 6) (b := true) rfl rfl (congrArg Value.bool c8_t) (T_val (v := (Value.bool (decide (0 ≤ b)))) (x_bin rfl rfl rfl) ?_)
  refine S_list (T_pickT (v := (Value.bool (decide (0 ≤ b)))) (congrArg Value.bool c8_t) rfl ?_)
  refine S_list (T_val (v := (Value.bool (decide (0 ≤ b)))) (x_assign rfl) ?_)
  refine wpList_nil ?_
  refine (X_then (hK7_ _ _ ?_))
  clear hK7_
  refine C_ret ?_
  refine R_any (v := (Value.bool (decide (0 ≤ b)))) (run_results1 rfl rfl) ?_
  have H9_ : Holds w3_ (ro R :: F) := (Holds.pkF H4_ [1] 1 :)
  exact ⟨_, _, rfl, ⟨(congrArg Value.bool ((by first | rfl | (simp_all; done) | (simp_all; omega)) : (decide (0 ≤ b)) = (decide (1 ≤ a ∧ 0 ≤ b)))), rfl⟩, S6_, H9_⟩
 ·have c8_fp : ¬ (1 ≤ a) := of_decide_eq_false c8_f
  refine S_no (j := 3) (dj := 6) (b := false) rfl rfl (congrArg Value.bool c8_f) (by decide) ?_
  refine S_no (j := 3) (dj := 6) (b := false) rfl rfl (congrArg Value.bool c8_f) (by decide) ?_
  refine S_no (j := 3) (dj := 6) (b := false) rfl rfl (congrArg Value.bool c8_f) (by decide) ?_
  refine S_list (T_pickF (v := (Value.bool false)) (congrArg Value.bool c8_f) rfl ?_)
  refine S_list (T_val (v := (Value.bool false)) (x_assign rfl) ?_)
  refine wpList_nil ?_
  refine (X_then (hK7_ _ _ ?_))
  clear hK7_
  refine C_ret ?_
  refine R_any (v := (Value.bool false)) (run_results1 rfl rfl) ?_
  have H10_ : Holds w3_ (ro R :: F) := (Holds.pkF H4_ [1] 1 :)
  exact ⟨_, _, rfl, ⟨(congrArg Value.bool ((by first | rfl | (simp_all; done) | (simp_all; omega)) : false = (decide (1 ≤ a ∧ 0 ≤ b)))), rfl⟩, S6_, H10_⟩

set_option maxHeartbeats 4000000 in
theorem kLife_ (R : HP) (v ov : Value) (L : List VR) (O : List KO) (N : Nat) (hL : RS R 6 v (List.length L) (L.flatMap VR.cells)) (hO : RS R 7 ov (List.length O) (O.flatMap KO.cells)) (hlN : L.length ≤ N) (hvN : ∀ x ∈ L, 0 ≤ x.ver ∧ x.ver ≤ (N : Int)) (hNN : N ≤ 5000) :
    TriG Try.prog 6 #[v, ov] R [] (fun R' v__ post__ => (∃ (v' av : Value) (L' : List VR) (A : List KA), v__ = (Value.tuple #[v', av, (Value.bool true)]) ∧ post__ = [] ∧ (kLife L O = some (L', A.map KA.m)) ∧ (RS R' 6 v' (List.length L') (L'.flatMap VR.cells)) ∧ (RS R' 10 av (List.length A) (A.flatMap KA.cells)) ∧ (∀ x ∈ A, KOk R' x) ∧ (L'.length ≤ N + 300 ∧ ∀ x ∈ L', 0 ≤ x.ver ∧ x.ver ≤ (N : Int) + 300)) ∨ (v__ = (Value.tuple #[(Value.slice none 0 0), (Value.slice none 0 0), (Value.bool false)]) ∧ post__ = [] ∧ (kLife L O = none))) := by
 refine TriG.into (n := 116) (al := [v, ov]) Try.func6 rfl Try.ntmps6 rfl rfl fun w F H => ?_
 refine C_seq (fun K1_ hK1_ => ?_)
 refine C_reg ?_
 refine S_list (T_val (v := (Value.slice none 0 0)) (x_assign rfl) ?_)
 refine S_list (T_val (v := (Value.slice none 0 0)) (x_assign rfl) ?_)
 refine S_list (T_val (v := (Value.bool false)) (x_assign rfl) ?_)
 refine wpList_nil ?_
 refine (X_then (hK1_ _ _ ?_))
 clear hK1_
 refine C_seq (fun K2_ hK2_ => ?_)
 refine C_seq (fun K3_ hK3_ => ?_)
 refine C_reg ?_
 refine S_list (T_val (v := ov) (x_move rfl) ?_)
 refine S_list (T_val (v := (Value.int .i64 ((List.length O) : Int))) (x_lenRS rfl hO Try.underlying22) ?_)
 refine S_list (T_val (v := (Value.bool (decide (300 < ((List.length O) : Int))))) (x_bin rfl rfl rfl) ?_)
 refine wpList_nil ?_
 refine (X_then (hK3_ _ _ ?_))
 clear hK3_
 refine C_cond (b := decide (300 < ((List.length O) : Int))) rfl (fun c4_t => ?_) (fun c4_f => ?_)
 ·have c4_tp : 300 < ((List.length O) : Int) := of_decide_eq_true c4_t
  refine C_seq (fun K5_ hK5_ => ?_)
  refine C_reg ?_
  refine S_list (T_val (v := (Value.slice none 0 0)) (x_assign rfl) ?_)
  refine S_list (T_val (v := (Value.slice none 0 0)) (x_assign rfl) ?_)
  refine S_list (T_val (v := (Value.bool false)) (x_assign rfl) ?_)
  refine wpList_nil ?_
  refine (X_then (hK5_ _ _ ?_))
  clear hK5_
  refine C_ret (X_thenR ?_)
  refine R_any (v := (Value.tuple #[(Value.slice none 0 0), (Value.slice none 0 0), (Value.bool false)])) (run_results3 rfl rfl rfl rfl) ?_
  exact ⟨R, _, _, rfl, (Sub.rfl' _), (.inr ⟨rfl, rfl, (if_neg (by omega))⟩), (Same.refl w), H⟩
 ·have c4_fp : ¬ (300 < ((List.length O) : Int)) := of_decide_eq_false c4_f
  refine C_skip (X_then (hK2_ _ _ ?_))
  clear hK2_
  refine C_seq (fun K6_ hK6_ => ?_)
  refine C_reg ?_
  refine S_list (T_val (v := (Value.slice none 0 0)) (x_assign rfl) ?_)
  refine wpList_nil ?_
  refine (X_then (hK6_ _ _ ?_))
  clear hK6_
  refine C_seq (fun K7_ hK7_ => ?_)
  refine C_seq (fun K8_ hK8_ => ?_)
  refine C_reg ?_
  refine S_list (T_val (v := ov) (x_move rfl) ?_)
  refine S_list (T_val (v := (Value.int .i64 ((List.length O) : Int))) (x_lenRS rfl hO Try.underlying22) ?_)
  refine S_list (T_val (v := (Value.int .i64 0)) (x_move rfl) ?_)
  refine wpList_nil ?_
  refine (X_then (hK8_ _ _ ?_))
  clear hK8_
  refine C_block ?_
  have H9_ : Holds w (sl 43 10 (Value.slice none 0 0) (List.length ([] : List KA)) (([] : List KA).flatMap KA.cells) :: ro R :: F) := Holds.add_nil H 43 10
  refine C_loop (γ := HP × Nat × Value × Value × (List VR) × (List KA) × Value × Value × Bool) (fun x__ a__ w1__ => match x__ with | ⟨R1, k, lv, av, l, A, t4_v, a5_v, p6_v⟩ => ∃ h : Env, a__ = mkA 116 (upd (upd (upd (upd (upd (upd (upd (upd h 0 lv) 4 t4_v) 5 a5_v) 6 (Value.bool p6_v)) 7 av) 16 ov) 17 (Value.int .i64 ((List.length O) : Int))) 18 (Value.int .i64 (k : Int))) [] ∧ Holds w1__ (sl 43 10 av (List.length A) (A.flatMap KA.cells) :: ro R1 :: F) ∧ Same w w1__ ∧ (Sub R R1) ∧ (k ≤ O.length) ∧ (RS R1 6 lv (List.length l) (l.flatMap VR.cells)) ∧ (kRun L [] O = kRun l (A.map KA.m) (O.drop k)) ∧ ((A.map KA.m).length = k) ∧ (A.length = k) ∧ (∀ x ∈ A, KOk R1 x) ∧ (l.length ≤ N + k) ∧ (∀ x ∈ l, 0 ≤ x.ver ∧ x.ver ≤ (N : Int) + k)) (fun x__ => match x__ with | ⟨R1, k, lv, av, l, A, t4_v, a5_v, p6_v⟩ => O.length - k) (⟨R, 0, v, (Value.slice none 0 0), L, ([] : List KA), (Value.slice none 0 0), (Value.slice none 0 0), false⟩) ⟨_, congrArg (fun e => mkA 116 e []) (ch (ch (ch (ch (ch (ch (ch (ch rfl rfl) (rfl : (Value.slice none 0 0) = ((Value.slice none 0 0)))) (rfl : (Value.slice none 0 0) = ((Value.slice none 0 0)))) rfl) (rfl : (Value.slice none 0 0) = ((Value.slice none 0 0)))) rfl) rfl) (congrArg (Value.int .i64) ((by first | rfl | omega | (simp; done) | (simp; omega)) : 0 = (0 : Int)))), H9_, (Same.refl w), (Sub.rfl' _), (by first | assumption | omega | exact rfl), (hL), (rfl), (rfl), (rfl), (fun x hx => by cases hx), (by first | assumption | omega | exact rfl), (fun x hx => by have := hvN x hx; omega)⟩ ?_
  rintro ⟨R1, k, lv, av, l, A, t4_v, a5_v, p6_v⟩ _ w10_ ⟨h, rfl, H11_, S12_, hsR1, hk, hlR, hrun, hkA, hAk, hA, hll, hlv⟩
  refine C_seq (fun K13_ hK13_ => ?_)
  refine C_reg ?_
  refine S_list (T_val (v := (Value.bool (decide ((k : Int) < ((List.length O) : Int))))) (x_bin rfl rfl rfl) ?_)
  refine wpList_nil ?_
  refine (X_then (hK13_ _ _ ?_))
  clear hK13_
  refine C_seq (fun K14_ hK14_ => ?_)
  refine C_cond (b := decide ((k : Int) < ((List.length O) : Int))) rfl (fun c15_t => ?_) (fun c15_f => ?_)
  ·have c15_tp : (k : Int) < ((List.length O) : Int) := of_decide_eq_true c15_t
   refine C_skip (X_then (hK14_ _ _ ?_))
   clear hK14_
   refine C_seq (fun K16_ hK16_ => ?_)
   refine C_block ?_
   refine C_seq (fun K17_ hK17_ => ?_)
   refine C_reg ?_
   refine S_list (T_val (v := (Value.int .i64 (k : Int))) (x_move rfl) ?_)
   obtain ⟨x18_, hx19_, hm20_⟩ := elem_at O k (by omega)
   refine S_list (T_val (v := (Value.pointer (some ⟨(sb ov), so ov + (k * 7 + 0), none⟩))) (x_idxRS (v := ov) rfl (RS.mono hO hsR1) rfl Try.underlying22 z39 (by omega) (by omega) (by omega : _ = k) rfl) ?_)
   refine S_list (T_val (v := (Value.agg #[(Value.int .i64 x18_.kind), (Value.int .i64 x18_.rev_Main), (Value.int .i64 x18_.rev_Sub), (Value.int .i64 x18_.created_Main), (Value.int .i64 x18_.created_Sub), (Value.int .i64 x18_.ver), (Value.int .i64 x18_.at_)])) (x_loadN (vs := [(Value.int .i64 x18_.kind), (Value.int .i64 x18_.rev_Main), (Value.int .i64 x18_.rev_Sub), (Value.int .i64 x18_.created_Main), (Value.int .i64 x18_.created_Sub), (Value.int .i64 x18_.ver), (Value.int .i64 x18_.at_)]) rfl Try.underlying39 rfl z39 rfl (RC.cells (RS.rc (RS.mono hO hsR1)) (Holds.ro_at H11_ 1 rfl) (k * 7 + 0) (fm_cells KO.len hx19_ (i := 0) rfl))) ?_)
   refine S_list (T_alloc z39 H11_ ?_)
   intro b21_ w22_ S24_ H23_
   have S25_ := Same.trans S12_ S24_
   refine S_list (T_val (v := (Value.int .i64 (k : Int))) (x_assign rfl) ?_)
   refine S_list0 (T_storeN (vs := [(Value.int .i64 x18_.kind), (Value.int .i64 x18_.rev_Main), (Value.int .i64 x18_.rev_Sub), (Value.int .i64 x18_.created_Main), (Value.int .i64 x18_.created_Sub), (Value.int .i64 x18_.ver), (Value.int .i64 x18_.at_)]) rfl rfl z39 rfl (by simp [Value.oneCell']) H23_ 0 rfl (Nat.le_of_ble_eq_true (by rfl)) ?_)
   intro w26_ S28_ H27_
   replace H27_ : Holds w26_ (cl b21_ 39 [(Value.int .i64 x18_.kind), (Value.int .i64 x18_.rev_Main), (Value.int .i64 x18_.rev_Sub), (Value.int .i64 x18_.created_Main), (Value.int .i64 x18_.created_Sub), (Value.int .i64 x18_.ver), (Value.int .i64 x18_.at_)] :: sl 43 10 av (List.length A) (A.flatMap KA.cells) :: ro R1 :: F) := H27_
   have S29_ := Same.trans S25_ S28_
   refine wpList_nil ?_
   refine (X_then (hK17_ _ _ ?_))
   clear hK17_
   refine C_seq (fun K30_ hK30_ => ?_)
   refine C_seq (fun K31_ hK31_ => ?_)
   refine C_reg ?_
   refine S_list (T_val (v := (Value.pointer (some ⟨b21_, 0, none⟩))) (by kernel_rfl) ?_)
   refine S_list (T_val (v := (Value.int .i64 x18_.kind)) (x_load1 rfl Try.underlying3 rfl ((Holds.rd H27_ 0 rfl) 0 (Value.int .i64 x18_.kind) rfl)) ?_)
   refine S_list (T_val (v := (Value.bool (decide (x18_.kind = 3)))) (x_bin rfl rfl rfl) ?_)
   refine S_list (T_val (v := (Value.bool (decide (x18_.kind = 3)))) (x_move rfl) ?_)
   rcases Bool.eq_false_or_eq_true (decide (x18_.kind = 3)) with c32_t | c32_f
   ·have c32_tp : x18_.kind = 3 := of_decide_eq_true c32_t
    refine S_no (j := 3) (dj := 26) (b := true) rfl rfl (congrArg Value.bool c32_t) (by decide) ?_
    refine S_no (j := 3) (dj := 26) (b := true) rfl rfl (congrArg Value.bool c32_t) (by decide) ?_
    refine S_no (j := 3) (dj := 26) (b := true) rfl rfl (congrArg Value.bool c32_t) (by decide) ?_
    refine S_list (T_pickT (v := (Value.bool true)) (congrArg Value.bool c32_t) rfl ?_)
    refine S_list (T_val (v := (Value.bool true)) (x_move rfl) ?_)
    refine S_no (j := 8) (dj := 31) (b := true) rfl rfl rfl (by decide) ?_
    refine S_no (j := 8) (dj := 31) (b := true) rfl rfl rfl (by decide) ?_
    refine S_no (j := 8) (dj := 31) (b := true) rfl rfl rfl (by decide) ?_
    refine S_list (T_pickT (v := (Value.bool true)) rfl rfl ?_)
    refine S_list (T_val (v := (Value.bool true)) (x_move rfl) ?_)
    refine S_no (j := 13) (dj := 36) (b := true) rfl rfl rfl (by decide) ?_
    refine S_no (j := 13) (dj := 36) (b := true) rfl rfl rfl (by decide) ?_
    refine S_no (j := 13) (dj := 36) (b := true) rfl rfl rfl (by decide) ?_
    refine S_list (T_pickT (v := (Value.bool true)) rfl rfl ?_)
    refine wpList_nil ?_
    refine (X_then (hK31_ _ _ ?_))
    clear hK31_
    refine C_condT rfl ?_
    refine C_seq (fun K33_ hK33_ => ?_)
    refine C_reg ?_
    refine S_list (T_val (v := (Value.slice none 0 0)) (x_assign rfl) ?_)
    refine S_list (T_val (v := (Value.slice none 0 0)) (x_assign rfl) ?_)
    refine S_list (T_val (v := (Value.bool false)) (x_assign rfl) ?_)
    refine wpList_nil ?_
    refine (X_then (hK33_ _ _ ?_))
    clear hK33_
    refine C_ret (X_thenR (X_blkR (X_thenR (X_thenR (X_blkR (X_thenR ?_))))))
    refine R_any (v := (Value.tuple #[(Value.slice none 0 0), (Value.slice none 0 0), (Value.bool false)])) (run_results3 rfl rfl rfl rfl) ?_
    have H34_ : Holds w26_ (ro R1 :: F) := (Holds.pkF H27_ [2] 2 :)
    exact ⟨R1, _, _, rfl, hsR1, (.inr ⟨rfl, rfl, (by unfold kLife; rw [if_pos (by omega), hrun]; exact kRun_no hx19_ (by rw [hkA]; exact kStep_chk (by unfold kChk; first | (simp_all; done) | (simp_all; omega))))⟩), S29_, H34_⟩
   ·have c32_fp : ¬ (x18_.kind = 3) := of_decide_eq_false c32_f
    refine S_yes (j := 3) (dj := 26) (b := false) rfl rfl (congrArg Value.bool c32_f) (T_val (v := (Value.pointer (some ⟨b21_, 0, none⟩))) (by kernel_rfl) ?_)
    refine S_yes (j := 3) (dj := 26) (b := false) rfl rfl (congrArg Value.bool c32_f) (T_val (v := (Value.int .i64 x18_.kind)) (x_load1 rfl Try.underlying3 rfl ((Holds.rd H27_ 0 rfl) 0 (Value.int .i64 x18_.kind) rfl)) ?_)
    refine S_yes (j := 3) (dj := 26) (b := false) rfl rfl (congrArg Value.bool c32_f) (T_val (v := (Value.bool (decide (x18_.kind = 4)))) (x_bin rfl rfl rfl) ?_)
    refine S_list (T_pickF (v := (Value.bool (decide (x18_.kind = 4)))) (congrArg Value.bool c32_f) rfl ?_)
    refine S_list (T_val (v := (Value.bool (decide (x18_.kind = 4)))) (x_move rfl) ?_)
    rcases Bool.eq_false_or_eq_true (decide (x18_.kind = 4)) with c35_t | c35_f
    ·have c35_tp : x18_.kind = 4 := of_decide_eq_true c35_t
     refine S_no (j := 8) (dj := 31) (b := true) rfl rfl (congrArg Value.bool c35_t) (by decide) ?_
     refine S_no (j := 8) (dj := 31) (b := true) rfl rfl (congrArg Value.bool c35_t) (by decide) ?_
     refine S_no (j := 8) (dj := 31) (b := true) rfl rfl (congrArg Value.bool c35_t) (by decide) ?_
     refine S_list (T_pickT (v := (Value.bool true)) (congrArg Value.bool c35_t) rfl ?_)
     refine S_list (T_val (v := (Value.bool true)) (x_move rfl) ?_)
     refine S_no (j := 13) (dj := 36) (b := true) rfl rfl rfl (by decide) ?_
     refine S_no (j := 13) (dj := 36) (b := true) rfl rfl rfl (by decide) ?_
     refine S_no (j := 13) (dj := 36) (b := true) rfl rfl rfl (by decide) ?_
     refine S_list (T_pickT (v := (Value.bool true)) rfl rfl ?_)
     refine wpList_nil ?_
     refine (X_then (hK31_ _ _ ?_))
     clear hK31_
     refine C_condT rfl ?_
     refine C_seq (fun K36_ hK36_ => ?_)
     refine C_reg ?_
     refine S_list (T_val (v := (Value.slice none 0 0)) (x_assign rfl) ?_)
     refine S_list (T_val (v := (Value.slice none 0 0)) (x_assign rfl) ?_)
     refine S_list (T_val (v := (Value.bool false)) (x_assign rfl) ?_)
     refine wpList_nil ?_
     refine (X_then (hK36_ _ _ ?_))
     clear hK36_
     refine C_ret (X_thenR (X_blkR (X_thenR (X_thenR (X_blkR (X_thenR ?_))))))
     refine R_any (v := (Value.tuple #[(Value.slice none 0 0), (Value.slice none 0 0), (Value.bool false)])) (run_results3 rfl rfl rfl rfl) ?_
     have H37_ : Holds w26_ (ro R1 :: F) := (Holds.pkF H27_ [2] 2 :)
     exact ⟨R1, _, _, rfl, hsR1, (.inr ⟨rfl, rfl, (by unfold kLife; rw [if_pos (by omega), hrun]; exact kRun_no hx19_ (by rw [hkA]; exact kStep_chk (by unfold kChk; first | (simp_all; done) | (simp_all; omega))))⟩), S29_, H37_⟩
    ·have c35_fp : ¬ (x18_.kind = 4) := of_decide_eq_false c35_f
     refine S_yes (j := 8) (dj := 31) (b := false) rfl rfl (congrArg Value.bool c35_f) (T_val (v := (Value.pointer (some ⟨b21_, 0, none⟩))) (by kernel_rfl) ?_)
     refine S_yes (j := 8) (dj := 31) (b := false) rfl rfl (congrArg Value.bool c35_f) (T_val (v := (Value.int .i64 x18_.kind)) (x_load1 rfl Try.underlying3 rfl ((Holds.rd H27_ 0 rfl) 0 (Value.int .i64 x18_.kind) rfl)) ?_)
     refine S_yes (j := 8) (dj := 31) (b := false) rfl rfl (congrArg Value.bool c35_f) (T_val (v := (Value.bool (decide (x18_.kind < 1)))) (x_bin rfl rfl rfl) ?_)
     refine S_list (T_pickF (v := (Value.bool (decide (x18_.kind < 1)))) (congrArg Value.bool c35_f) rfl ?_)
     refine S_list (T_val (v := (Value.bool (decide (x18_.kind < 1)))) (x_move rfl) ?_)
     rcases Bool.eq_false_or_eq_true (decide (x18_.kind < 1)) with c38_t | c38_f
     ·have c38_tp : x18_.kind < 1 := of_decide_eq_true c38_t
      refine S_no (j := 13) (dj := 36) (b := true) rfl rfl (congrArg Value.bool c38_t) (by decide) ?_
      refine S_no (j := 13) (dj := 36) (b := true) rfl rfl (congrArg Value.bool c38_t) (by decide) ?_
      refine S_no (j := 13) (dj := 36) (b := true) rfl rfl (congrArg Value.bool c38_t) (by decide) ?_
      refine S_list (T_pickT (v := (Value.bool true)) (congrArg Value.bool c38_t) rfl ?_)
      refine wpList_nil ?_
      refine (X_then (hK31_ _ _ ?_))
      clear hK31_
      refine C_condT rfl ?_
      refine C_seq (fun K39_ hK39_ => ?_)
      refine C_reg ?_
      refine S_list (T_val (v := (Value.slice none 0 0)) (x_assign rfl) ?_)
      refine S_list (T_val (v := (Value.slice none 0 0)) (x_assign rfl) ?_)
      refine S_list (T_val (v := (Value.bool false)) (x_assign rfl) ?_)
      refine wpList_nil ?_
      refine (X_then (hK39_ _ _ ?_))
      clear hK39_
      refine C_ret (X_thenR (X_blkR (X_thenR (X_thenR (X_blkR (X_thenR ?_))))))
      refine R_any (v := (Value.tuple #[(Value.slice none 0 0), (Value.slice none 0 0), (Value.bool false)])) (run_results3 rfl rfl rfl rfl) ?_
      have H40_ : Holds w26_ (ro R1 :: F) := (Holds.pkF H27_ [2] 2 :)
      exact ⟨R1, _, _, rfl, hsR1, (.inr ⟨rfl, rfl, (by unfold kLife; rw [if_pos (by omega), hrun]; exact kRun_no hx19_ (by rw [hkA]; exact kStep_chk (by unfold kChk; first | (simp_all; done) | (simp_all; omega))))⟩), S29_, H40_⟩
     ·have c38_fp : ¬ (x18_.kind < 1) := of_decide_eq_false c38_f
      refine S_yes (j := 13) (dj := 36) (b := false) rfl rfl (congrArg Value.bool c38_f) (T_val (v := (Value.pointer (some ⟨b21_, 0, none⟩))) (by kernel_rfl) ?_)
      refine S_yes (j := 13) (dj := 36) (b := false) rfl rfl (congrArg Value.bool c38_f) (T_val (v := (Value.int .i64 x18_.kind)) (x_load1 rfl Try.underlying3 rfl ((Holds.rd H27_ 0 rfl) 0 (Value.int .i64 x18_.kind) rfl)) ?_)
      refine S_yes (j := 13) (dj := 36) (b := false) rfl rfl (congrArg Value.bool c38_f) (T_val (v := (Value.bool (decide (8 < x18_.kind)))) (x_bin rfl rfl rfl) ?_)
      refine S_list (T_pickF (v := (Value.bool (decide (8 < x18_.kind)))) (congrArg Value.bool c38_f) rfl ?_)
      refine wpList_nil ?_
      refine (X_then (hK31_ _ _ ?_))
      clear hK31_
      refine C_cond (b := decide (8 < x18_.kind)) rfl (fun c41_t => ?_) (fun c41_f => ?_)
      ·have c41_tp : 8 < x18_.kind := of_decide_eq_true c41_t
       refine C_seq (fun K42_ hK42_ => ?_)
       refine C_reg ?_
       refine S_list (T_val (v := (Value.slice none 0 0)) (x_assign rfl) ?_)
       refine S_list (T_val (v := (Value.slice none 0 0)) (x_assign rfl) ?_)
       refine S_list (T_val (v := (Value.bool false)) (x_assign rfl) ?_)
       refine wpList_nil ?_
       refine (X_then (hK42_ _ _ ?_))
       clear hK42_
       refine C_ret (X_thenR (X_blkR (X_thenR (X_thenR (X_blkR (X_thenR ?_))))))
       refine R_any (v := (Value.tuple #[(Value.slice none 0 0), (Value.slice none 0 0), (Value.bool false)])) (run_results3 rfl rfl rfl rfl) ?_
       have H43_ : Holds w26_ (ro R1 :: F) := (Holds.pkF H27_ [2] 2 :)
       exact ⟨R1, _, _, rfl, hsR1, (.inr ⟨rfl, rfl, (by unfold kLife; rw [if_pos (by omega), hrun]; exact kRun_no hx19_ (by rw [hkA]; exact kStep_chk (by unfold kChk; first | (simp_all; done) | (simp_all; omega))))⟩), S29_, H43_⟩
      ·have c41_fp : ¬ (8 < x18_.kind) := of_decide_eq_false c41_f
       refine C_skip (X_then (hK30_ _ _ ?_))
       clear hK30_
       refine C_cut (fun a__ w1__ => ∃ t4_v : Value, ∃ a5_v : Value, ∃ p6_v : Bool, ∃ h : Env, a__ = mkA 116 (upd (upd (upd (upd (upd (upd (upd (upd (upd h 0 lv) 4 t4_v) 5 a5_v) 6 (Value.bool p6_v)) 7 av) 9 (Value.pointer (some ⟨b21_, 0, none⟩))) 16 ov) 17 (Value.int .i64 ((List.length O) : Int))) 18 (Value.int .i64 (k : Int))) [] ∧ Holds w1__ (cl b21_ 39 [(Value.int .i64 x18_.kind), (Value.int .i64 x18_.rev_Main), (Value.int .i64 x18_.rev_Sub), (Value.int .i64 x18_.created_Main), (Value.int .i64 x18_.created_Sub), (Value.int .i64 x18_.ver), (Value.int .i64 x18_.at_)] :: sl 43 10 av (List.length A) (A.flatMap KA.cells) :: ro R1 :: F) ∧ Same w w1__ ∧ ((1 ≤ x18_.kind ∧ x18_.kind ≤ 8 ∧ x18_.kind ≠ 3 ∧ x18_.kind ≠ 4) ∧ ¬ (k = 0 ∧ l.length = 0 ∧ x18_.kind ≠ 1) ∧ (x18_.kind ≤ 2 → 1 ≤ x18_.rev_Main ∧ 0 ≤ x18_.rev_Sub))) ?_ ?_
       ·refine C_seq (fun K47_ hK47_ => ?_)
        refine C_reg ?_
        refine S_list (T_val (v := (Value.int .i64 (k : Int))) (x_move rfl) ?_)
        refine S_list (T_val (v := (Value.bool (decide ((k : Int) = 0)))) (x_bin rfl rfl rfl) ?_)
        refine S_list (T_val (v := (Value.bool (decide ((k : Int) = 0)))) (x_move rfl) ?_)
        rcases Bool.eq_false_or_eq_true (decide ((k : Int) = 0)) with c48_t | c48_f
        ·have c48_tp : (k : Int) = 0 := of_decide_eq_true c48_t
         refine S_yes (j := 2) (dj := 43) (b := true) rfl rfl (congrArg Value.bool c48_t) (T_val (v := lv) (x_move rfl) ?_)
         refine S_yes (j := 2) (dj := 43) (b := true) rfl rfl (congrArg Value.bool c48_t) (T_val (v := (Value.int .i64 ((List.length l) : Int))) (x_lenRS rfl hlR Try.underlying23) ?_)
         refine S_yes (j := 2) (dj := 43) (b := true) rfl rfl (congrArg Value.bool c48_t) (T_val (v := (Value.bool (decide (((List.length l) : Int) = 0)))) (x_bin rfl rfl rfl) ?_)
         refine S_list (T_pickT (v := (Value.bool (decide (((List.length l) : Int) = 0)))) (congrArg Value.bool c48_t) rfl ?_)
         refine S_list (T_val (v := (Value.bool (decide (((List.length l) : Int) = 0)))) (x_move rfl) ?_)
         rcases Bool.eq_false_or_eq_true (decide (((List.length l) : Int) = 0)) with c49_t | c49_f
         ·have c49_tp : ((List.length l) : Int) = 0 := of_decide_eq_true c49_t
          refine S_yes (j := 7) (dj := 48) (b := true) rfl rfl (congrArg Value.bool c49_t) (T_val (v := (Value.pointer (some ⟨b21_, 0, none⟩))) (by kernel_rfl) ?_)
          refine S_yes (j := 7) (dj := 48) (b := true) rfl rfl (congrArg Value.bool c49_t) (T_val (v := (Value.int .i64 x18_.kind)) (x_load1 rfl Try.underlying3 rfl ((Holds.rd H27_ 0 rfl) 0 (Value.int .i64 x18_.kind) rfl)) ?_)
          refine S_yes (j := 7) (dj := 48) (b := true) rfl rfl (congrArg Value.bool c49_t) (T_val (v := (Value.bool (decide (x18_.kind ≠ 1)))) (x_bin rfl rfl rfl) ?_)
          refine S_list (T_pickT (v := (Value.bool (decide (x18_.kind ≠ 1)))) (congrArg Value.bool c49_t) rfl ?_)
          refine S_list (T_val (v := (Value.bool (decide (x18_.kind ≠ 1)))) (x_move rfl) ?_)
          rcases Bool.eq_false_or_eq_true (decide (x18_.kind ≠ 1)) with c50_t | c50_f
          ·have c50_tp : x18_.kind ≠ 1 := of_decide_eq_true c50_t
           refine S_no (j := 12) (dj := 53) (b := true) rfl rfl (congrArg Value.bool c50_t) (by decide) ?_
           refine S_no (j := 12) (dj := 53) (b := true) rfl rfl (congrArg Value.bool c50_t) (by decide) ?_
           refine S_no (j := 12) (dj := 53) (b := true) rfl rfl (congrArg Value.bool c50_t) (by decide) ?_
           refine S_no (j := 12) (dj := 53) (b := true) rfl rfl (congrArg Value.bool c50_t) (by decide) ?_
           refine S_noU (j := 16) (dj := 57) rfl rfl rfl ?_
           refine S_noU (j := 16) (dj := 57) rfl rfl rfl ?_
           refine S_noU (j := 16) (dj := 57) rfl rfl rfl ?_
           refine S_no (j := 12) (dj := 53) (b := true) rfl rfl (congrArg Value.bool c50_t) (by decide) ?_
           refine S_no (j := 12) (dj := 53) (b := true) rfl rfl (congrArg Value.bool c50_t) (by decide) ?_
           refine S_noU (j := 21) (dj := 62) rfl rfl rfl ?_
           refine S_noU (j := 21) (dj := 62) rfl rfl rfl ?_
           refine S_noU (j := 21) (dj := 62) rfl rfl rfl ?_
           refine S_noU (j := 21) (dj := 62) rfl rfl rfl ?_
           refine S_no (j := 12) (dj := 53) (b := true) rfl rfl (congrArg Value.bool c50_t) (by decide) ?_
           refine S_list (T_pickT (v := (Value.bool true)) (congrArg Value.bool c50_t) rfl ?_)
           refine wpList_nil ?_
           refine (X_then (hK47_ _ _ ?_))
           clear hK47_
           refine C_condT rfl ?_
           refine C_seq (fun K51_ hK51_ => ?_)
           refine C_reg ?_
           refine S_list (T_val (v := (Value.slice none 0 0)) (x_assign rfl) ?_)
           refine S_list (T_val (v := (Value.slice none 0 0)) (x_assign rfl) ?_)
           refine S_list (T_val (v := (Value.bool false)) (x_assign rfl) ?_)
           refine wpList_nil ?_
           refine (X_then (hK51_ _ _ ?_))
           clear hK51_
           refine C_ret (X_thenR (X_blkR (X_thenR (X_thenR (X_blkR (X_thenR ?_))))))
           refine R_any (v := (Value.tuple #[(Value.slice none 0 0), (Value.slice none 0 0), (Value.bool false)])) (run_results3 rfl rfl rfl rfl) ?_
           have H52_ : Holds w26_ (ro R1 :: F) := (Holds.pkF H27_ [2] 2 :)
           exact ⟨R1, _, _, rfl, hsR1, (.inr ⟨rfl, rfl, (by unfold kLife; rw [if_pos (by omega), hrun]; exact kRun_no hx19_ (by rw [hkA]; exact kStep_chk (by unfold kChk; first | (simp_all; done) | (simp_all; omega))))⟩), S29_, H52_⟩
          ·have c50_fp : ¬ (x18_.kind ≠ 1) := of_decide_eq_false c50_f
           refine S_yes (j := 12) (dj := 53) (b := false) rfl rfl (congrArg Value.bool c50_f) (T_val (v := (Value.pointer (some ⟨b21_, 0, none⟩))) (by kernel_rfl) ?_)
           refine S_yes (j := 12) (dj := 53) (b := false) rfl rfl (congrArg Value.bool c50_f) (T_val (v := (Value.int .i64 x18_.kind)) (x_load1 rfl Try.underlying3 rfl ((Holds.rd H27_ 0 rfl) 0 (Value.int .i64 x18_.kind) rfl)) ?_)
           refine S_yes (j := 12) (dj := 53) (b := false) rfl rfl (congrArg Value.bool c50_f) (T_val (v := (Value.bool (decide (x18_.kind = 1)))) (x_bin rfl rfl rfl) ?_)
           refine S_yes (j := 12) (dj := 53) (b := false) rfl rfl (congrArg Value.bool c50_f) (T_val (v := (Value.bool (decide (x18_.kind = 1)))) (x_move rfl) ?_)
           rcases Bool.eq_false_or_eq_true (decide (x18_.kind = 1)) with c53_t | c53_f
           ·have c53_tp : x18_.kind = 1 := of_decide_eq_true c53_t
            refine S_no (j := 16) (dj := 57) (b := true) rfl rfl (congrArg Value.bool c53_t) (by decide) ?_
            refine S_no (j := 16) (dj := 57) (b := true) rfl rfl (congrArg Value.bool c53_t) (by decide) ?_
            refine S_no (j := 16) (dj := 57) (b := true) rfl rfl (congrArg Value.bool c53_t) (by decide) ?_
            refine S_yes (j := 12) (dj := 53) (b := false) rfl rfl (congrArg Value.bool c50_f) (T_pickT (v := (Value.bool true)) (congrArg Value.bool c53_t) rfl ?_)
            refine S_yes (j := 12) (dj := 53) (b := false) rfl rfl (congrArg Value.bool c50_f) (T_val (v := (Value.bool true)) (x_move rfl) ?_)
            refine S_yes (j := 21) (dj := 62) (b := true) rfl rfl rfl (T_val (v := (Value.pointer (some ⟨b21_, 1, none⟩))) (by kernel_rfl) ?_)
            refine S_yes (j := 21) (dj := 62) (b := true) rfl rfl rfl (T_val (v := (Value.agg #[(Value.int .i64 x18_.rev_Main), (Value.int .i64 x18_.rev_Sub)])) (x_loadN (vs := [(Value.int .i64 x18_.rev_Main), (Value.int .i64 x18_.rev_Sub)]) rfl Try.underlying31 rfl z31 rfl (Rd.cells (Holds.rd H27_ 0 rfl) 1 rfl)) ?_)
            have H55_ := ((Holds.bring H27_ 2 rfl) :)
            refine S_yes (j := 21) (dj := 62) (b := true) rfl rfl rfl (T_call (al := [(Value.agg #[(Value.int .i64 x18_.rev_Main), (Value.int .i64 x18_.rev_Sub)])]) (pre := []) rfl rfl cb15 (kIxRev R1 x18_.rev_Main x18_.rev_Sub) H55_ ?_)
            rintro v54_ p59_ w56_ ⟨rfl, rfl⟩ S58_ H57_
            have S60_ := Same.trans S29_ S58_
            refine S_yes (j := 21) (dj := 62) (b := true) rfl rfl rfl (T_val (v := (Value.bool (decide (¬ (1 ≤ x18_.rev_Main ∧ 0 ≤ x18_.rev_Sub))))) (x_notP rfl) ?_)
            refine S_yes (j := 12) (dj := 53) (b := false) rfl rfl (congrArg Value.bool c50_f) (T_pickT (v := (Value.bool (decide (¬ (1 ≤ x18_.rev_Main ∧ 0 ≤ x18_.rev_Sub))))) rfl rfl ?_)
            refine S_list (T_pickF (v := (Value.bool (decide (¬ (1 ≤ x18_.rev_Main ∧ 0 ≤ x18_.rev_Sub))))) (congrArg Value.bool c50_f) rfl ?_)
            refine wpList_nil ?_
            refine (X_then (hK47_ _ _ ?_))
            clear hK47_
            refine C_cond (b := decide (¬ (1 ≤ x18_.rev_Main ∧ 0 ≤ x18_.rev_Sub))) rfl (fun c61_t => ?_) (fun c61_f => ?_)
            ·have c61_tp : ¬ (1 ≤ x18_.rev_Main ∧ 0 ≤ x18_.rev_Sub) := of_decide_eq_true c61_t
             refine C_seq (fun K62_ hK62_ => ?_)
             refine C_reg ?_
             refine S_list (T_val (v := (Value.slice none 0 0)) (x_assign rfl) ?_)
             refine S_list (T_val (v := (Value.slice none 0 0)) (x_assign rfl) ?_)
             refine S_list (T_val (v := (Value.bool false)) (x_assign rfl) ?_)
             refine wpList_nil ?_
             refine (X_then (hK62_ _ _ ?_))
             clear hK62_
             refine C_ret (X_thenR (X_blkR (X_thenR (X_thenR (X_blkR (X_thenR ?_))))))
             refine R_any (v := (Value.tuple #[(Value.slice none 0 0), (Value.slice none 0 0), (Value.bool false)])) (run_results3 rfl rfl rfl rfl) ?_
             have H63_ : Holds w56_ (ro R1 :: F) := (Holds.pkF H57_ [0] 2 :)
             exact ⟨R1, _, _, rfl, hsR1, (.inr ⟨rfl, rfl, (by unfold kLife; rw [if_pos (by omega), hrun]; exact kRun_no hx19_ (by rw [hkA]; exact kStep_chk (by unfold kChk; first | (simp_all; done) | (simp_all; omega))))⟩), S60_, H63_⟩
            ·have c61_fp : ¬ (¬ (1 ≤ x18_.rev_Main ∧ 0 ≤ x18_.rev_Sub)) := of_decide_eq_false c61_f
             refine C_skip (X_then ?_)
             have H64_ : Holds w56_ (cl b21_ 39 [(Value.int .i64 x18_.kind), (Value.int .i64 x18_.rev_Main), (Value.int .i64 x18_.rev_Sub), (Value.int .i64 x18_.created_Main), (Value.int .i64 x18_.created_Sub), (Value.int .i64 x18_.ver), (Value.int .i64 x18_.at_)] :: sl 43 10 av (List.length A) (A.flatMap KA.cells) :: ro R1 :: F) := (Holds.pkF H57_ [1, 1, 0] 0 :)
             exact ⟨t4_v, a5_v, p6_v, _, congrArg (fun e => mkA 116 e []) (ch (ch (ch (ch (ch (ch (ch (ch (ch rfl rfl) rfl) rfl) rfl) rfl) rfl) rfl) rfl) rfl), H64_, S60_, (by omega)⟩
           ·have c53_fp : ¬ (x18_.kind = 1) := of_decide_eq_false c53_f
            refine S_yes (j := 16) (dj := 57) (b := false) rfl rfl (congrArg Value.bool c53_f) (T_val (v := (Value.pointer (some ⟨b21_, 0, none⟩))) (by kernel_rfl) ?_)
            refine S_yes (j := 16) (dj := 57) (b := false) rfl rfl (congrArg Value.bool c53_f) (T_val (v := (Value.int .i64 x18_.kind)) (x_load1 rfl Try.underlying3 rfl ((Holds.rd H27_ 0 rfl) 0 (Value.int .i64 x18_.kind) rfl)) ?_)
            refine S_yes (j := 16) (dj := 57) (b := false) rfl rfl (congrArg Value.bool c53_f) (T_val (v := (Value.bool (decide (x18_.kind = 2)))) (x_bin rfl rfl rfl) ?_)
            refine S_yes (j := 12) (dj := 53) (b := false) rfl rfl (congrArg Value.bool c50_f) (T_pickF (v := (Value.bool (decide (x18_.kind = 2)))) (congrArg Value.bool c53_f) rfl ?_)
            refine S_yes (j := 12) (dj := 53) (b := false) rfl rfl (congrArg Value.bool c50_f) (T_val (v := (Value.bool (decide (x18_.kind = 2)))) (x_move rfl) ?_)
            rcases Bool.eq_false_or_eq_true (decide (x18_.kind = 2)) with c65_t | c65_f
            ·have c65_tp : x18_.kind = 2 := of_decide_eq_true c65_t
             refine S_yes (j := 21) (dj := 62) (b := true) rfl rfl (congrArg Value.bool c65_t) (T_val (v := (Value.pointer (some ⟨b21_, 1, none⟩))) (by kernel_rfl) ?_)
             refine S_yes (j := 21) (dj := 62) (b := true) rfl rfl (congrArg Value.bool c65_t) (T_val (v := (Value.agg #[(Value.int .i64 x18_.rev_Main), (Value.int .i64 x18_.rev_Sub)])) (x_loadN (vs := [(Value.int .i64 x18_.rev_Main), (Value.int .i64 x18_.rev_Sub)]) rfl Try.underlying31 rfl z31 rfl (Rd.cells (Holds.rd H27_ 0 rfl) 1 rfl)) ?_)
             have H67_ := ((Holds.bring H27_ 2 rfl) :)
             refine S_yes (j := 21) (dj := 62) (b := true) rfl rfl (congrArg Value.bool c65_t) (T_call (al := [(Value.agg #[(Value.int .i64 x18_.rev_Main), (Value.int .i64 x18_.rev_Sub)])]) (pre := []) rfl rfl cb15 (kIxRev R1 x18_.rev_Main x18_.rev_Sub) H67_ ?_)
             rintro v66_ p71_ w68_ ⟨rfl, rfl⟩ S70_ H69_
             have S72_ := Same.trans S29_ S70_
             refine S_yes (j := 21) (dj := 62) (b := true) rfl rfl (congrArg Value.bool c65_t) (T_val (v := (Value.bool (decide (¬ (1 ≤ x18_.rev_Main ∧ 0 ≤ x18_.rev_Sub))))) (x_notP rfl) ?_)
             refine S_yes (j := 12) (dj := 53) (b := false) rfl rfl (congrArg Value.bool c50_f) (T_pickT (v := (Value.bool (decide (¬ (1 ≤ x18_.rev_Main ∧ 0 ≤ x18_.rev_Sub))))) (congrArg Value.bool c65_t) rfl ?_)
             refine S_list (T_pickF (v := (Value.bool (decide (¬ (1 ≤ x18_.rev_Main ∧ 0 ≤ x18_.rev_Sub))))) (congrArg Value.bool c50_f) rfl ?_)
             refine wpList_nil ?_
             refine (X_then (hK47_ _ _ ?_))
             clear hK47_
             refine C_cond (b := decide (¬ (1 ≤ x18_.rev_Main ∧ 0 ≤ x18_.rev_Sub))) rfl (fun c73_t => ?_) (fun c73_f => ?_)
             ·have c73_tp : ¬ (1 ≤ x18_.rev_Main ∧ 0 ≤ x18_.rev_Sub) := of_decide_eq_true c73_t
              refine C_seq (fun K74_ hK74_ => ?_)
              refine C_reg ?_
              refine S_list (T_val (v := (Value.slice none 0 0)) (x_assign rfl) ?_)
              refine S_list (T_val (v := (Value.slice none 0 0)) (x_assign rfl) ?_)
              refine S_list (T_val (v := (Value.bool false)) (x_assign rfl) ?_)
              refine wpList_nil ?_
              refine (X_then (hK74_ _ _ ?_))
              clear hK74_
              refine C_ret (X_thenR (X_blkR (X_thenR (X_thenR (X_blkR (X_thenR ?_))))))
              refine R_any (v := (Value.tuple #[(Value.slice none 0 0), (Value.slice none 0 0), (Value.bool false)])) (run_results3 rfl rfl rfl rfl) ?_
              have H75_ : Holds w68_ (ro R1 :: F) := (Holds.pkF H69_ [0] 2 :)
              exact ⟨R1, _, _, rfl, hsR1, (.inr ⟨rfl, rfl, (by unfold kLife; rw [if_pos (by omega), hrun]; exact kRun_no hx19_ (by rw [hkA]; exact kStep_chk (by unfold kChk; first | (simp_all; done) | (simp_all; omega))))⟩), S72_, H75_⟩
             ·have c73_fp : ¬ (¬ (1 ≤ x18_.rev_Main ∧ 0 ≤ x18_.rev_Sub)) := of_decide_eq_false c73_f
              refine C_skip (X_then ?_)
              have H76_ : Holds w68_ (cl b21_ 39 [(Value.int .i64 x18_.kind), (Value.int .i64 x18_.rev_Main), (Value.int .i64 x18_.rev_Sub), (Value.int .i64 x18_.created_Main), (Value.int .i64 x18_.created_Sub), (Value.int .i64 x18_.ver), (Value.int .i64 x18_.at_)] :: sl 43 10 av (List.length A) (A.flatMap KA.cells) :: ro R1 :: F) := (Holds.pkF H69_ [1, 1, 0] 0 :)
              exact ⟨t4_v, a5_v, p6_v, _, congrArg (fun e => mkA 116 e []) (ch (ch (ch (ch (ch (ch (ch (ch (ch rfl rfl) rfl) rfl) rfl) rfl) rfl) rfl) rfl) rfl), H76_, S72_, (by omega)⟩
            ·have c65_fp : ¬ (x18_.kind = 2) := of_decide_eq_false c65_f
             refine S_no (j := 21) (dj := 62) (b := false) rfl rfl (congrArg Value.bool c65_f) (by decide) ?_
             refine S_no (j := 21) (dj := 62) (b := false) rfl rfl (congrArg Value.bool c65_f) (by decide) ?_
             refine S_no (j := 21) (dj := 62) (b := false) rfl rfl (congrArg Value.bool c65_f) (by decide) ?_
             refine S_no (j := 21) (dj := 62) (b := false) rfl rfl (congrArg Value.bool c65_f) (by decide) ?_
             refine S_yes (j := 12) (dj := 53) (b := false) rfl rfl (congrArg Value.bool c50_f) (T_pickF (v := (Value.bool false)) (congrArg Value.bool c65_f) rfl ?_)
             refine S_list (T_pickF (v := (Value.bool false)) (congrArg Value.bool c50_f) rfl ?_)
             refine wpList_nil ?_
             refine (X_then (hK47_ _ _ ?_))
             clear hK47_
             refine C_condF rfl ?_
             refine C_skip (X_then ?_)
             exact ⟨t4_v, a5_v, p6_v, _, congrArg (fun e => mkA 116 e []) (ch (ch (ch (ch (ch (ch (ch (ch (ch rfl rfl) rfl) rfl) rfl) rfl) rfl) rfl) rfl) rfl), H27_, S29_, (by omega)⟩
         ·have c49_fp : ¬ (((List.length l) : Int) = 0) := of_decide_eq_false c49_f
          refine S_no (j := 7) (dj := 48) (b := false) rfl rfl (congrArg Value.bool c49_f) (by decide) ?_
          refine S_no (j := 7) (dj := 48) (b := false) rfl rfl (congrArg Value.bool c49_f) (by decide) ?_
          refine S_no (j := 7) (dj := 48) (b := false) rfl rfl (congrArg Value.bool c49_f) (by decide) ?_
          refine S_list (T_pickF (v := (Value.bool false)) (congrArg Value.bool c49_f) rfl ?_)
          refine S_list (T_val (v := (Value.bool false)) (x_move rfl) ?_)
          refine S_yes (j := 12) (dj := 53) (b := false) rfl rfl rfl (T_val (v := (Value.pointer (some ⟨b21_, 0, none⟩))) (by kernel_rfl) ?_)
          refine S_yes (j := 12) (dj := 53) (b := false) rfl rfl rfl (T_val (v := (Value.int .i64 x18_.kind)) (x_load1 rfl Try.underlying3 rfl ((Holds.rd H27_ 0 rfl) 0 (Value.int .i64 x18_.kind) rfl)) ?_)
          refine S_yes (j := 12) (dj := 53) (b := false) rfl rfl rfl (T_val (v := (Value.bool (decide (x18_.kind = 1)))) (x_bin rfl rfl rfl) ?_)
          refine S_yes (j := 12) (dj := 53) (b := false) rfl rfl rfl (T_val (v := (Value.bool (decide (x18_.kind = 1)))) (x_move rfl) ?_)
          rcases Bool.eq_false_or_eq_true (decide (x18_.kind = 1)) with c77_t | c77_f
          ·have c77_tp : x18_.kind = 1 := of_decide_eq_true c77_t
           refine S_no (j := 16) (dj := 57) (b := true) rfl rfl (congrArg Value.bool c77_t) (by decide) ?_
           refine S_no (j := 16) (dj := 57) (b := true) rfl rfl (congrArg Value.bool c77_t) (by decide) ?_
           refine S_no (j := 16) (dj := 57) (b := true) rfl rfl (congrArg Value.bool c77_t) (by decide) ?_
           refine S_yes (j := 12) (dj := 53) (b := false) rfl rfl rfl (T_pickT (v := (Value.bool true)) (congrArg Value.bool c77_t) rfl ?_)
           refine S_yes (j := 12) (dj := 53) (b := false) rfl rfl rfl (T_val (v := (Value.bool true)) (x_move rfl) ?_)
           refine S_yes (j := 21) (dj := 62) (b := true) rfl rfl rfl (T_val (v := (Value.pointer (some ⟨b21_, 1, none⟩))) (by kernel_rfl) ?_)
           refine S_yes (j := 21) (dj := 62) (b := true) rfl rfl rfl (T_val (v := (Value.agg #[(Value.int .i64 x18_.rev_Main), (Value.int .i64 x18_.rev_Sub)])) (x_loadN (vs := [(Value.int .i64 x18_.rev_Main), (Value.int .i64 x18_.rev_Sub)]) rfl Try.underlying31 rfl z31 rfl (Rd.cells (Holds.rd H27_ 0 rfl) 1 rfl)) ?_)
           have H79_ := ((Holds.bring H27_ 2 rfl) :)
           refine S_yes (j := 21) (dj := 62) (b := true) rfl rfl rfl (T_call (al := [(Value.agg #[(Value.int .i64 x18_.rev_Main), (Value.int .i64 x18_.rev_Sub)])]) (pre := []) rfl rfl cb15 (kIxRev R1 x18_.rev_Main x18_.rev_Sub) H79_ ?_)
           rintro v78_ p83_ w80_ ⟨rfl, rfl⟩ S82_ H81_
           have S84_ := Same.trans S29_ S82_
           refine S_yes (j := 21) (dj := 62) (b := true) rfl rfl rfl (T_val (v := (Value.bool (decide (¬ (1 ≤ x18_.rev_Main ∧ 0 ≤ x18_.rev_Sub))))) (x_notP rfl) ?_)
           refine S_yes (j := 12) (dj := 53) (b := false) rfl rfl rfl (T_pickT (v := (Value.bool (decide (¬ (1 ≤ x18_.rev_Main ∧ 0 ≤ x18_.rev_Sub))))) rfl rfl ?_)
           refine S_list (T_pickF (v := (Value.bool (decide (¬ (1 ≤ x18_.rev_Main ∧ 0 ≤ x18_.rev_Sub))))) rfl rfl ?_)
           refine wpList_nil ?_
           refine (X_then (hK47_ _ _ ?_))
           clear hK47_
           refine C_cond (b := decide (¬ (1 ≤ x18_.rev_Main ∧ 0 ≤ x18_.rev_Sub))) rfl (fun c85_t => ?_) (fun c85_f => ?_)
           ·have c85_tp : ¬ (1 ≤ x18_.rev_Main ∧ 0 ≤ x18_.rev_Sub) := of_decide_eq_true c85_t
            refine C_seq (fun K86_ hK86_ => ?_)
            refine C_reg ?_
            refine S_list (T_val (v := (Value.slice none 0 0)) (x_assign rfl) ?_)
            refine S_list (T_val (v := (Value.slice none 0 0)) (x_assign rfl) ?_)
            refine S_list (T_val (v := (Value.bool false)) (x_assign rfl) ?_)
            refine wpList_nil ?_
            refine (X_then (hK86_ _ _ ?_))
            clear hK86_
            refine C_ret (X_thenR (X_blkR (X_thenR (X_thenR (X_blkR (X_thenR ?_))))))
            refine R_any (v := (Value.tuple #[(Value.slice none 0 0), (Value.slice none 0 0), (Value.bool false)])) (run_results3 rfl rfl rfl rfl) ?_
            have H87_ : Holds w80_ (ro R1 :: F) := (Holds.pkF H81_ [0] 2 :)
            exact ⟨R1, _, _, rfl, hsR1, (.inr ⟨rfl, rfl, (by unfold kLife; rw [if_pos (by omega), hrun]; exact kRun_no hx19_ (by rw [hkA]; exact kStep_chk (by unfold kChk; first | (simp_all; done) | (simp_all; omega))))⟩), S84_, H87_⟩
           ·have c85_fp : ¬ (¬ (1 ≤ x18_.rev_Main ∧ 0 ≤ x18_.rev_Sub)) := of_decide_eq_false c85_f
            refine C_skip (X_then ?_)
            have H88_ : Holds w80_ (cl b21_ 39 [(Value.int .i64 x18_.kind), (Value.int .i64 x18_.rev_Main), (Value.int .i64 x18_.rev_Sub), (Value.int .i64 x18_.created_Main), (Value.int .i64 x18_.created_Sub), (Value.int .i64 x18_.ver), (Value.int .i64 x18_.at_)] :: sl 43 10 av (List.length A) (A.flatMap KA.cells) :: ro R1 :: F) := (Holds.pkF H81_ [1, 1, 0] 0 :)
            exact ⟨t4_v, a5_v, p6_v, _, congrArg (fun e => mkA 116 e []) (ch (ch (ch (ch (ch (ch (ch (ch (ch rfl rfl) rfl) rfl) rfl) rfl) rfl) rfl) rfl) rfl), H88_, S84_, (by omega)⟩
          ·have c77_fp : ¬ (x18_.kind = 1) := of_decide_eq_false c77_f
           refine S_yes (j := 16) (dj := 57) (b := false) rfl rfl (congrArg Value.bool c77_f) (T_val (v := (Value.pointer (some ⟨b21_, 0, none⟩))) (by kernel_rfl) ?_)
           refine S_yes (j := 16) (dj := 57) (b := false) rfl rfl (congrArg Value.bool c77_f) (T_val (v := (Value.int .i64 x18_.kind)) (x_load1 rfl Try.underlying3 rfl ((Holds.rd H27_ 0 rfl) 0 (Value.int .i64 x18_.kind) rfl)) ?_)
           refine S_yes (j := 16) (dj := 57) (b := false) rfl rfl (congrArg Value.bool c77_f) (T_val (v := (Value.bool (decide (x18_.kind = 2)))) (x_bin rfl rfl rfl) ?_)
           refine S_yes (j := 12) (dj := 53) (b := false) rfl rfl rfl (T_pickF (v := (Value.bool (decide (x18_.kind = 2)))) (congrArg Value.bool c77_f) rfl ?_)
           refine S_yes (j := 12) (dj := 53) (b := false) rfl rfl rfl (T_val (v := (Value.bool (decide (x18_.kind = 2)))) (x_move rfl) ?_)
           rcases Bool.eq_false_or_eq_true (decide (x18_.kind = 2)) with c89_t | c89_f
           ·have c89_tp : x18_.kind = 2 := of_decide_eq_true c89_t
            refine S_yes (j := 21) (dj := 62) (b := true) rfl rfl (congrArg Value.bool c89_t) (T_val (v := (Value.pointer (some ⟨b21_, 1, none⟩))) (by kernel_rfl) ?_)
            refine S_yes (j := 21) (dj := 62) (b := true) rfl rfl (congrArg Value.bool c89_t) (T_val (v := (Value.agg #[(Value.int .i64 x18_.rev_Main), (Value.int .i64 x18_.rev_Sub)])) (x_loadN (vs := [(Value.int .i64 x18_.rev_Main), (Value.int .i64 x18_.rev_Sub)]) rfl Try.underlying31 rfl z31 rfl (Rd.cells (Holds.rd H27_ 0 rfl) 1 rfl)) ?_)
            have H91_ := ((Holds.bring H27_ 2 rfl) :)
            refine S_yes (j := 21) (dj := 62) (b := true) rfl rfl (congrArg Value.bool c89_t) (T_call (al := [(Value.agg #[(Value.int .i64 x18_.rev_Main), (Value.int .i64 x18_.rev_Sub)])]) (pre := []) rfl rfl cb15 (kIxRev R1 x18_.rev_Main x18_.rev_Sub) H91_ ?_)
            rintro v90_ p95_ w92_ ⟨rfl, rfl⟩ S94_ H93_
            have S96_ := Same.trans S29_ S94_
            refine S_yes (j := 21) (dj := 62) (b := true) rfl rfl (congrArg Value.bool c89_t) (T_val (v := (Value.bool (decide (¬ (1 ≤ x18_.rev_Main ∧ 0 ≤ x18_.rev_Sub))))) (x_notP rfl) ?_)
            refine S_yes (j := 12) (dj := 53) (b := false) rfl rfl rfl (T_pickT (v := (Value.bool (decide (¬ (1 ≤ x18_.rev_Main ∧ 0 ≤ x18_.rev_Sub))))) (congrArg Value.bool c89_t) rfl ?_)
            refine S_list (T_pickF (v := (Value.bool (decide (¬ (1 ≤ x18_.rev_Main ∧ 0 ≤ x18_.rev_Sub))))) rfl rfl ?_)
            refine wpList_nil ?_
            refine (X_then (hK47_ _ _ ?_))
            clear hK47_
            refine C_cond (b := decide (¬ (1 ≤ x18_.rev_Main ∧ 0 ≤ x18_.rev_Sub))) rfl (fun c97_t => ?_) (fun c97_f => ?_)
            ·have c97_tp : ¬ (1 ≤ x18_.rev_Main ∧ 0 ≤ x18_.rev_Sub) := of_decide_eq_true c97_t
             refine C_seq (fun K98_ hK98_ => ?_)
             refine C_reg ?_
             refine S_list (T_val (v := (Value.slice none 0 0)) (x_assign rfl) ?_)
             refine S_list (T_val (v := (Value.slice none 0 0)) (x_assign rfl) ?_)
             refine S_list (T_val (v := (Value.bool false)) (x_assign rfl) ?_)
             refine wpList_nil ?_
             refine (X_then (hK98_ _ _ ?_))
             clear hK98_
             refine C_ret (X_thenR (X_blkR (X_thenR (X_thenR (X_blkR (X_thenR ?_))))))
             refine R_any (v := (Value.tuple #[(Value.slice none 0 0), (Value.slice none 0 0), (Value.bool false)])) (run_results3 rfl rfl rfl rfl) ?_
             have H99_ : Holds w92_ (ro R1 :: F) := (Holds.pkF H93_ [0] 2 :)
             exact ⟨R1, _, _, rfl, hsR1, (.inr ⟨rfl, rfl, (by unfold kLife; rw [if_pos (by omega), hrun]; exact kRun_no hx19_ (by rw [hkA]; exact kStep_chk (by unfold kChk; first | (simp_all; done) | (simp_all; omega))))⟩), S96_, H99_⟩
            ·have c97_fp : ¬ (¬ (1 ≤ x18_.rev_Main ∧ 0 ≤ x18_.rev_Sub)) := of_decide_eq_false c97_f
             refine C_skip (X_then ?_)
             have H100_ : Holds w92_ (cl b21_ 39 [(Value.int .i64 x18_.kind), (Value.int .i64 x18_.rev_Main), (Value.int .i64 x18_.rev_Sub), (Value.int .i64 x18_.created_Main), (Value.int .i64 x18_.created_Sub), (Value.int .i64 x18_.ver), (Value.int .i64 x18_.at_)] :: sl 43 10 av (List.length A) (A.flatMap KA.cells) :: ro R1 :: F) := (Holds.pkF H93_ [1, 1, 0] 0 :)
             exact ⟨t4_v, a5_v, p6_v, _, congrArg (fun e => mkA 116 e []) (ch (ch (ch (ch (ch (ch (ch (ch (ch rfl rfl) rfl) rfl) rfl) rfl) rfl) rfl) rfl) rfl), H100_, S96_, (by omega)⟩
           ·have c89_fp : ¬ (x18_.kind = 2) := of_decide_eq_false c89_f
            refine S_no (j := 21) (dj := 62) (b := false) rfl rfl (congrArg Value.bool c89_f) (by decide) ?_
            refine S_no (j := 21) (dj := 62) (b := false) rfl rfl (congrArg Value.bool c89_f) (by decide) ?_
            refine S_no (j := 21) (dj := 62) (b := false) rfl rfl (congrArg Value.bool c89_f) (by decide) ?_
            refine S_no (j := 21) (dj := 62) (b := false) rfl rfl (congrArg Value.bool c89_f) (by decide) ?_
            refine S_yes (j := 12) (dj := 53) (b := false) rfl rfl rfl (T_pickF (v := (Value.bool false)) (congrArg Value.bool c89_f) rfl ?_)
            refine S_list (T_pickF (v := (Value.bool false)) rfl rfl ?_)
            refine wpList_nil ?_
            refine (X_then (hK47_ _ _ ?_))
            clear hK47_
            refine C_condF rfl ?_
            refine C_skip (X_then ?_)
            exact ⟨t4_v, a5_v, p6_v, _, congrArg (fun e => mkA 116 e []) (ch (ch (ch (ch (ch (ch (ch (ch (ch rfl rfl) rfl) rfl) rfl) rfl) rfl) rfl) rfl) rfl), H27_, S29_, (by omega)⟩
        ·have c48_fp : ¬ ((k : Int) = 0) := of_decide_eq_false c48_f
         refine S_no (j := 2) (dj := 43) (b := false) rfl rfl (congrArg Value.bool c48_f) (by decide) ?_
         refine S_no (j := 2) (dj := 43) (b := false) rfl rfl (congrArg Value.bool c48_f) (by decide) ?_
         refine S_no (j := 2) (dj := 43) (b := false) rfl rfl (congrArg Value.bool c48_f) (by decide) ?_
         refine S_list (T_pickF (v := (Value.bool false)) (congrArg Value.bool c48_f) rfl ?_)
         refine S_list (T_val (v := (Value.bool false)) (x_move rfl) ?_)
         refine S_no (j := 7) (dj := 48) (b := false) rfl rfl rfl (by decide) ?_
         refine S_no (j := 7) (dj := 48) (b := false) rfl rfl rfl (by decide) ?_
         refine S_no (j := 7) (dj := 48) (b := false) rfl rfl rfl (by decide) ?_
         refine S_list (T_pickF (v := (Value.bool false)) rfl rfl ?_)
         refine S_list (T_val (v := (Value.bool false)) (x_move rfl) ?_)
         refine S_yes (j := 12) (dj := 53) (b := false) rfl rfl rfl (T_val (v := (Value.pointer (some ⟨b21_, 0, none⟩))) (by kernel_rfl) ?_)
         refine S_yes (j := 12) (dj := 53) (b := false) rfl rfl rfl (T_val (v := (Value.int .i64 x18_.kind)) (x_load1 rfl Try.underlying3 rfl ((Holds.rd H27_ 0 rfl) 0 (Value.int .i64 x18_.kind) rfl)) ?_)
         refine S_yes (j := 12) (dj := 53) (b := false) rfl rfl rfl (T_val (v := (Value.bool (decide (x18_.kind = 1)))) (x_bin rfl rfl rfl) ?_)
         refine S_yes (j := 12) (dj := 53) (b := false) rfl rfl rfl (T_val (v := (Value.bool (decide (x18_.kind = 1)))) (x_move rfl) ?_)
         rcases Bool.eq_false_or_eq_true (decide (x18_.kind = 1)) with c101_t | c101_f
         ·have c101_tp : x18_.kind = 1 := of_decide_eq_true c101_t
          refine S_no (j := 16) (dj := 57) (b := true) rfl rfl (congrArg Value.bool c101_t) (by decide) ?_
          refine S_no (j := 16) (dj := 57) (b := true) rfl rfl (congrArg Value.bool c101_t) (by decide) ?_
          refine S_no (j := 16) (dj := 57) (b := true) rfl rfl (congrArg Value.bool c101_t) (by decide) ?_
          refine S_yes (j := 12) (dj := 53) (b := false) rfl rfl rfl (T_pickT (v := (Value.bool true)) (congrArg Value.bool c101_t) rfl ?_)
          refine S_yes (j := 12) (dj := 53) (b := false) rfl rfl rfl (T_val (v := (Value.bool true)) (x_move rfl) ?_)
          refine S_yes (j := 21) (dj := 62) (b := true) rfl rfl rfl (T_val (v := (Value.pointer (some ⟨b21_, 1, none⟩))) (by kernel_rfl) ?_)
          refine S_yes (j := 21) (dj := 62) (b := true) rfl rfl rfl (T_val (v := (Value.agg #[(Value.int .i64 x18_.rev_Main), (Value.int .i64 x18_.rev_Sub)])) (x_loadN (vs := [(Value.int .i64 x18_.rev_Main), (Value.int .i64 x18_.rev_Sub)]) rfl Try.underlying31 rfl z31 rfl (Rd.cells (Holds.rd H27_ 0 rfl) 1 rfl)) ?_)
          have H103_ := ((Holds.bring H27_ 2 rfl) :)
          refine S_yes (j := 21) (dj := 62) (b := true) rfl rfl rfl (T_call (al := [(Value.agg #[(Value.int .i64 x18_.rev_Main), (Value.int .i64 x18_.rev_Sub)])]) (pre := []) rfl rfl cb15 (kIxRev R1 x18_.rev_Main x18_.rev_Sub) H103_ ?_)
          rintro v102_ p107_ w104_ ⟨rfl, rfl⟩ S106_ H105_
          have S108_ := Same.trans S29_ S106_
          refine S_yes (j := 21) (dj := 62) (b := true) rfl rfl rfl (T_val (v := (Value.bool (decide (¬ (1 ≤ x18_.rev_Main ∧ 0 ≤ x18_.rev_Sub))))) (x_notP rfl) ?_)
          refine S_yes (j := 12) (dj := 53) (b := false) rfl rfl rfl (T_pickT (v := (Value.bool (decide (¬ (1 ≤ x18_.rev_Main ∧ 0 ≤ x18_.rev_Sub))))) rfl rfl ?_)
          refine S_list (T_pickF (v := (Value.bool (decide (¬ (1 ≤ x18_.rev_Main ∧ 0 ≤ x18_.rev_Sub))))) rfl rfl ?_)
          refine wpList_nil ?_
          refine (X_then (hK47_ _ _ ?_))
          clear hK47_
          refine C_cond (b := decide (¬ (1 ≤ x18_.rev_Main ∧ 0 ≤ x18_.rev_Sub))) rfl (fun c109_t => ?_) (fun c109_f => ?_)
          ·have c109_tp : ¬ (1 ≤ x18_.rev_Main ∧ 0 ≤ x18_.rev_Sub) := of_decide_eq_true c109_t
           refine C_seq (fun K110_ hK110_ => ?_)
           refine C_reg ?_
           refine S_list (T_val (v := (Value.slice none 0 0)) (x_assign rfl) ?_)
           refine S_list (T_val (v := (Value.slice none 0 0)) (x_assign rfl) ?_)
           refine S_list (T_val (v := (Value.bool false)) (x_assign rfl) ?_)
           refine wpList_nil ?_
           refine (X_then (hK110_ _ _ ?_))
           clear hK110_
           refine C_ret (X_thenR (X_blkR (X_thenR (X_thenR (X_blkR (X_thenR ?_))))))
           refine R_any (v := (Value.tuple #[(Value.slice none 0 0), (Value.slice none 0 0), (Value.bool false)])) (run_results3 rfl rfl rfl rfl) ?_
           have H111_ : Holds w104_ (ro R1 :: F) := (Holds.pkF H105_ [0] 2 :)
           exact ⟨R1, _, _, rfl, hsR1, (.inr ⟨rfl, rfl, (by unfold kLife; rw [if_pos (by omega), hrun]; exact kRun_no hx19_ (by rw [hkA]; exact kStep_chk (by unfold kChk; first | (simp_all; done) | (simp_all; omega))))⟩), S108_, H111_⟩
          ·have c109_fp : ¬ (¬ (1 ≤ x18_.rev_Main ∧ 0 ≤ x18_.rev_Sub)) := of_decide_eq_false c109_f
           refine C_skip (X_then ?_)
           have H112_ : Holds w104_ (cl b21_ 39 [(Value.int .i64 x18_.kind), (Value.int .i64 x18_.rev_Main), (Value.int .i64 x18_.rev_Sub), (Value.int .i64 x18_.created_Main), (Value.int .i64 x18_.created_Sub), (Value.int .i64 x18_.ver), (Value.int .i64 x18_.at_)] :: sl 43 10 av (List.length A) (A.flatMap KA.cells) :: ro R1 :: F) := (Holds.pkF H105_ [1, 1, 0] 0 :)
           exact ⟨t4_v, a5_v, p6_v, _, congrArg (fun e => mkA 116 e []) (ch (ch (ch (ch (ch (ch (ch (ch (ch rfl rfl) rfl) rfl) rfl) rfl) rfl) rfl) rfl) rfl), H112_, S108_, (by omega)⟩
         ·have c101_fp : ¬ (x18_.kind = 1) := of_decide_eq_false c101_f
          refine S_yes (j := 16) (dj := 57) (b := false) rfl rfl (congrArg Value.bool c101_f) (T_val (v := (Value.pointer (some ⟨b21_, 0, none⟩))) (by kernel_rfl) ?_)
          refine S_yes (j := 16) (dj := 57) (b := false) rfl rfl (congrArg Value.bool c101_f) (T_val (v := (Value.int .i64 x18_.kind)) (x_load1 rfl Try.underlying3 rfl ((Holds.rd H27_ 0 rfl) 0 (Value.int .i64 x18_.kind) rfl)) ?_)
          refine S_yes (j := 16) (dj := 57) (b := false) rfl rfl (congrArg Value.bool c101_f) (T_val (v := (Value.bool (decide (x18_.kind = 2)))) (x_bin rfl rfl rfl) ?_)
          refine S_yes (j := 12) (dj := 53) (b := false) rfl rfl rfl (T_pickF (v := (Value.bool (decide (x18_.kind = 2)))) (congrArg Value.bool c101_f) rfl ?_)
          refine S_yes (j := 12) (dj := 53) (b := false) rfl rfl rfl (T_val (v := (Value.bool (decide (x18_.kind = 2)))) (x_move rfl) ?_)
          rcases Bool.eq_false_or_eq_true (decide (x18_.kind = 2)) with c113_t | c113_f
          ·have c113_tp : x18_.kind = 2 := of_decide_eq_true c113_t
           refine S_yes (j := 21) (dj := 62) (b := true) rfl rfl (congrArg Value.bool c113_t) (T_val (v := (Value.pointer (some ⟨b21_, 1, none⟩))) (by kernel_rfl) ?_)
           refine S_yes (j := 21) (dj := 62) (b := true) rfl rfl (congrArg Value.bool c113_t) (T_val (v := (Value.agg #[(Value.int .i64 x18_.rev_Main), (Value.int .i64 x18_.rev_Sub)])) (x_loadN (vs := [(Value.int .i64 x18_.rev_Main), (Value.int .i64 x18_.rev_Sub)]) rfl Try.underlying31 rfl z31 rfl (Rd.cells (Holds.rd H27_ 0 rfl) 1 rfl)) ?_)
           have H115_ := ((Holds.bring H27_ 2 rfl) :)
           refine S_yes (j := 21) (dj := 62) (b := true) rfl rfl (congrArg Value.bool c113_t) (T_call (al := [(Value.agg #[(Value.int .i64 x18_.rev_Main), (Value.int .i64 x18_.rev_Sub)])]) (pre := []) rfl rfl cb15 (kIxRev R1 x18_.rev_Main x18_.rev_Sub) H115_ ?_)
           rintro v114_ p119_ w116_ ⟨rfl, rfl⟩ S118_ H117_
           have S120_ := Same.trans S29_ S118_
           refine S_yes (j := 21) (dj := 62) (b := true) rfl rfl (congrArg Value.bool c113_t) (T_val (v := (Value.bool (decide (¬ (1 ≤ x18_.rev_Main ∧ 0 ≤ x18_.rev_Sub))))) (x_notP rfl) ?_)
           refine S_yes (j := 12) (dj := 53) (b := false) rfl rfl rfl (T_pickT (v := (Value.bool (decide (¬ (1 ≤ x18_.rev_Main ∧ 0 ≤ x18_.rev_Sub))))) (congrArg Value.bool c113_t) rfl ?_)
           refine S_list (T_pickF (v := (Value.bool (decide (¬ (1 ≤ x18_.rev_Main ∧ 0 ≤ x18_.rev_Sub))))) rfl rfl ?_)
           refine wpList_nil ?_
           refine (X_then (hK47_ _ _ ?_))
           clear hK47_
           refine C_cond (b := decide (¬ (1 ≤ x18_.rev_Main ∧ 0 ≤ x18_.rev_Sub))) rfl (fun c121_t => ?_) (fun c121_f => ?_)
           ·have c121_tp : ¬ (1 ≤ x18_.rev_Main ∧ 0 ≤ x18_.rev_Sub) := of_decide_eq_true c121_t
            refine C_seq (fun K122_ hK122_ => ?_)
            refine C_reg ?_
            refine S_list (T_val (v := (Value.slice none 0 0)) (x_assign rfl) ?_)
            refine S_list (T_val (v := (Value.slice none 0 0)) (x_assign rfl) ?_)
            refine S_list (T_val (v := (Value.bool false)) (x_assign rfl) ?_)
            refine wpList_nil ?_
            refine (X_then (hK122_ _ _ ?_))
            clear hK122_
            refine C_ret (X_thenR (X_blkR (X_thenR (X_thenR (X_blkR (X_thenR ?_))))))
            refine R_any (v := (Value.tuple #[(Value.slice none 0 0), (Value.slice none 0 0), (Value.bool false)])) (run_results3 rfl rfl rfl rfl) ?_
            have H123_ : Holds w116_ (ro R1 :: F) := (Holds.pkF H117_ [0] 2 :)
            exact ⟨R1, _, _, rfl, hsR1, (.inr ⟨rfl, rfl, (by unfold kLife; rw [if_pos (by omega), hrun]; exact kRun_no hx19_ (by rw [hkA]; exact kStep_chk (by unfold kChk; first | (simp_all; done) | (simp_all; omega))))⟩), S120_, H123_⟩
           ·have c121_fp : ¬ (¬ (1 ≤ x18_.rev_Main ∧ 0 ≤ x18_.rev_Sub)) := of_decide_eq_false c121_f
            refine C_skip (X_then ?_)
            have H124_ : Holds w116_ (cl b21_ 39 [(Value.int .i64 x18_.kind), (Value.int .i64 x18_.rev_Main), (Value.int .i64 x18_.rev_Sub), (Value.int .i64 x18_.created_Main), (Value.int .i64 x18_.created_Sub), (Value.int .i64 x18_.ver), (Value.int .i64 x18_.at_)] :: sl 43 10 av (List.length A) (A.flatMap KA.cells) :: ro R1 :: F) := (Holds.pkF H117_ [1, 1, 0] 0 :)
            exact ⟨t4_v, a5_v, p6_v, _, congrArg (fun e => mkA 116 e []) (ch (ch (ch (ch (ch (ch (ch (ch (ch rfl rfl) rfl) rfl) rfl) rfl) rfl) rfl) rfl) rfl), H124_, S120_, (by omega)⟩
          ·have c113_fp : ¬ (x18_.kind = 2) := of_decide_eq_false c113_f
           refine S_no (j := 21) (dj := 62) (b := false) rfl rfl (congrArg Value.bool c113_f) (by decide) ?_
           refine S_no (j := 21) (dj := 62) (b := false) rfl rfl (congrArg Value.bool c113_f) (by decide) ?_
           refine S_no (j := 21) (dj := 62) (b := false) rfl rfl (congrArg Value.bool c113_f) (by decide) ?_
           refine S_no (j := 21) (dj := 62) (b := false) rfl rfl (congrArg Value.bool c113_f) (by decide) ?_
           refine S_yes (j := 12) (dj := 53) (b := false) rfl rfl rfl (T_pickF (v := (Value.bool false)) (congrArg Value.bool c113_f) rfl ?_)
           refine S_list (T_pickF (v := (Value.bool false)) rfl rfl ?_)
           refine wpList_nil ?_
           refine (X_then (hK47_ _ _ ?_))
           clear hK47_
           refine C_condF rfl ?_
           refine C_skip (X_then ?_)
           exact ⟨t4_v, a5_v, p6_v, _, congrArg (fun e => mkA 116 e []) (ch (ch (ch (ch (ch (ch (ch (ch (ch rfl rfl) rfl) rfl) rfl) rfl) rfl) rfl) rfl) rfl), H27_, S29_, (by omega)⟩
       ·rintro _ w44_ ⟨t4_v, a5_v, p6_v, h, rfl, H45_, S46_, hc1⟩
        refine C_cut (fun a__ w1__ => ∃ t4_v : Value, ∃ a5_v : Value, ∃ p6_v : Bool, ∃ h : Env, a__ = mkA 116 (upd (upd (upd (upd (upd (upd (upd (upd (upd h 0 lv) 4 t4_v) 5 a5_v) 6 (Value.bool p6_v)) 7 av) 9 (Value.pointer (some ⟨b21_, 0, none⟩))) 16 ov) 17 (Value.int .i64 ((List.length O) : Int))) 18 (Value.int .i64 (k : Int))) [] ∧ Holds w1__ (cl b21_ 39 [(Value.int .i64 x18_.kind), (Value.int .i64 x18_.rev_Main), (Value.int .i64 x18_.rev_Sub), (Value.int .i64 x18_.created_Main), (Value.int .i64 x18_.created_Sub), (Value.int .i64 x18_.ver), (Value.int .i64 x18_.at_)] :: sl 43 10 av (List.length A) (A.flatMap KA.cells) :: ro R1 :: F) ∧ Same w w1__ ∧ (kChk k l x18_)) ?_ ?_
        ·refine C_seq (fun K128_ hK128_ => ?_)
         refine A_start (S := fun w => Rd b21_ [(Value.int .i64 x18_.kind), (Value.int .i64 x18_.rev_Main), (Value.int .i64 x18_.rev_Sub), (Value.int .i64 x18_.created_Main), (Value.int .i64 x18_.created_Sub), (Value.int .i64 x18_.ver), (Value.int .i64 x18_.at_)] w ∧ SlRd av (A.flatMap KA.cells) w ∧ Sub R1 (hp w)) (N := 22) foll rfl rfl ?_
         have H129_ := Holds.drew_ H45_
         have hq130_ := And.intro (Holds.rd H129_ 0 rfl) (And.intro (Holds.slrd H129_ 1 rfl) ((Holds.ro_at H129_ 2 rfl)))
         refine A_tk 0 (v := (Value.pointer (some ⟨b21_, 0, none⟩))) rfl (by kernel_rfl) (fun w hS => by kernel_rfl) hq130_ ?_
         refine A_tk 1 (v := (Value.int .i64 x18_.kind)) rfl (by kernel_rfl) (fun w hS => x_load1 rfl Try.underlying3 rfl (hS.1 0 (Value.int .i64 x18_.kind) rfl)) hq130_ ?_
         refine A_tk 2 (v := (Value.bool (decide (x18_.kind = 1)))) rfl (by kernel_rfl) (fun w hS => x_bin rfl rfl rfl) hq130_ ?_
         refine A_tk 3 (v := (Value.bool (decide (x18_.kind = 1)))) rfl (by kernel_rfl) (fun w hS => x_move rfl) hq130_ ?_
         rcases Bool.eq_false_or_eq_true (decide (x18_.kind = 1)) with c131_t | c131_f
         ·have c131_tp : x18_.kind = 1 := of_decide_eq_true c131_t
          refine A_tkY 4 (j := 3) (dj := 72) (b := true) (v := lv) rfl (by kernel_rfl) rfl rfl (congrArg Value.bool c131_t) (fun w hS => x_move rfl) hq130_ ?_
          refine A_tkY 5 (j := 3) (dj := 72) (b := true) (v := (Value.int .i64 ((List.length l) : Int))) rfl (by kernel_rfl) rfl rfl (congrArg Value.bool c131_t) (fun w hS => x_lenRS rfl hlR Try.underlying23) hq130_ ?_
          refine A_tkY 6 (j := 3) (dj := 72) (b := true) (v := (Value.bool (decide (0 < ((List.length l) : Int))))) rfl (by kernel_rfl) rfl rfl (congrArg Value.bool c131_t) (fun w hS => x_bin rfl rfl rfl) hq130_ ?_
          refine A_tk 7 (v := (Value.bool (decide (0 < ((List.length l) : Int))))) rfl (by kernel_rfl) (fun w hS => (x_pickT (congrArg Value.bool c131_t) rfl)) hq130_ ?_
          refine A_tk 8 (v := (Value.bool (decide (0 < ((List.length l) : Int))))) rfl (by kernel_rfl) (fun w hS => x_move rfl) hq130_ ?_
          rcases Bool.eq_false_or_eq_true (decide (0 < ((List.length l) : Int))) with c132_t | c132_f
          ·have c132_tp : 0 < ((List.length l) : Int) := of_decide_eq_true c132_t
           refine A_tkY 9 (j := 8) (dj := 77) (b := true) (v := lv) rfl (by kernel_rfl) rfl rfl (congrArg Value.bool c132_t) (fun w hS => x_move rfl) hq130_ ?_
           refine A_ready (i := 10) (rs := []) (by kernel_rfl) ?_
           refine AllR.cons ?_ AllR.nil
           have H134_ := ((Holds.bring H129_ 2 rfl) :)
           refine A_opYes (ls' := #[true, true, true, true, true, true, true, true, true, true, true, false, false, false, false, false, false, false, false, false, false, false]) (j := 8) (dj := 77) (b := true) rfl (by kernel_rfl) rfl rfl (congrArg Value.bool c132_t) (T_call (al := [lv]) (pre := []) rfl rfl cb16 (kLives R1 lv l hlR (by omega)) H134_ ?_)
           rintro v133_ p138_ w135_ ⟨rfl, rfl⟩ S137_ H136_
           have S139_ := Same.trans (Same.trans S46_ (Same.drew _)) S137_
           refine ⟨⟨Holds.rd H136_ 1 rfl, Holds.slrd H136_ 2 rfl, (Holds.ro_at H136_ 0 rfl)⟩, ?_⟩
           have hq140_ := And.intro (Holds.rd H136_ 1 rfl) (And.intro (Holds.slrd H136_ 2 rfl) ((Holds.ro_at H136_ 0 rfl)))
           refine A_tkY 11 (j := 8) (dj := 77) (b := true) (v := (Value.bool (!(!(vLast l).gone)))) rfl (by kernel_rfl) rfl rfl (congrArg Value.bool c132_t) (fun w hS => x_not rfl) hq140_ ?_
           refine A_tk 12 (v := (Value.bool (!(!(vLast l).gone)))) rfl (by kernel_rfl) (fun w hS => (x_pickT (congrArg Value.bool c132_t) rfl)) hq140_ ?_
           refine A_tk 13 (v := (Value.bool (!(!(vLast l).gone)))) rfl (by kernel_rfl) (fun w hS => x_move rfl) hq140_ ?_
           rcases Bool.eq_false_or_eq_true (!(!(vLast l).gone)) with c141_t | c141_f
           ·skip
            refine A_tkY 14 (j := 13) (dj := 82) (b := true) (v := lv) rfl (by kernel_rfl) rfl rfl (congrArg Value.bool c141_t) (fun w hS => x_move rfl) hq140_ ?_
            refine A_tkY 17 (j := 13) (dj := 82) (b := true) (v := (Value.pointer (some ⟨b21_, 1, none⟩))) rfl (by kernel_rfl) rfl rfl (congrArg Value.bool c141_t) (fun w hS => by kernel_rfl) hq140_ ?_
            refine A_tkY 18 (j := 13) (dj := 82) (b := true) (v := (Value.pointer (some ⟨b21_, 1, none⟩))) rfl (by kernel_rfl) rfl rfl (congrArg Value.bool c141_t) (fun w hS => by kernel_rfl) hq140_ ?_
            refine A_tkY 19 (j := 13) (dj := 82) (b := true) (v := (Value.int .i64 x18_.rev_Main)) rfl (by kernel_rfl) rfl rfl (congrArg Value.bool c141_t) (fun w hS => x_load1 rfl Try.underlying2 rfl (hS.1 1 (Value.int .i64 x18_.rev_Main) rfl)) hq140_ ?_
            refine A_ready (i := 15) (rs := []) (by kernel_rfl) ?_
            refine AllR.cons ?_ AllR.nil
            refine A_opYes (ls' := #[true, true, true, true, true, true, true, true, true, true, true, true, true, true, true, true, false, true, true, true, false, false]) (j := 13) (dj := 82) (b := true) rfl (by kernel_rfl) rfl rfl (congrArg Value.bool c141_t) (T_call (al := [lv]) (pre := []) rfl rfl cb17 (kModified R1 lv l hlR (by omega)) H136_ ?_)
            rintro v142_ p146_ w143_ ⟨rfl, rfl⟩ S145_ H144_
            replace H144_ : Holds w143_ (ro R1 :: cl b21_ 39 [(Value.int .i64 x18_.kind), (Value.int .i64 x18_.rev_Main), (Value.int .i64 x18_.rev_Sub), (Value.int .i64 x18_.created_Main), (Value.int .i64 x18_.created_Sub), (Value.int .i64 x18_.ver), (Value.int .i64 x18_.at_)] :: sl 43 10 av (List.length A) (A.flatMap KA.cells) :: F) := H144_
            have S147_ := Same.trans S139_ S145_
            refine ⟨⟨Holds.rd H144_ 1 rfl, Holds.slrd H144_ 2 rfl, (Holds.ro_at H144_ 0 rfl)⟩, ?_⟩
            have hq148_ := And.intro (Holds.rd H144_ 1 rfl) (And.intro (Holds.slrd H144_ 2 rfl) ((Holds.ro_at H144_ 0 rfl)))
            refine A_tkY 16 (j := 13) (dj := 82) (b := true) (v := (Value.int .i64 ((vLast l).rev_Main))) rfl (by kernel_rfl) rfl rfl (congrArg Value.bool c141_t) (fun w hS => by kernel_rfl) hq148_ ?_
            refine A_tkY 20 (j := 13) (dj := 82) (b := true) (v := (Value.bool (decide ((vLast l).rev_Main = x18_.rev_Main)))) rfl (by kernel_rfl) rfl rfl (congrArg Value.bool c141_t) (fun w hS => x_bin rfl rfl rfl) hq148_ ?_
            refine A_tk 21 (v := (Value.bool (decide ((vLast l).rev_Main = x18_.rev_Main)))) rfl (by kernel_rfl) (fun w hS => (x_pickT (congrArg Value.bool c141_t) rfl)) hq148_ ?_
            refine A_done (by kernel_rfl) ?_
            refine (X_then (hK128_ _ _ ?_))
            clear hK128_
            refine C_cond (b := decide ((vLast l).rev_Main = x18_.rev_Main)) rfl (fun c149_t => ?_) (fun c149_f => ?_)
            ·have c149_tp : (vLast l).rev_Main = x18_.rev_Main := of_decide_eq_true c149_t
             refine C_seq (fun K150_ hK150_ => ?_)
             refine C_reg ?_
             refine S_list (T_val (v := (Value.slice none 0 0)) (x_assign rfl) ?_)
             refine S_list (T_val (v := (Value.slice none 0 0)) (x_assign rfl) ?_)
             refine S_list (T_val (v := (Value.bool false)) (x_assign rfl) ?_)
             refine wpList_nil ?_
             refine (X_then (hK150_ _ _ ?_))
             clear hK150_
             refine C_ret (X_thenR (X_blkR (X_thenR (X_thenR (X_blkR (X_thenR ?_))))))
             refine R_any (v := (Value.tuple #[(Value.slice none 0 0), (Value.slice none 0 0), (Value.bool false)])) (run_results3 rfl rfl rfl rfl) ?_
             have H151_ : Holds w143_ (ro R1 :: F) := (Holds.pkF H144_ [0] 2 :)
             exact ⟨R1, _, _, rfl, hsR1, (.inr ⟨rfl, rfl, (by unfold kLife; rw [if_pos (by omega), hrun]; exact kRun_no hx19_ (by rw [hkA]; exact kStep_chk (by unfold kChk; first | (simp_all; done) | (simp_all; omega))))⟩), S147_, H151_⟩
            ·have c149_fp : ¬ ((vLast l).rev_Main = x18_.rev_Main) := of_decide_eq_false c149_f
             refine C_skip (X_then ?_)
             have H152_ : Holds w143_ (cl b21_ 39 [(Value.int .i64 x18_.kind), (Value.int .i64 x18_.rev_Main), (Value.int .i64 x18_.rev_Sub), (Value.int .i64 x18_.created_Main), (Value.int .i64 x18_.created_Sub), (Value.int .i64 x18_.ver), (Value.int .i64 x18_.at_)] :: sl 43 10 av (List.length A) (A.flatMap KA.cells) :: ro R1 :: F) := (Holds.pkF H144_ [1, 1, 0] 0 :)
             exact ⟨t4_v, a5_v, p6_v, _, congrArg (fun e => mkA 116 e []) (ch (ch (ch (ch (ch (ch (ch (ch (ch rfl rfl) rfl) rfl) rfl) rfl) rfl) rfl) rfl) rfl), H152_, S147_, (by unfold kChk; first | (simp_all; done) | (simp_all; omega))⟩
           ·skip
            refine A_tkN 14 (j := 13) (dj := 82) (b := false) rfl (by kernel_rfl) rfl rfl (congrArg Value.bool c141_f) (by decide) hq140_ ?_
            refine A_tkN 15 (j := 13) (dj := 82) (b := false) rfl (by kernel_rfl) rfl rfl (congrArg Value.bool c141_f) (by decide) hq140_ ?_
            refine A_tkN 16 (j := 13) (dj := 82) (b := false) rfl (by kernel_rfl) rfl rfl (congrArg Value.bool c141_f) (by decide) hq140_ ?_
            refine A_tkN 17 (j := 13) (dj := 82) (b := false) rfl (by kernel_rfl) rfl rfl (congrArg Value.bool c141_f) (by decide) hq140_ ?_
            refine A_tkN 18 (j := 13) (dj := 82) (b := false) rfl (by kernel_rfl) rfl rfl (congrArg Value.bool c141_f) (by decide) hq140_ ?_
            refine A_tkN 19 (j := 13) (dj := 82) (b := false) rfl (by kernel_rfl) rfl rfl (congrArg Value.bool c141_f) (by decide) hq140_ ?_
            refine A_tkN 20 (j := 13) (dj := 82) (b := false) rfl (by kernel_rfl) rfl rfl (congrArg Value.bool c141_f) (by decide) hq140_ ?_
            refine A_tk 21 (v := (Value.bool false)) rfl (by kernel_rfl) (fun w hS => (x_pickF (congrArg Value.bool c141_f) rfl)) hq140_ ?_
            refine A_done (by kernel_rfl) ?_
            refine (X_then (hK128_ _ _ ?_))
            clear hK128_
            refine C_condF rfl ?_
            refine C_skip (X_then ?_)
            have H153_ : Holds w135_ (cl b21_ 39 [(Value.int .i64 x18_.kind), (Value.int .i64 x18_.rev_Main), (Value.int .i64 x18_.rev_Sub), (Value.int .i64 x18_.created_Main), (Value.int .i64 x18_.created_Sub), (Value.int .i64 x18_.ver), (Value.int .i64 x18_.at_)] :: sl 43 10 av (List.length A) (A.flatMap KA.cells) :: ro R1 :: F) := (Holds.pkF H136_ [1, 1, 0] 0 :)
            exact ⟨t4_v, a5_v, p6_v, _, congrArg (fun e => mkA 116 e []) (ch (ch (ch (ch (ch (ch (ch (ch (ch rfl rfl) rfl) rfl) rfl) rfl) rfl) rfl) rfl) rfl), H153_, S139_, (by unfold kChk; first | (simp_all; done) | (simp_all; omega))⟩
          ·have c132_fp : ¬ (0 < ((List.length l) : Int)) := of_decide_eq_false c132_f
           refine A_tkN 9 (j := 8) (dj := 77) (b := false) rfl (by kernel_rfl) rfl rfl (congrArg Value.bool c132_f) (by decide) hq130_ ?_
           refine A_tkN 10 (j := 8) (dj := 77) (b := false) rfl (by kernel_rfl) rfl rfl (congrArg Value.bool c132_f) (by decide) hq130_ ?_
           refine A_tkN 11 (j := 8) (dj := 77) (b := false) rfl (by kernel_rfl) rfl rfl (congrArg Value.bool c132_f) (by decide) hq130_ ?_
           refine A_tk 12 (v := (Value.bool false)) rfl (by kernel_rfl) (fun w hS => (x_pickF (congrArg Value.bool c132_f) rfl)) hq130_ ?_
           refine A_tk 13 (v := (Value.bool false)) rfl (by kernel_rfl) (fun w hS => x_move rfl) hq130_ ?_
           refine A_tkN 14 (j := 13) (dj := 82) (b := false) rfl (by kernel_rfl) rfl rfl rfl (by decide) hq130_ ?_
           refine A_tkN 15 (j := 13) (dj := 82) (b := false) rfl (by kernel_rfl) rfl rfl rfl (by decide) hq130_ ?_
           refine A_tkN 16 (j := 13) (dj := 82) (b := false) rfl (by kernel_rfl) rfl rfl rfl (by decide) hq130_ ?_
           refine A_tkN 17 (j := 13) (dj := 82) (b := false) rfl (by kernel_rfl) rfl rfl rfl (by decide) hq130_ ?_
           refine A_tkN 18 (j := 13) (dj := 82) (b := false) rfl (by kernel_rfl) rfl rfl rfl (by decide) hq130_ ?_
           refine A_tkN 19 (j := 13) (dj := 82) (b := false) rfl (by kernel_rfl) rfl rfl rfl (by decide) hq130_ ?_
           refine A_tkN 20 (j := 13) (dj := 82) (b := false) rfl (by kernel_rfl) rfl rfl rfl (by decide) hq130_ ?_
           refine A_tk 21 (v := (Value.bool false)) rfl (by kernel_rfl) (fun w hS => (x_pickF rfl rfl)) hq130_ ?_
           refine A_done (by kernel_rfl) ?_
           refine (X_then (hK128_ _ _ ?_))
           clear hK128_
           refine C_condF rfl ?_
           refine C_skip (X_then ?_)
           exact ⟨t4_v, a5_v, p6_v, _, congrArg (fun e => mkA 116 e []) (ch (ch (ch (ch (ch (ch (ch (ch (ch rfl rfl) rfl) rfl) rfl) rfl) rfl) rfl) rfl) rfl), H129_, (Same.trans S46_ (Same.drew _)), (by unfold kChk; first | (simp_all; done) | (simp_all; omega))⟩
         ·have c131_fp : ¬ (x18_.kind = 1) := of_decide_eq_false c131_f
          refine A_tkN 4 (j := 3) (dj := 72) (b := false) rfl (by kernel_rfl) rfl rfl (congrArg Value.bool c131_f) (by decide) hq130_ ?_
          refine A_tkN 5 (j := 3) (dj := 72) (b := false) rfl (by kernel_rfl) rfl rfl (congrArg Value.bool c131_f) (by decide) hq130_ ?_
          refine A_tkN 6 (j := 3) (dj := 72) (b := false) rfl (by kernel_rfl) rfl rfl (congrArg Value.bool c131_f) (by decide) hq130_ ?_
          refine A_tk 7 (v := (Value.bool false)) rfl (by kernel_rfl) (fun w hS => (x_pickF (congrArg Value.bool c131_f) rfl)) hq130_ ?_
          refine A_tk 8 (v := (Value.bool false)) rfl (by kernel_rfl) (fun w hS => x_move rfl) hq130_ ?_
          refine A_tkN 9 (j := 8) (dj := 77) (b := false) rfl (by kernel_rfl) rfl rfl rfl (by decide) hq130_ ?_
          refine A_tkN 10 (j := 8) (dj := 77) (b := false) rfl (by kernel_rfl) rfl rfl rfl (by decide) hq130_ ?_
          refine A_tkN 11 (j := 8) (dj := 77) (b := false) rfl (by kernel_rfl) rfl rfl rfl (by decide) hq130_ ?_
          refine A_tk 12 (v := (Value.bool false)) rfl (by kernel_rfl) (fun w hS => (x_pickF rfl rfl)) hq130_ ?_
          refine A_tk 13 (v := (Value.bool false)) rfl (by kernel_rfl) (fun w hS => x_move rfl) hq130_ ?_
          refine A_tkN 14 (j := 13) (dj := 82) (b := false) rfl (by kernel_rfl) rfl rfl rfl (by decide) hq130_ ?_
          refine A_tkN 15 (j := 13) (dj := 82) (b := false) rfl (by kernel_rfl) rfl rfl rfl (by decide) hq130_ ?_
          refine A_tkN 16 (j := 13) (dj := 82) (b := false) rfl (by kernel_rfl) rfl rfl rfl (by decide) hq130_ ?_
          refine A_tkN 17 (j := 13) (dj := 82) (b := false) rfl (by kernel_rfl) rfl rfl rfl (by decide) hq130_ ?_
          refine A_tkN 18 (j := 13) (dj := 82) (b := false) rfl (by kernel_rfl) rfl rfl rfl (by decide) hq130_ ?_
          refine A_tkN 19 (j := 13) (dj := 82) (b := false) rfl (by kernel_rfl) rfl rfl rfl (by decide) hq130_ ?_
          refine A_tkN 20 (j := 13) (dj := 82) (b := false) rfl (by kernel_rfl) rfl rfl rfl (by decide) hq130_ ?_
          refine A_tk 21 (v := (Value.bool false)) rfl (by kernel_rfl) (fun w hS => (x_pickF rfl rfl)) hq130_ ?_
          refine A_done (by kernel_rfl) ?_
          refine (X_then (hK128_ _ _ ?_))
          clear hK128_
          refine C_condF rfl ?_
          refine C_skip (X_then ?_)
          exact ⟨t4_v, a5_v, p6_v, _, congrArg (fun e => mkA 116 e []) (ch (ch (ch (ch (ch (ch (ch (ch (ch rfl rfl) rfl) rfl) rfl) rfl) rfl) rfl) rfl) rfl), H129_, (Same.trans S46_ (Same.drew _)), (by unfold kChk; first | (simp_all; done) | (simp_all; omega))⟩
        ·rintro _ w125_ ⟨t4_v, a5_v, p6_v, h, rfl, H126_, S127_, hchk⟩
         refine C_seq (fun K154_ hK154_ => ?_)
         refine C_reg ?_
         refine S_list (T_val (v := lv) (x_move rfl) ?_)
         refine S_list (T_val (v := (Value.agg #[(Value.int .i64 x18_.kind), (Value.int .i64 x18_.rev_Main), (Value.int .i64 x18_.rev_Sub), (Value.int .i64 x18_.created_Main), (Value.int .i64 x18_.created_Sub), (Value.int .i64 x18_.ver), (Value.int .i64 x18_.at_)])) (x_loadN (vs := [(Value.int .i64 x18_.kind), (Value.int .i64 x18_.rev_Main), (Value.int .i64 x18_.rev_Sub), (Value.int .i64 x18_.created_Main), (Value.int .i64 x18_.created_Sub), (Value.int .i64 x18_.ver), (Value.int .i64 x18_.at_)]) rfl Try.underlying39 rfl z39 rfl (Rd.cells (Holds.rd H126_ 0 rfl) 0 rfl)) ?_)
         have H173_ := ((Holds.bring H126_ 2 rfl) :)
         refine S_list (T_callG (al := [lv, (Value.agg #[(Value.int .i64 x18_.kind), (Value.int .i64 x18_.rev_Main), (Value.int .i64 x18_.rev_Sub), (Value.int .i64 x18_.created_Main), (Value.int .i64 x18_.created_Sub), (Value.int .i64 x18_.ver), (Value.int .i64 x18_.at_)])]) (pre := []) rfl rfl cb18 (kKeyDo R1 lv l x18_ hlR (by omega) (fun x hx => by have := hlv x hx; omega)) H173_ ?_)
         rintro R156_ v157_ p177_ w174_ hs155_ hq178_ S176_ H175_
         rcases hq178_ with ⟨v158_, rv159_, ok160_, mm161_, ms162_, cm163_, cs164_, ver165_, L166_, rl167_, rfl, rfl, he168_, he169_, he170_⟩ | ⟨v171_, rfl, rfl, he172_⟩
         ·skip
          have S179_ := Same.trans S127_ S176_
          have hz_R_R156_ := Sub.trans' hsR1 hs155_
          have hm1_ := kDo_len he168_
          have hm2_ := kDo_ver (n := (N : Int) + k) (by omega) hlv he168_
          refine S_list (T_val (v := (Value.tuple #[v158_, (Value.agg #[(Value.bool ok160_), (Value.int .i64 mm161_), (Value.int .i64 ms162_), (Value.int .i64 cm163_), (Value.int .i64 cs164_), (Value.int .i64 ver165_), rv159_, (Value.int .i64 0), (Value.int .i64 0), (Value.slice none 0 0)]), (Value.bool true)])) (x_move rfl) ?_)
          refine S_list (T_val (v := v158_) (by kernel_rfl) ?_)
          refine S_list (T_val (v := (Value.agg #[(Value.bool ok160_), (Value.int .i64 mm161_), (Value.int .i64 ms162_), (Value.int .i64 cm163_), (Value.int .i64 cs164_), (Value.int .i64 ver165_), rv159_, (Value.int .i64 0), (Value.int .i64 0), (Value.slice none 0 0)])) (by kernel_rfl) ?_)
          refine S_list (T_val (v := (Value.bool true)) (by kernel_rfl) ?_)
          refine S_list (T_alloc z43 H175_ ?_)
          intro b181_ w182_ S184_ H183_
          have S185_ := Same.trans S179_ S184_
          refine S_list (T_val (v := v158_) (x_assign rfl) ?_)
          refine S_list0 (T_storeN (vs := [(Value.bool ok160_), (Value.int .i64 mm161_), (Value.int .i64 ms162_), (Value.int .i64 cm163_), (Value.int .i64 cs164_), (Value.int .i64 ver165_), rv159_, (Value.int .i64 0), (Value.int .i64 0), (Value.slice none 0 0)]) rfl rfl z43 rfl (List.forall_mem_cons.2 ⟨rfl, (List.forall_mem_cons.2 ⟨rfl, (List.forall_mem_cons.2 ⟨rfl, (List.forall_mem_cons.2 ⟨rfl, (List.forall_mem_cons.2 ⟨rfl, (List.forall_mem_cons.2 ⟨rfl, (List.forall_mem_cons.2 ⟨(RS.one he170_), (List.forall_mem_cons.2 ⟨rfl, (List.forall_mem_cons.2 ⟨rfl, (List.forall_mem_cons.2 ⟨rfl, (fun _ h__ => by cases h__)⟩)⟩)⟩)⟩)⟩)⟩)⟩)⟩)⟩)⟩) H183_ 0 rfl (Nat.le_of_ble_eq_true (by rfl)) ?_)
          intro w186_ S188_ H187_
          have S189_ := Same.trans S185_ S188_
          refine S_list (T_val (v := (Value.bool true)) (x_assign rfl) ?_)
          refine wpList_nil ?_
          refine (X_then (hK154_ _ _ ?_))
          clear hK154_
          refine C_seq (fun K190_ hK190_ => ?_)
          refine C_seq (fun K191_ hK191_ => ?_)
          refine C_reg ?_
          refine S_list (T_val (v := (Value.bool true)) (x_move rfl) ?_)
          refine S_list (T_val (v := (Value.bool false)) (x_cast (x_not (b := true) rfl) rfl) ?_)
          refine S_list (T_val (v := (Value.bool false)) (x_move rfl) ?_)
          refine S_yes (j := 2) (dj := 100) (b := false) rfl rfl rfl (T_val (v := v158_) (x_move rfl) ?_)
          refine S_yes (j := 2) (dj := 100) (b := false) rfl rfl rfl (T_val (v := (Value.int .i64 ((List.length L166_) : Int))) (x_lenRS rfl he169_ Try.underlying23) ?_)
          refine S_yes (j := 2) (dj := 100) (b := false) rfl rfl rfl (T_val (v := (Value.bool (decide (((List.length L166_) : Int) = 0)))) (x_bin rfl rfl rfl) ?_)
          refine S_list (T_pickF (v := (Value.bool (decide (((List.length L166_) : Int) = 0)))) rfl rfl ?_)
          refine wpList_nil ?_
          refine (X_then (hK191_ _ _ ?_))
          clear hK191_
          refine C_cond (b := decide (((List.length L166_) : Int) = 0)) rfl (fun c192_t => ?_) (fun c192_f => ?_)
          ·have c192_tp : ((List.length L166_) : Int) = 0 := of_decide_eq_true c192_t
           refine C_seq (fun K193_ hK193_ => ?_)
           refine C_reg ?_
           refine S_list (T_val (v := (Value.slice none 0 0)) (x_assign rfl) ?_)
           refine S_list (T_val (v := (Value.slice none 0 0)) (x_assign rfl) ?_)
           refine S_list (T_val (v := (Value.bool false)) (x_assign rfl) ?_)
           refine wpList_nil ?_
           refine (X_then (hK193_ _ _ ?_))
           clear hK193_
           refine C_ret (X_thenR (X_blkR (X_thenR (X_thenR (X_blkR (X_thenR ?_))))))
           refine R_any (v := (Value.tuple #[(Value.slice none 0 0), (Value.slice none 0 0), (Value.bool false)])) (run_results3 rfl rfl rfl rfl) ?_
           have H194_ : Holds w186_ (ro R156_ :: F) := (Holds.pkF H187_ [1] 3 :)
           exact ⟨R156_, _, _, rfl, hz_R_R156_, (.inr ⟨rfl, rfl, (by unfold kLife; rw [if_pos (by omega), hrun]; exact kRun_no hx19_ (by rw [hkA]; exact kStep_nil he168_ c192_tp))⟩), S189_, H194_⟩
          ·have c192_fp : ¬ (((List.length L166_) : Int) = 0) := of_decide_eq_false c192_f
           refine C_skip (X_then (hK190_ _ _ ?_))
           clear hK190_
           refine C_seq (fun K195_ hK195_ => ?_)
           refine C_reg ?_
           refine S_list (T_val (v := v158_) (x_move rfl) ?_)
           refine S_list (T_val (v := v158_) (x_assign rfl) ?_)
           refine wpList_nil ?_
           refine (X_then (hK195_ _ _ ?_))
           clear hK195_
           refine C_seq (fun K196_ hK196_ => ?_)
           refine C_reg ?_
           refine S_list (T_val (v := v158_) (x_move rfl) ?_)
           have H202_ := ((Holds.bring H187_ 1 rfl) :)
           refine S_list (T_callG (al := [v158_]) (pre := []) rfl rfl cb9 (kDump R156_ v158_ L166_ he169_ (by omega)) H202_ ?_)
           rintro R198_ v199_ p206_ w203_ hs197_ ⟨gv200_, rfl, rfl, he201_⟩ S205_ H204_
           have S207_ := Same.trans S189_ S205_
           have hz_R_R198_ := Sub.trans' hz_R_R156_ hs197_
           have hz_R1_R198_ := Sub.trans' hs155_ hs197_
           obtain ⟨gN, hg1, hg2, hg3⟩ := he201_
           refine S_list (T_val (v := (Value.pointer (some ⟨b181_, 7, none⟩))) (by kernel_rfl) ?_)
           refine S_list0 (T_storeN (vs := [(Value.int .i64 ((vLast L166_).rev_Main)), (Value.int .i64 ((vLast L166_).rev_Sub)), gv200_]) rfl rfl z34 rfl (List.forall_mem_cons.2 ⟨rfl, (List.forall_mem_cons.2 ⟨rfl, (List.forall_mem_cons.2 ⟨(RS.one hg2), (fun _ h__ => by cases h__)⟩)⟩)⟩) H204_ 1 rfl (Nat.le_of_ble_eq_true (by rfl)) ?_)
           intro w208_ S210_ H209_
           replace H209_ : Holds w208_ (ro R198_ :: cl b181_ 43 [(Value.bool ok160_), (Value.int .i64 mm161_), (Value.int .i64 ms162_), (Value.int .i64 cm163_), (Value.int .i64 cs164_), (Value.int .i64 ver165_), rv159_, (Value.int .i64 ((vLast L166_).rev_Main)), (Value.int .i64 ((vLast L166_).rev_Sub)), gv200_] :: cl b21_ 39 [(Value.int .i64 x18_.kind), (Value.int .i64 x18_.rev_Main), (Value.int .i64 x18_.rev_Sub), (Value.int .i64 x18_.created_Main), (Value.int .i64 x18_.created_Sub), (Value.int .i64 x18_.ver), (Value.int .i64 x18_.at_)] :: sl 43 10 av (List.length A) (A.flatMap KA.cells) :: F) := H209_
           have S211_ := Same.trans S207_ S210_
           refine wpList_nil ?_
           refine (X_then (hK196_ _ _ ?_))
           clear hK196_
           refine C_reg ?_
           refine S_list (T_val (v := av) (x_move rfl) ?_)
           refine S_list (T_val (v := (Value.agg #[(Value.bool ok160_), (Value.int .i64 mm161_), (Value.int .i64 ms162_), (Value.int .i64 cm163_), (Value.int .i64 cs164_), (Value.int .i64 ver165_), rv159_, (Value.int .i64 ((vLast L166_).rev_Main)), (Value.int .i64 ((vLast L166_).rev_Sub)), gv200_])) (x_loadN (vs := [(Value.bool ok160_), (Value.int .i64 mm161_), (Value.int .i64 ms162_), (Value.int .i64 cm163_), (Value.int .i64 cs164_), (Value.int .i64 ver165_), rv159_, (Value.int .i64 ((vLast L166_).rev_Main)), (Value.int .i64 ((vLast L166_).rev_Sub)), gv200_]) rfl Try.underlying43 rfl z43 rfl (Rd.cells (Holds.rd H209_ 1 rfl) 0 rfl)) ?_)
           refine S_list (T_new (obj := .cells #[(Value.bool ok160_), (Value.int .i64 mm161_), (Value.int .i64 ms162_), (Value.int .i64 cm163_), (Value.int .i64 cs164_), (Value.int .i64 ver165_), rv159_, (Value.int .i64 ((vLast L166_).rev_Main)), (Value.int .i64 ((vLast L166_).rev_Sub)), gv200_] 43) (f := fun b__ => .slice (some ⟨b__, 0, none⟩) 1 1) (A := fun b__ => cl b__ 43 [(Value.bool ok160_), (Value.int .i64 mm161_), (Value.int .i64 ms162_), (Value.int .i64 cm163_), (Value.int .i64 cs164_), (Value.int .i64 ver165_), rv159_, (Value.int .i64 ((vLast L166_).rev_Main)), (Value.int .i64 ((vLast L166_).rev_Sub)), gv200_]) (by kernel_rfl) (fun l h => h.alloc _ _) H209_ ?_)
           intro b212_ w213_ S215_ H214_
           have S216_ := Same.trans S211_ S215_
           refine S_list (T_append rfl rfl Try.underlying24 z43 rfl (by decide) H214_ 4 rfl (Holds.cl_src H214_ 0 rfl Try.underlying24 (List.forall_mem_cons.2 ⟨rfl, (List.forall_mem_cons.2 ⟨rfl, (List.forall_mem_cons.2 ⟨rfl, (List.forall_mem_cons.2 ⟨rfl, (List.forall_mem_cons.2 ⟨rfl, (List.forall_mem_cons.2 ⟨rfl, (List.forall_mem_cons.2 ⟨(RS.one (RS.mono he170_ hs197_)), (List.forall_mem_cons.2 ⟨rfl, (List.forall_mem_cons.2 ⟨rfl, (List.forall_mem_cons.2 ⟨(RS.one hg2), (fun _ h__ => by cases h__)⟩)⟩)⟩)⟩)⟩)⟩)⟩)⟩)⟩)⟩) rfl) (by first | omega | (simp only [List.length_append, List.length_cons, List.length_nil]; omega)) ?_)
           intro v217_ w218_ S220_ H219_
           have S221_ := Same.trans S216_ S220_
           refine S_list (T_val (v := v217_) (x_assign rfl) ?_)
           refine wpList_nil ?_
           refine (X_blkN (X_then (hK16_ _ _ ?_)))
           clear hK16_
           refine C_reg ?_
           refine S_list (T_val (v := (Value.int .i64 ((k : Int) + 1))) (x_bin rfl rfl (ib_add (IntWalk.i64_in _ (by omega)))) ?_)
           refine S_list (T_val (v := (Value.int .i64 ((k : Int) + 1))) (x_move rfl) ?_)
           refine wpList_nil ?_
           refine (X_then ?_)
           have H222_ := Holds.resl H219_ 4 rfl (by simp [KA.cells] : (A.flatMap KA.cells) ++ [(Value.bool ok160_), (Value.int .i64 mm161_), (Value.int .i64 ms162_), (Value.int .i64 cm163_), (Value.int .i64 cs164_), (Value.int .i64 ver165_), rv159_, (Value.int .i64 ((vLast L166_).rev_Main)), (Value.int .i64 ((vLast L166_).rev_Sub)), gv200_] = (A ++ [(⟨ok160_, mm161_, ms162_, cm163_, cs164_, ver165_, rv159_, (vLast L166_).rev_Main, (vLast L166_).rev_Sub, gv200_, rl167_, gN⟩ : KA)]).flatMap KA.cells) (by simp : (List.length A) + 1 = (List.length (A ++ [(⟨ok160_, mm161_, ms162_, cm163_, cs164_, ver165_, rv159_, (vLast L166_).rev_Main, (vLast L166_).rev_Sub, gv200_, rl167_, gN⟩ : KA)])))
           have H223_ : Holds w218_ (sl 43 10 v217_ (List.length (A ++ [(⟨ok160_, mm161_, ms162_, cm163_, cs164_, ver165_, rv159_, (vLast L166_).rev_Main, (vLast L166_).rev_Sub, gv200_, rl167_, gN⟩ : KA)])) ((A ++ [(⟨ok160_, mm161_, ms162_, cm163_, cs164_, ver165_, rv159_, (vLast L166_).rev_Main, (vLast L166_).rev_Sub, gv200_, rl167_, gN⟩ : KA)]).flatMap KA.cells) :: ro R198_ :: F) := (Holds.pkF H222_ [4, 1] 3 :)
           exact ⟨⟨R198_, k + 1, v158_, v217_, L166_, (A ++ [(⟨ok160_, mm161_, ms162_, cm163_, cs164_, ver165_, rv159_, (vLast L166_).rev_Main, (vLast L166_).rev_Sub, gv200_, rl167_, gN⟩ : KA)]), t4_v, a5_v, p6_v⟩, ⟨_, congrArg (fun e => mkA 116 e []) (ch (ch (ch (ch (ch (ch (ch (ch rfl rfl) rfl) rfl) rfl) rfl) rfl) rfl) (congrArg (Value.int .i64) ((by first | rfl | omega | (simp; done) | (simp; omega)) : (k : Int) + 1 = ((k + 1 : Nat) : Int)))), H223_, S221_, (hz_R_R198_), (by first | assumption | omega | exact rfl), ((RS.mono he169_ hs197_)), (by rw [hrun, kRun_yes hx19_ (by rw [hkA]; exact kStep_yes hchk he168_ c192_fp)]; simp [KA.m, KM.at_, hg1]), (by rw [List.map_append, List.length_append, hkA]; rfl), (by simp; omega), (all_snoc (fun x hx => (hA x hx).mono hz_R1_R198_) ⟨(RS.mono he170_ hs197_), hg2, fun y hy => (hg3 y hy)⟩), (by first | assumption | omega | exact rfl), (fun x hx => by have := hm2_ x hx; omega)⟩, by first | omega | (dsimp only; omega) | (simp; omega)⟩
         ·skip
          replace H175_ : Holds w174_ (ro R156_ :: cl b21_ 39 [(Value.int .i64 x18_.kind), (Value.int .i64 x18_.rev_Main), (Value.int .i64 x18_.rev_Sub), (Value.int .i64 x18_.created_Main), (Value.int .i64 x18_.created_Sub), (Value.int .i64 x18_.ver), (Value.int .i64 x18_.at_)] :: sl 43 10 av (List.length A) (A.flatMap KA.cells) :: F) := H175_
          have S180_ := Same.trans S127_ S176_
          have hz_R_R156_ := Sub.trans' hsR1 hs155_
          refine S_list (T_val (v := (Value.tuple #[v171_, (Value.agg #[(Value.bool false), (Value.int .i64 0), (Value.int .i64 0), (Value.int .i64 0), (Value.int .i64 0), (Value.int .i64 0), (Value.slice none 0 0), (Value.int .i64 0), (Value.int .i64 0), (Value.slice none 0 0)]), (Value.bool false)])) (x_move rfl) ?_)
          refine S_list (T_val (v := v171_) (by kernel_rfl) ?_)
          refine S_list (T_val (v := (Value.agg #[(Value.bool false), (Value.int .i64 0), (Value.int .i64 0), (Value.int .i64 0), (Value.int .i64 0), (Value.int .i64 0), (Value.slice none 0 0), (Value.int .i64 0), (Value.int .i64 0), (Value.slice none 0 0)])) (by kernel_rfl) ?_)
          refine S_list (T_val (v := (Value.bool false)) (by kernel_rfl) ?_)
          refine S_list (T_alloc z43 H175_ ?_)
          intro b224_ w225_ S227_ H226_
          have S228_ := Same.trans S180_ S227_
          refine S_list (T_val (v := v171_) (x_assign rfl) ?_)
          refine S_list0 (T_storeN (vs := [(Value.bool false), (Value.int .i64 0), (Value.int .i64 0), (Value.int .i64 0), (Value.int .i64 0), (Value.int .i64 0), (Value.slice none 0 0), (Value.int .i64 0), (Value.int .i64 0), (Value.slice none 0 0)]) rfl rfl z43 rfl (by simp [Value.oneCell']) H226_ 0 rfl (Nat.le_of_ble_eq_true (by rfl)) ?_)
          intro w229_ S231_ H230_
          have S232_ := Same.trans S228_ S231_
          refine S_list (T_val (v := (Value.bool false)) (x_assign rfl) ?_)
          refine wpList_nil ?_
          refine (X_then (hK154_ _ _ ?_))
          clear hK154_
          refine C_seq (fun K233_ hK233_ => ?_)
          refine C_seq (fun K234_ hK234_ => ?_)
          refine C_reg ?_
          refine S_list (T_val (v := (Value.bool false)) (x_move rfl) ?_)
          refine S_list (T_val (v := (Value.bool true)) (x_cast (x_not (b := false) rfl) rfl) ?_)
          refine S_list (T_val (v := (Value.bool true)) (x_move rfl) ?_)
          refine S_no (j := 2) (dj := 100) (b := true) rfl rfl rfl (by decide) ?_
          refine S_no (j := 2) (dj := 100) (b := true) rfl rfl rfl (by decide) ?_
          refine S_no (j := 2) (dj := 100) (b := true) rfl rfl rfl (by decide) ?_
          refine S_list (T_pickT (v := (Value.bool true)) rfl rfl ?_)
          refine wpList_nil ?_
          refine (X_then (hK234_ _ _ ?_))
          clear hK234_
          refine C_condT rfl ?_
          refine C_seq (fun K235_ hK235_ => ?_)
          refine C_reg ?_
          refine S_list (T_val (v := (Value.slice none 0 0)) (x_assign rfl) ?_)
          refine S_list (T_val (v := (Value.slice none 0 0)) (x_assign rfl) ?_)
          refine S_list (T_val (v := (Value.bool false)) (x_assign rfl) ?_)
          refine wpList_nil ?_
          refine (X_then (hK235_ _ _ ?_))
          clear hK235_
          refine C_ret (X_thenR (X_blkR (X_thenR (X_thenR (X_blkR (X_thenR ?_))))))
          refine R_any (v := (Value.tuple #[(Value.slice none 0 0), (Value.slice none 0 0), (Value.bool false)])) (run_results3 rfl rfl rfl rfl) ?_
          have H236_ : Holds w229_ (ro R156_ :: F) := (Holds.pkF H230_ [1] 3 :)
          exact ⟨R156_, _, _, rfl, hz_R_R156_, (.inr ⟨rfl, rfl, (by unfold kLife; rw [if_pos (by omega), hrun]; exact kRun_no hx19_ (by rw [hkA]; exact kStep_none he172_))⟩), S232_, H236_⟩
  ·have c15_fp : ¬ ((k : Int) < ((List.length O) : Int)) := of_decide_eq_false c15_f
   refine C_exit (X_thenX (X_thenX (X_blkHit ?_)))
   refine (X_then (hK7_ _ _ ?_))
   clear hK7_
   refine C_seq (fun K237_ hK237_ => ?_)
   refine C_reg ?_
   refine S_list (T_val (v := lv) (x_move rfl) ?_)
   refine S_list (T_val (v := av) (x_move rfl) ?_)
   refine S_list (T_val (v := lv) (x_assign rfl) ?_)
   refine S_list (T_val (v := av) (x_assign rfl) ?_)
   refine S_list (T_val (v := (Value.bool true)) (x_assign rfl) ?_)
   refine wpList_nil ?_
   refine (X_then (hK237_ _ _ ?_))
   clear hK237_
   refine C_ret ?_
   refine R_any (v := (Value.tuple #[lv, av, (Value.bool true)])) (run_results3 rfl rfl rfl rfl) ?_
   have H238_ := ((Holds.bring H11_ 1 rfl) :)
   obtain ⟨R239_, hs240_, ⟨R241_, ha242_, hs243_⟩, H244_⟩ := Holds.gift H238_
   have hz_R_R239_ := Sub.trans' hsR1 hs240_
   have hr245_ : RS R239_ 10 av (List.length A) (A.flatMap KA.cells) := (sl_RS ha242_ (Sub.rfl' _)).mono hs243_
   have hk3_ : k = O.length := (by omega)
   exact ⟨R239_, _, _, rfl, hz_R_R239_, (.inl ⟨lv, av, l, A, rfl, rfl, (by unfold kLife; rw [if_pos (by omega), hrun, hk3_, List.drop_length]; rfl), ((RS.mono hlR hs240_)), (hr245_), (fun x hx => (hA x hx).mono hs240_), (⟨by omega, fun x hx => by have := hlv x hx; omega⟩)⟩), S12_, H244_⟩
end Go.Proofs.Ytiblemgccgbhoaa
