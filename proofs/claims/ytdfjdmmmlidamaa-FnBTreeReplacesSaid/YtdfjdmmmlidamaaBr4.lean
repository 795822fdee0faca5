/- Words, and proved steps, on which the proof leans. -/
import Derived.Test.YtdfjdmmmlidamaaBr3
set_option linter.unusedVariables false
set_option linter.unusedSimpArgs false
namespace Go.Proofs.Ytdfjdmmmlidamaa
open Go Go.RowKit Gw Try
open Go.Value renaming int → vI, bool → vB, slice → vS, pointer → vP, agg → vA, tuple → vT

theorem bo_one (xs : List BO) : ∀ u ∈ xs.flatMap BO.cells, u.oneCell' = true := by
  intro u hu
  obtain ⟨x, _, h⟩ := List.mem_flatMap.1 hu
  simp only [BO.cells, List.mem_cons, List.not_mem_nil, or_false] at h
  rcases h with rfl | rfl | rfl | rfl | rfl | rfl | rfl | rfl <;> rfl

def putO (e : EL) : BO := ⟨1, 0, e.key, e.val, 0, 0, 0, false⟩
theorem putO_take {l : List EL} {k : Nat} {x : EL} (h : l[k]? = some x) : (l.take k).map putO ++ [putO x] = (l.take (k + 1)).map putO := by rw [List.take_add_one, h]; simp
theorem putO_kind {l : List EL} : ∀ o ∈ l.map putO, o.tree = 0 ∧ o.kind = 1 := fun o h => by obtain ⟨e, _, rfl⟩ := List.mem_map.1 h; exact ⟨rfl, rfl⟩
theorem bo_app (xs ys : List BO) : xs.flatMap BO.cells ++ ys.flatMap BO.cells = (xs ++ ys).flatMap BO.cells := (List.flatMap_append ..).symm

set_option maxHeartbeats 1600000 in
theorem btPut (R : HP) (lv : Value) (l : List EL) (hl : RS R 2 lv (List.length l) (l.flatMap EL.cells)) (hn : l.length ≤ 600) :
    Tri Try.prog 14 #[lv] R [] (fun v__ post__ => ∃ (out : Value), v__ = out ∧ post__ = [sl 30 8 out (List.length (l.map putO)) ((l.map putO).flatMap BO.cells)]) := by
 refine Tri.into (n := 19) (al := [lv]) func14 rfl ntmps14 rfl rfl fun w F H => ?_
 refine cR fun _ hK1_ => ?_
 refine sv (v := (vS none 0 0)) (x_assign rfl) ?_
 refine wn (hK1_ _ _ ?_)
 refine cR fun _ hK2_ => ?_
 refine sv (v := (vS none 0 0)) (x_assign rfl) ?_
 refine wn (hK2_ _ _ ?_)
 refine C_seq (fun _ hK3_ => ?_)
 refine cR fun _ hK4_ => ?_
 refine sv (v := lv) (x_move rfl) ?_
 refine sv (v := (vI .i64 ((List.length l) : Int))) (x_lenRS rfl hl underlying22) ?_
 refine sm (vI .i64 0) ?_
 refine wn (hK4_ _ _ ?_)
 refine C_block ?_
 have H5_ : Holds w (sl 30 8 (vS none 0 0) (List.length ([] : List BO)) (([] : List BO).flatMap BO.cells) :: ro R :: F) := Holds.add_nil H 30 8
 refine C_loop (γ := Nat × Value × (List BO)) (fun x__ a__ w1__ => match x__ with | ⟨k, ov, O⟩ => ∃ h : Env, a__ = mkA 19 (upd (upd (upd (upd (upd h 2 (vS none 0 0)) 3 ov) 6 lv) 7 (vI .i64 ((List.length l) : Int))) 8 (vI .i64 (k : Int))) [] ∧ Holds w1__ (sl 30 8 ov (List.length O) (O.flatMap BO.cells) :: ro R :: F) ∧ Same w w1__ ∧ (k ≤ l.length) ∧ (O = (l.take k).map putO)) (fun x__ => match x__ with | ⟨k, ov, O⟩ => l.length - k) (⟨0, (vS none 0 0), ([] : List BO)⟩) ⟨_, congrArg (fun e => mkA 19 e []) (ch (ch (ch (ch (ch rfl rfl) rfl) rfl) rfl) (congrArg (vI .i64) ((by first | rfl | omega | (simp; done) | (simp; omega)) : 0 = (0 : Int)))), H5_, (Same.refl w), (Nat.zero_le _), (rfl)⟩ ?_
 rintro ⟨k, ov, O⟩ _ w6_ ⟨h, rfl, H7_, S8_, hk_, hO⟩
 refine cR fun _ hK9_ => ?_
 refine sv (v := (vB (decide ((k : Int) < ((List.length l) : Int))))) (x_bin rfl rfl rfl) ?_
 refine wn (hK9_ _ _ ?_)
 refine C_seq (fun _ hK10_ => ?_)
 refine C_cond (b := decide ((k : Int) < ((List.length l) : Int))) rfl (fun c11_t => ?_) (fun c11_f => ?_)
 ·have c11_tp : (k : Int) < ((List.length l) : Int) := of_decide_eq_true c11_t
  refine C_skip (X_then (hK10_ _ _ ?_))
  refine C_seq (fun _ hK12_ => ?_)
  refine C_block ?_
  refine cR fun _ hK13_ => ?_
  obtain ⟨x14_, hx15_, hm16_⟩ := elem_at l k (by omega)
  refine sv (v := (vP (some ⟨(sb lv), so lv + (k * 2 + 0), none⟩))) (x_idxRS (v := lv) rfl hl rfl underlying22 z24 (by omega) (by omega) (by omega : _ = k) rfl) ?_
  refine sv (v := (vA #[(vI .i64 x14_.key), (vI .i64 x14_.val)])) (x_loadN (vs := [(vI .i64 x14_.key), (vI .i64 x14_.val)]) rfl underlying24 rfl z24 rfl (RC.cells (RS.rc hl) (Holds.ro_at H7_ 1 rfl) (k * 2 + 0) (fm_cells EL.len hx15_ (i := 0) rfl))) ?_
  refine S_list (T_alloc z24 H7_ ?_)
  intro b17_ w18_ S20_ H19_
  have S21_ := Same.trans S8_ S20_
  refine S_list0 (T_storeN (vs := [(vI .i64 x14_.key), (vI .i64 x14_.val)]) rfl rfl z24 rfl (by simp [Value.oneCell']) H19_ 0 rfl (Nat.le_of_ble_eq_true (by rfl)) ?_)
  intro w22_ S24_ H23_
  have S25_ := Same.trans S21_ S24_
  refine wn (hK13_ _ _ ?_)
  refine C_reg ?_
  refine sv (v := ov) (x_move rfl) ?_
  refine sv (v := (vA #[(vI .i64 x14_.key), (vI .i64 x14_.val)])) (x_loadN (vs := [(vI .i64 x14_.key), (vI .i64 x14_.val)]) rfl underlying24 rfl z24 rfl (Rd.cells (Holds.rd H23_ 0 rfl) 0 rfl)) ?_
  refine sv (v := (vA #[(vI .i64 1), (vI .i64 0), (vI .i64 x14_.key), (vI .i64 x14_.val), (vI .i64 0), (vI .i64 0), (vI .i64 0), (vB false)])) (by kernel_rfl) ?_
  refine S_list (T_new (obj := .cells #[(vI .i64 1), (vI .i64 0), (vI .i64 x14_.key), (vI .i64 x14_.val), (vI .i64 0), (vI .i64 0), (vI .i64 0), (vB false)] 30) (f := fun b__ => .slice (some ⟨b__, 0, none⟩) 1 1) (A := fun b__ => cl b__ 30 [(vI .i64 1), (vI .i64 0), (vI .i64 x14_.key), (vI .i64 x14_.val), (vI .i64 0), (vI .i64 0), (vI .i64 0), (vB false)]) (by kernel_rfl) (fun l h => h.alloc _ _) H23_ ?_)
  intro b26_ w27_ S29_ H28_
  have S30_ := Same.trans S25_ S29_
  refine S_list (T_append rfl rfl underlying34 z30 rfl (by decide) H28_ 2 rfl (Holds.cl_src H28_ 0 rfl underlying34 (by simp [Value.oneCell']) rfl) (by have hOl := congrArg List.length hO; rw [List.length_map, List.length_take] at hOl; omega) ?_)
  intro v31_ w32_ S34_ H33_
  have S35_ := Same.trans S30_ S34_
  refine sv (v := v31_) (x_assign rfl) ?_
  refine wpList_nil (X_blkN (X_then (hK12_ _ _ ?_)))
  refine C_reg ?_
  refine sv (v := (vI .i64 ((k : Int) + 1))) (x_bin rfl rfl (ib_add (IntWalk.i64_in _ (by omega)))) ?_
  refine sm (vI .i64 ((k : Int) + 1)) ?_
  refine wpList_nil (X_then ?_)
  have H36_ := Holds.resl H33_ 2 rfl (by rw [List.flatMap_append]; rfl : (O.flatMap BO.cells) ++ [(vI .i64 1), (vI .i64 0), (vI .i64 x14_.key), (vI .i64 x14_.val), (vI .i64 0), (vI .i64 0), (vI .i64 0), (vB false)] = (O ++ [putO x14_]).flatMap BO.cells) (by rw [List.length_append]; rfl : (List.length O) + 1 = (List.length (O ++ [putO x14_])))
  have H37_ := Holds.pkF H36_ [2, 2] 2
  exact ⟨⟨k + 1, v31_, (O ++ [putO x14_])⟩, ⟨_, congrArg (fun e => mkA 19 e []) (ch (ch (ch (ch (ch rfl rfl) rfl) rfl) rfl) (congrArg (vI .i64) ((by first | rfl | omega | (simp; done) | (simp; omega)) : (k : Int) + 1 = ((k + 1 : Nat) : Int)))), H37_, S35_, (by omega), (by rw [hO]; exact putO_take hx15_)⟩, by first | omega | (dsimp only; omega) | (simp; omega)⟩
 ·have c11_fp : ¬ ((k : Int) < ((List.length l) : Int)) := of_decide_eq_false c11_f
  refine C_exit (X_thenX (X_thenX (X_blkHit ?_)))
  refine (X_then (hK3_ _ _ ?_))
  refine cR fun _ hK38_ => ?_
  refine sv (v := ov) (x_move rfl) ?_
  refine sv (v := ov) (x_assign rfl) ?_
  refine wn (hK38_ _ _ ?_)
  refine C_ret ?_
  refine R_any (v := ov) (run_results1 rfl rfl) ?_
  have H39_ := Holds.resl H7_ 0 rfl (by rw [hO, List.take_of_length_le (by omega)] : O.flatMap BO.cells = (l.map putO).flatMap BO.cells) (by rw [hO, List.take_of_length_le (by omega)] : (List.length O) = (List.length (l.map putO)))
  have H40_ := Holds.pkF H39_ [1, 0] 0
  exact ⟨_, _, rfl, ⟨ov, rfl, rfl⟩, S8_, H40_⟩

set_option maxHeartbeats 1600000 in
theorem btTail (R : HP) (dg : Int) (lv ov : Value) (l : List EL) (ops : List BO) (hl : RS R 2 lv (List.length l) (l.flatMap EL.cells)) (ho : RS R 8 ov (List.length ops) (ops.flatMap BO.cells)) (hn : l.length ≤ 600) (hno : ops.length ≤ 100) (hk : ∀ o ∈ ops, (o.tree = 0 ∧ (o.kind = 1 ∨ o.kind = 3 ∨ o.kind = 9))) :
    TriG Try.prog 7 #[(vI .i64 dg), lv, ov] R [] (fun R' v__ post__ => ∃ (v' : Value) (A : List BA), v__ = (vT #[v', (vB true)]) ∧ post__ = [] ∧ (RunB R' (l.map putO ++ ops) A) ∧ (RS R' 6 v' (List.length (A.drop l.length)) ((A.drop l.length).flatMap BA.cells))) := by
 refine TriG.into (n := 27) (al := [(vI .i64 dg), lv, ov]) func7 rfl ntmps7 rfl rfl fun w F H => ?_
 refine cR fun _ hK1_ => ?_
 refine sv (v := (vS none 0 0)) (x_assign rfl) ?_
 refine sv (v := (vB false)) (x_assign rfl) ?_
 refine wn (hK1_ _ _ ?_)
 refine cR fun _ hK2_ => ?_
 refine sm (vI .i64 dg) ?_
 refine sv (v := lv) (x_move rfl) ?_
 refine S_list (T_call (al := [lv]) (pre := []) rfl rfl cb14 (btPut R lv l hl (by first | assumption | omega)) H ?_)
 rintro v3_ p7_ w4_ ⟨_, rfl, rfl⟩ S6_ H5_
 have S8_ := Same.trans (Same.refl w) S6_
 refine sv (v := ov) (x_move rfl) ?_
 refine S_list (T_append rfl rfl underlying34 z30 rfl (by decide) H5_ 1 rfl (RS.src ho (Holds.ro_at H5_ 0 rfl) underlying34 (bo_one _)) (by rw [List.length_map]; omega) ?_)
 intro v9_ w10_ S12_ H11_
 have S13_ := Same.trans S8_ S12_
 have H14_ := Holds.resl H11_ 1 rfl (bo_app _ _ : ((l.map putO).flatMap BO.cells) ++ (ops.flatMap BO.cells) = (l.map putO ++ ops).flatMap BO.cells) (by rw [List.length_append] : (List.length (l.map putO)) + (List.length ops) = (List.length (l.map putO ++ ops)))
 obtain ⟨R15_, hs16_, ⟨R17_, ha18_, hs19_⟩, H20_⟩ := Holds.gift H14_
 have hr21_ : RS R15_ 8 v9_ (List.length (l.map putO ++ ops)) ((l.map putO ++ ops).flatMap BO.cells) := (sl_RS ha18_ (Sub.rfl' _)).mono hs19_
 refine S_list (T_callG (al := [(vI .i64 dg), v9_]) (pre := []) rfl rfl cb9 (btBTree R15_ dg v9_ (l.map putO ++ ops) hr21_ (fun o ho => (List.mem_append.1 ho).elim (fun h => by have := putO_kind o h; omega) (hk o)) (by simp; omega)) H20_ ?_)
 rintro R23_ v24_ p30_ w27_ hs22_ ⟨_, A25_, rfl, rfl, he26_⟩ S29_ H28_
 have S31_ := Same.trans S13_ S29_
 have hz_R_R23_ := Sub.trans' hs16_ hs22_
 obtain ⟨R32_, hs33_, ⟨R34_, ha35_, hs36_⟩, H37_⟩ := Holds.gift H28_
 have hz_R_R32_ := Sub.trans' hz_R_R23_ hs33_
 have hz_R15__R32_ := Sub.trans' hs22_ hs33_
 have hr38_ : RS R32_ 6 v24_ (List.length A25_) (A25_.flatMap BA.cells) := (sl_RS ha35_ (Sub.rfl' _)).mono hs36_
 have hrl_ := he26_.1
 rw [List.length_append, List.length_map] at hrl_
 refine sv (v := v24_) (x_assign rfl) ?_
 refine wn (hK2_ _ _ ?_)
 refine C_seq (fun _ hK39_ => ?_)
 refine cR fun _ hK40_ => ?_
 refine sv (v := v24_) (x_move rfl) ?_
 refine sv (v := (vI .i64 ((List.length A25_) : Int))) (x_lenRS rfl hr38_ underlying26) ?_
 refine sv (v := lv) (x_move rfl) ?_
 refine sv (v := (vI .i64 ((List.length l) : Int))) (x_lenRS rfl (RS.mono hl hz_R_R32_) underlying22) ?_
 refine sv (v := ov) (x_move rfl) ?_
 refine sv (v := (vI .i64 ((List.length ops) : Int))) (x_lenRS rfl (RS.mono ho hz_R_R32_) underlying34) ?_
 refine sv (v := (vI .i64 (((List.length l) : Int) + ((List.length ops) : Int)))) (x_bin rfl rfl (ib_add (IntWalk.i64_in _ (by omega)))) ?_
 refine sv (v := (vB (decide (((List.length A25_) : Int) ≠ ((List.length l) : Int) + ((List.length ops) : Int))))) (x_bin rfl rfl rfl) ?_
 refine wn (hK40_ _ _ ?_)
 refine C_cond (b := decide (((List.length A25_) : Int) ≠ ((List.length l) : Int) + ((List.length ops) : Int))) rfl (fun c41_t => ?_) (fun c41_f => ?_)
 ·have c41_tp : ((List.length A25_) : Int) ≠ ((List.length l) : Int) + ((List.length ops) : Int) := of_decide_eq_true c41_t
  omega
 ·have c41_fp : ¬ (((List.length A25_) : Int) ≠ ((List.length l) : Int) + ((List.length ops) : Int)) := of_decide_eq_false c41_f
  refine C_skip (X_then (hK39_ _ _ ?_))
  refine cR fun _ hK42_ => ?_
  refine sv (v := v24_) (x_move rfl) ?_
  refine sv (v := lv) (x_move rfl) ?_
  refine sv (v := (vI .i64 ((List.length l) : Int))) (x_lenRS rfl (RS.mono hl hz_R_R32_) underlying22) ?_
  refine sv (v := (slc v24_ (List.length l) (List.length A25_) 6)) (x_sliceRS (l := (List.length l)) (h := (List.length A25_)) rfl hr38_ underlying26 z32 (by omega) rfl ⟨_, _, rfl, by omega, by omega, by omega⟩) ?_
  refine sv (v := (slc v24_ (List.length l) (List.length A25_) 6)) (x_assign rfl) ?_
  refine sv (v := (vB true)) (x_assign rfl) ?_
  refine wn (hK42_ _ _ ?_)
  refine C_ret ?_
  refine R_any (v := (vT #[(slc v24_ (List.length l) (List.length A25_) 6), (vB true)])) (run_results2 rfl rfl rfl) ?_
  exact ⟨R32_, _, _, rfl, hz_R_R32_, ⟨slc v24_ (List.length l) (List.length A25_) 6, A25_, (congrArg (fun l => vT (List.toArray l)) (lcons (rfl : (slc v24_ (List.length l) (List.length A25_) 6) = ((slc v24_ (List.length l) (List.length A25_) 6))) rfl)), rfl, (he26_.mono hs33_), ((RS.slcD (a := (List.length l)) BA.len hr38_ (by omega)))⟩, S31_, H37_⟩
end Go.Proofs.Ytdfjdmmmlidamaa
set_option linter.unusedVariables false
set_option linter.unusedSimpArgs false
namespace Go.Proofs.Ytdfjdmmmlidamaa
open Go Go.RowKit Gw Try
open Go.Value renaming int → vI, bool → vB, slice → vS, pointer → vP, agg → vA, tuple → vT

theorem tail_at {R : HP} {l : List EL} {ops : List BO} {A : List BA} {i : Nat} {o : BO} {a : BA} (h : RunB R (l.map putO ++ ops) A) (ho : ops[i]? = some o) (ha : (A.drop l.length)[i]? = some a) : BAns R o ((ops.take i).foldl (fun l o => bNext o l) (stB (l.map putO))) a := by
  have hl : (l.map putO).length = l.length := List.length_map ..
  rw [List.getElem?_drop] at ha
  have := h.2 (l.length + i) o a (by rw [List.getElem?_append_right (by omega), hl, Nat.add_sub_cancel_left]; exact ho) ha
  rw [← hl, List.take_length_add_append] at this
  have e : stB (l.map putO ++ ops.take i) = (ops.take i).foldl (fun l o => bNext o l) (stB (l.map putO)) := by unfold stB; rw [List.foldl_append]
  rwa [e] at this
theorem told_same {e x y : EL} {b c : Bool} {l : List EL} (h1 : Told e l x b) (h2 : Told e l y c) : b = c ∧ x = y := by
  rcases h1 with ⟨rfl, a⟩ | ⟨rfl, a, rfl⟩ <;> rcases h2 with ⟨rfl, a'⟩ | ⟨rfl, a', rfl⟩ <;> rw [a] at a'
  · cases a'; exact ⟨rfl, rfl⟩
  · cases a'
  · cases a'
  · exact ⟨rfl, rfl⟩
theorem getE_ins (e : EL) (l : List EL) : getE e.key (insE e l) = some e := by
  have h1 : ∀ z ∈ l.filter (fun x => decide (x.key < e.key)), z.key < e.key := fun z hz => of_decide_eq_true (List.mem_filter.1 hz).2
  have h2 : ∀ z ∈ l.filter (fun x => decide (e.key < x.key)), e.key < z.key := fun z hz => of_decide_eq_true (List.mem_filter.1 hz).2
  have := getE_mid (m := [e]) h1 h2
  rw [getE_one rfl] at this
  exact this
theorem told_ins {e x : EL} {b : Bool} {l : List EL} (h : Told e (insE e l) x b) : b = true ∧ x = e := by
  have h2 : Told e (insE e l) e true := .inl ⟨rfl, getE_ins e l⟩
  exact told_same h h2
def gO (e : EL) : BO := ⟨3, 0, e.key, e.val, 0, 0, 0, false⟩
def nO : BO := ⟨9, 0, 0, 0, 0, 0, 0, false⟩
theorem stB_len (ops : List BO) : (stB ops).length ≤ ops.length := by
  have : ∀ (l : List BO) (s : List EL), (l.foldl (fun l o => bNext o l) s).length ≤ s.length + l.length := by
    intro l
    induction l with
    | nil => intro s; simp
    | cons o l ih => intro s; have h1 := ih (bNext o s); have h2 := bNext_len o s; simp only [List.foldl_cons, List.length_cons]; omega
  have h := this ops []
  rw [List.length_nil, Nat.zero_add] at h
  exact h
theorem law_rep {R : HP} {l : List EL} {e : EL} {A : List BA} {a0 a1 a2 a3 a4 : BA} (h : RunB R (l.map putO ++ [nO, gO e, putO e, nO, gO e]) A) (h0 : (A.drop l.length)[0]? = some a0) (h1 : (A.drop l.length)[1]? = some a1) (h2 : (A.drop l.length)[2]? = some a2) (h3 : (A.drop l.length)[3]? = some a3) (h4 : (A.drop l.length)[4]? = some a4) :
    a2.oK = a1.oK ∧ a2.el_Key = a1.el_Key ∧ a2.el_Val = a1.el_Val ∧ a3.n = a0.n + (if a1.oK then 0 else 1) ∧ a4.oK = true ∧ a4.el_Key = e.key ∧ a4.el_Val = e.val ∧ 0 ≤ a0.n ∧ a0.n ≤ l.length := by
  have hs := stB_srt (l.map putO)
  have q0 : a0.n = _ := (tail_at h (o := nO) rfl h0).n rfl
  have q1 : Told e (stB (l.map putO)) ⟨a1.el_Key, a1.el_Val⟩ a1.oK := (tail_at h (o := gO e) rfl h1).told (.inr rfl)
  have q2 : Told e (stB (l.map putO)) ⟨a2.el_Key, a2.el_Val⟩ a2.oK := (tail_at h (o := putO e) rfl h2).told (.inl rfl)
  have q3 : a3.n = ((insE e (stB (l.map putO))).length : Int) := (tail_at h (o := nO) rfl h3).n rfl
  have q4 : Told e (insE e (stB (l.map putO))) ⟨a4.el_Key, a4.el_Val⟩ a4.oK := (tail_at h (o := gO e) rfl h4).told (.inr rfl)
  have q0' : a0.n = ((stB (l.map putO)).length : Int) := q0
  obtain ⟨e1, e2⟩ := told_same q2 q1
  obtain ⟨e3, e4⟩ := told_ins q4
  rw [EL.mk.injEq] at e2
  have e4' : (⟨a4.el_Key, a4.el_Val⟩ : EL) = ⟨e.key, e.val⟩ := e4
  rw [EL.mk.injEq] at e4'
  have hb := stB_len (l.map putO)
  rw [List.length_map] at hb
  refine ⟨e1, e2.1, e2.2, ?_, e3, e4'.1, e4'.2, by omega, by omega⟩
  rw [q3, q0', told_len hs q1]
theorem law_live {R : HP} {A : List BA} {a : BA} (h : RunB R [⟨1, 0, 4, 7, 0, 0, 0, false⟩, ⟨3, 0, 4, 0, 0, 0, 0, false⟩] A) (h1 : A[1]? = some a) : a.oK = true ∧ a.el_Key = 4 ∧ a.el_Val = 7 := by
  have q : Told ⟨4, 0⟩ (stB [⟨1, 0, 4, 7, 0, 0, 0, false⟩]) ⟨a.el_Key, a.el_Val⟩ a.oK := (h.2 1 _ a rfl h1).told (.inr rfl)
  have q2 : Told ⟨4, 0⟩ (stB [⟨1, 0, 4, 7, 0, 0, 0, false⟩]) ⟨4, 7⟩ true := .inl ⟨rfl, rfl⟩
  obtain ⟨e1, e2⟩ := told_same q q2
  rw [EL.mk.injEq] at e2
  exact ⟨e1, e2.1, e2.2⟩


set_option maxHeartbeats 1600000 in
theorem lwLive (R : HP) :
    Tri Try.prog 6 #[] R [] (fun v__ post__ => v__ = (vB true) ∧ post__ = []) := by
 refine Tri.into (n := 25) (al := []) func6 rfl ntmps6 rfl rfl fun w F H => ?_
 refine cR fun _ hK1_ => ?_
 refine sv (v := (vB false)) (x_assign rfl) ?_
 refine wn (hK1_ _ _ ?_)
 refine cR fun _ hK2_ => ?_
 refine sv (v := (vA #[(vI .i64 4), (vI .i64 7)])) (by kernel_rfl) ?_
 refine sv (v := (vA #[(vI .i64 1), (vI .i64 0), (vI .i64 4), (vI .i64 7), (vI .i64 0), (vI .i64 0), (vI .i64 0), (vB false)])) (by kernel_rfl) ?_
 refine sv (v := (vA #[(vI .i64 4), (vI .i64 0)])) (by kernel_rfl) ?_
 refine sv (v := (vA #[(vI .i64 3), (vI .i64 0), (vI .i64 4), (vI .i64 0), (vI .i64 0), (vI .i64 0), (vI .i64 0), (vB false)])) (by kernel_rfl) ?_
 refine S_list (T_new (obj := .cells #[(vI .i64 1), (vI .i64 0), (vI .i64 4), (vI .i64 7), (vI .i64 0), (vI .i64 0), (vI .i64 0), (vB false), (vI .i64 3), (vI .i64 0), (vI .i64 4), (vI .i64 0), (vI .i64 0), (vI .i64 0), (vI .i64 0), (vB false)] 30) (f := fun b__ => .slice (some ⟨b__, 0, none⟩) 2 2) (A := fun b__ => cl b__ 30 [(vI .i64 1), (vI .i64 0), (vI .i64 4), (vI .i64 7), (vI .i64 0), (vI .i64 0), (vI .i64 0), (vB false), (vI .i64 3), (vI .i64 0), (vI .i64 4), (vI .i64 0), (vI .i64 0), (vI .i64 0), (vI .i64 0), (vB false)]) (by kernel_rfl) (fun l h => h.alloc _ _) H ?_)
 intro b3_ w4_ S6_ H5_
 have S7_ := Same.trans (Same.refl w) S6_
 have H8_ := ((Holds.bring H5_ 1 rfl) :)
 obtain ⟨R9_, hs10_, ⟨R11_, ha12_, hs13_⟩, H14_⟩ := Holds.gift H8_
 have hr15_ : RS R9_ 8 (vS (some ⟨b3_, 0, none⟩) 2 2) 2 (([⟨1, 0, 4, 7, 0, 0, 0, false⟩, ⟨3, 0, 4, 0, 0, 0, 0, false⟩] : List BO).flatMap BO.cells) := (RS.set_ (cl_RSn (sz := 8) ha12_ (Sub.rfl' _) (by rfl) (by omega)) rfl rfl).mono hs13_
 refine S_list (T_callG (al := [(vI .i64 2), ((vS (some ⟨b3_, 0, none⟩) 2 2))]) (pre := []) rfl (lcons rfl (lcons (rfl : (vS (some ⟨b3_, 0, none⟩) 2 2) = ((vS (some ⟨b3_, 0, none⟩) 2 2))) rfl)) cb9 (btBTree R9_ 2 (vS (some ⟨b3_, 0, none⟩) 2 2) ([⟨1, 0, 4, 7, 0, 0, 0, false⟩, ⟨3, 0, 4, 0, 0, 0, 0, false⟩] : List BO) (RS.set_ hr15_ rfl (by first | rfl | omega | (simp; done) | (simp; omega))) (by intro o ho; simp at ho; rcases ho with rfl | rfl <;> decide) (by decide)) H14_ ?_)
 rintro R17_ v18_ p24_ w21_ hs16_ ⟨_, A19_, rfl, rfl, he20_⟩ S23_ H22_
 have S25_ := Same.trans S7_ S23_
 have hz_R_R17_ := Sub.trans' hs10_ hs16_
 obtain ⟨R26_, hs27_, ⟨R28_, ha29_, hs30_⟩, H31_⟩ := Holds.gift H22_
 have hz_R_R26_ := Sub.trans' hz_R_R17_ hs27_
 have hz_R9__R26_ := Sub.trans' hs16_ hs27_
 have hr32_ : RS R26_ 6 v18_ (List.length A19_) (A19_.flatMap BA.cells) := (sl_RS ha29_ (Sub.rfl' _)).mono hs30_
 have hrl_ : List.length A19_ = 2 := he20_.1
 refine sv (v := v18_) (x_assign rfl) ?_
 refine wn (hK2_ _ _ ?_)
 refine cR fun _ hK33_ => ?_
 refine sv (v := v18_) (x_move rfl) ?_
 refine sv (v := (vI .i64 ((List.length A19_) : Int))) (x_lenRS rfl hr32_ underlying26) ?_
 refine sv (v := (vB (decide (((List.length A19_) : Int) = 2)))) (x_bin rfl rfl rfl) ?_
 refine sv (v := (vB (decide (((List.length A19_) : Int) = 2)))) (x_move rfl) ?_
 rcases Bool.eq_false_or_eq_true (decide (((List.length A19_) : Int) = 2)) with c34_t | c34_f
 ·have c34_tp : ((List.length A19_) : Int) = 2 := of_decide_eq_true c34_t
  refine S_yes (j := 3) (dj := 11) (b := true) rfl rfl (congrArg vB c34_t) (T_val (v := v18_) (x_move rfl) ?_)
  obtain ⟨x35_, hx36_, hm37_⟩ := elem_at A19_ 1 (by omega)
  obtain ⟨hv1_, hv2_, hv3_⟩ := law_live he20_ hx36_
  refine S_yes (j := 3) (dj := 11) (b := true) rfl rfl (congrArg vB c34_t) (T_val (v := (vP (some ⟨(sb v18_), so v18_ + (6 + 0), none⟩))) (x_idxRS (v := v18_) rfl hr32_ rfl underlying26 z32 (by omega) (by omega) (by omega : _ = 1) rfl) ?_)
  refine S_yes (j := 3) (dj := 11) (b := true) rfl rfl (congrArg vB c34_t) (T_val (v := (vP (some ⟨(sb v18_), so v18_ + (6 + 1), none⟩))) (by kernel_rfl) ?_)
  refine S_yes (j := 3) (dj := 11) (b := true) rfl rfl (congrArg vB c34_t) (T_val (v := (vB x35_.oK)) (x_load1 rfl underlying4 rfl (RC.cell (RS.rc hr32_) (Holds.ro_at H31_ 0 rfl) (j := 6 + 1) (u := (vB x35_.oK)) (fm_cell BA.len hx36_ (i := 1) rfl))) ?_)
  refine S_list (T_pickT (v := (vB x35_.oK)) (congrArg vB c34_t) rfl ?_)
  refine sm (vB x35_.oK) ?_
  rcases Bool.eq_false_or_eq_true (x35_.oK) with c38_t | c38_f
  ·skip
   refine S_yes (j := 9) (dj := 17) (b := true) rfl rfl (congrArg vB c38_t) (T_val (v := v18_) (x_move rfl) ?_)
   refine S_yes (j := 9) (dj := 17) (b := true) rfl rfl (congrArg vB c38_t) (T_val (v := (vP (some ⟨(sb v18_), so v18_ + (6 + 0), none⟩))) (x_idxRS (v := v18_) rfl hr32_ rfl underlying26 z32 (by omega) (by omega) (by omega : _ = 1) rfl) ?_)
   refine S_yes (j := 9) (dj := 17) (b := true) rfl rfl (congrArg vB c38_t) (T_val (v := (vP (some ⟨(sb v18_), so v18_ + (6 + 3), none⟩))) (by kernel_rfl) ?_)
   refine S_yes (j := 9) (dj := 17) (b := true) rfl rfl (congrArg vB c38_t) (T_val (v := (vA #[(vI .i64 x35_.el_Key), (vI .i64 x35_.el_Val)])) (x_loadN (vs := [(vI .i64 x35_.el_Key), (vI .i64 x35_.el_Val)]) rfl underlying24 rfl z24 rfl (RC.cells (RS.rc hr32_) (Holds.ro_at H31_ 0 rfl) (6 + 3) (fm_cells BA.len hx36_ (i := 3) rfl))) ?_)
   refine S_yes (j := 9) (dj := 17) (b := true) rfl rfl (congrArg vB c38_t) (T_val (v := (vA #[(vI .i64 4), (vI .i64 7)])) (by kernel_rfl) ?_)
   refine S_yes (j := 9) (dj := 17) (b := true) rfl rfl (congrArg vB c38_t) (T_val (v := (vB ((decide (x35_.el_Key = 4)) && ((decide (x35_.el_Val = 7)) && (true))))) (x_eqS rfl rfl (by kernel_rfl) (eq_struct underlying24 (by kernel_rfl) (eqf_cons rfl (run_part1 underlying3 rfl rfl) (run_part1 underlying3 rfl rfl) (eq_int underlying3) (eqf_cons rfl (run_part1 underlying3 rfl rfl) (run_part1 underlying3 rfl rfl) (eq_int underlying3) (eqf_nil))))) ?_)
   refine S_list (T_pickT (v := (vB ((decide (x35_.el_Key = 4)) && ((decide (x35_.el_Val = 7)) && (true))))) (congrArg vB c38_t) rfl ?_)
   refine sv (v := (vB ((decide (x35_.el_Key = 4)) && ((decide (x35_.el_Val = 7)) && (true))))) (x_assign rfl) ?_
   refine wn (hK33_ _ _ ?_)
   refine C_ret ?_
   refine R_any (v := (vB ((decide (x35_.el_Key = 4)) && ((decide (x35_.el_Val = 7)) && (true))))) (run_results1 rfl rfl) ?_
   have H39_ : Holds w21_ (ro R :: F) := Holds.ro_less H31_ hz_R_R26_
   exact ⟨_, _, rfl, ⟨(congrArg vB ((by simp [hv2_, hv3_]) : ((decide (x35_.el_Key = 4)) && ((decide (x35_.el_Val = 7)) && (true))) = true)), rfl⟩, S25_, H39_⟩
  ·skip
   rw [hv1_] at c38_f; cases c38_f
 ·have c34_fp : ¬ (((List.length A19_) : Int) = 2) := of_decide_eq_false c34_f
  omega
end Go.Proofs.Ytdfjdmmmlidamaa
set_option linter.unusedVariables false
set_option linter.unusedSimpArgs false
namespace Go.Proofs.Ytdfjdmmmlidamaa
open Go Go.RowKit Gw Try
open Go.Value renaming int → vI, bool → vB, slice → vS, pointer → vP, agg → vA, tuple → vT

set_option maxHeartbeats 8000000 in
theorem fnBTreeReplaces (R : HP) (dg : Int) (lv : Value) (l : List EL) (e : EL) (hl : RS R 2 lv (List.length l) (l.flatMap EL.cells)) :
    Tri Try.prog 3 #[(vI .i64 dg), lv, (vA #[(vI .i64 e.key), (vI .i64 e.val)])] R [] (fun v__ post__ => v__ = (vB true) ∧ post__ = []) := by
 refine Tri.into (n := 98) (al := [(vI .i64 dg), lv, (vA #[(vI .i64 e.key), (vI .i64 e.val)])]) func3 rfl ntmps3 rfl rfl fun w F H => ?_
 refine cR fun _ hK1_ => ?_
 refine S_list (T_box (v := (vA #[(vI .i64 e.key), (vI .i64 e.val)])) rfl H ?_)
 intro b2_ w3_ S5_ H4_
 have S6_ := Same.trans (Same.refl w) S5_
 refine sv (v := (vB false)) (x_assign rfl) ?_
 refine wn (hK1_ _ _ ?_)
 refine C_seq (fun _ hK7_ => ?_)
 refine cR fun _ hK8_ => ?_
 refine sv (v := lv) (x_move rfl) ?_
 refine sv (v := (vI .i64 ((List.length l) : Int))) (x_lenRS rfl hl underlying22) ?_
 refine sv (v := (vB (decide (2147483647 < ((List.length l) : Int))))) (x_bin rfl rfl rfl) ?_
 refine wn (hK8_ _ _ ?_)
 refine C_cond (b := decide (2147483647 < ((List.length l) : Int))) rfl (fun c9_t => ?_) (fun c9_f => ?_)
 ·have c9_tp : 2147483647 < ((List.length l) : Int) := of_decide_eq_true c9_t
  refine cR fun _ hK10_ => ?_
  refine sv (v := (vB true)) (x_assign rfl) ?_
  refine wn (hK10_ _ _ ?_)
  refine C_ret (X_thenR ?_)
  refine R_any (v := (vB true)) (run_results1 rfl rfl) ?_
  have H11_ := Holds.pkF H4_ [1] 1
  exact ⟨_, _, rfl, ⟨rfl, rfl⟩, S6_, H11_⟩
 ·have c9_fp : ¬ (2147483647 < ((List.length l) : Int)) := of_decide_eq_false c9_f
  refine C_skip (X_then (hK7_ _ _ ?_))
  refine C_seq (fun _ hK12_ => ?_)
  refine cR fun _ hK13_ => ?_
  refine sm (vI .i64 dg) ?_
  refine sv (v := (vB (decide (dg < 2)))) (x_bin rfl rfl rfl) ?_
  refine sm (vB (decide (dg < 2))) ?_
  rcases Bool.eq_false_or_eq_true (decide (dg < 2)) with c14_t | c14_f
  ·have c14_tp : dg < 2 := of_decide_eq_true c14_t
   refine S_no (j := 2) (dj := 15) (b := true) rfl rfl (congrArg vB c14_t) (by decide) ?_
   refine S_no (j := 2) (dj := 15) (b := true) rfl rfl (congrArg vB c14_t) (by decide) ?_
   refine S_list (T_pickT (v := (vB true)) (congrArg vB c14_t) rfl ?_)
   refine sm (vB true) ?_
   refine S_no (j := 6) (dj := 19) (b := true) rfl rfl rfl (by decide) ?_
   refine S_no (j := 6) (dj := 19) (b := true) rfl rfl rfl (by decide) ?_
   refine S_no (j := 6) (dj := 19) (b := true) rfl rfl rfl (by decide) ?_
   refine S_list (T_pickT (v := (vB true)) rfl rfl ?_)
   refine wn (hK13_ _ _ ?_)
   refine C_condT rfl ?_
   refine cR fun _ hK15_ => ?_
   have H17_ := ((Holds.bring H4_ 1 rfl) :)
   refine S_list (T_call (al := []) (pre := []) rfl rfl cb6 (lwLive R) H17_ ?_)
   rintro v16_ p21_ w18_ ⟨rfl, rfl⟩ S20_ H19_
   have S22_ := Same.trans S6_ S20_
   refine sv (v := (vB true)) (x_assign rfl) ?_
   refine wn (hK15_ _ _ ?_)
   refine C_ret (X_thenR ?_)
   refine R_any (v := (vB true)) (run_results1 rfl rfl) ?_
   have H23_ := Holds.pkF H19_ [0] 1
   exact ⟨_, _, rfl, ⟨rfl, rfl⟩, S22_, H23_⟩
  ·have c14_fp : ¬ (dg < 2) := of_decide_eq_false c14_f
   refine S_yes (j := 2) (dj := 15) (b := false) rfl rfl (congrArg vB c14_f) (T_val (v := (vI .i64 dg)) (x_move rfl) ?_)
   refine S_yes (j := 2) (dj := 15) (b := false) rfl rfl (congrArg vB c14_f) (T_val (v := (vB (decide (64 < dg)))) (x_bin rfl rfl rfl) ?_)
   refine S_list (T_pickF (v := (vB (decide (64 < dg)))) (congrArg vB c14_f) rfl ?_)
   refine sm (vB (decide (64 < dg))) ?_
   rcases Bool.eq_false_or_eq_true (decide (64 < dg)) with c24_t | c24_f
   ·have c24_tp : 64 < dg := of_decide_eq_true c24_t
    refine S_no (j := 6) (dj := 19) (b := true) rfl rfl (congrArg vB c24_t) (by decide) ?_
    refine S_no (j := 6) (dj := 19) (b := true) rfl rfl (congrArg vB c24_t) (by decide) ?_
    refine S_no (j := 6) (dj := 19) (b := true) rfl rfl (congrArg vB c24_t) (by decide) ?_
    refine S_list (T_pickT (v := (vB true)) (congrArg vB c24_t) rfl ?_)
    refine wn (hK13_ _ _ ?_)
    refine C_condT rfl ?_
    refine cR fun _ hK25_ => ?_
    have H27_ := ((Holds.bring H4_ 1 rfl) :)
    refine S_list (T_call (al := []) (pre := []) rfl rfl cb6 (lwLive R) H27_ ?_)
    rintro v26_ p31_ w28_ ⟨rfl, rfl⟩ S30_ H29_
    have S32_ := Same.trans S6_ S30_
    refine sv (v := (vB true)) (x_assign rfl) ?_
    refine wn (hK25_ _ _ ?_)
    refine C_ret (X_thenR ?_)
    refine R_any (v := (vB true)) (run_results1 rfl rfl) ?_
    have H33_ := Holds.pkF H29_ [0] 1
    exact ⟨_, _, rfl, ⟨rfl, rfl⟩, S32_, H33_⟩
   ·have c24_fp : ¬ (64 < dg) := of_decide_eq_false c24_f
    refine S_yes (j := 6) (dj := 19) (b := false) rfl rfl (congrArg vB c24_f) (T_val (v := lv) (x_move rfl) ?_)
    refine S_yes (j := 6) (dj := 19) (b := false) rfl rfl (congrArg vB c24_f) (T_val (v := (vI .i64 ((List.length l) : Int))) (x_lenRS rfl hl underlying22) ?_)
    refine S_yes (j := 6) (dj := 19) (b := false) rfl rfl (congrArg vB c24_f) (T_val (v := (vB (decide (600 < ((List.length l) : Int))))) (x_bin rfl rfl rfl) ?_)
    refine S_list (T_pickF (v := (vB (decide (600 < ((List.length l) : Int))))) (congrArg vB c24_f) rfl ?_)
    refine wn (hK13_ _ _ ?_)
    refine C_cond (b := decide (600 < ((List.length l) : Int))) rfl (fun c34_t => ?_) (fun c34_f => ?_)
    ·have c34_tp : 600 < ((List.length l) : Int) := of_decide_eq_true c34_t
     refine cR fun _ hK35_ => ?_
     have H37_ := ((Holds.bring H4_ 1 rfl) :)
     refine S_list (T_call (al := []) (pre := []) rfl rfl cb6 (lwLive R) H37_ ?_)
     rintro v36_ p41_ w38_ ⟨rfl, rfl⟩ S40_ H39_
     have S42_ := Same.trans S6_ S40_
     refine sv (v := (vB true)) (x_assign rfl) ?_
     refine wn (hK35_ _ _ ?_)
     refine C_ret (X_thenR ?_)
     refine R_any (v := (vB true)) (run_results1 rfl rfl) ?_
     have H43_ := Holds.pkF H39_ [0] 1
     exact ⟨_, _, rfl, ⟨rfl, rfl⟩, S42_, H43_⟩
    ·have c34_fp : ¬ (600 < ((List.length l) : Int)) := of_decide_eq_false c34_f
     refine C_skip (X_then (hK12_ _ _ ?_))
     refine cR fun _ hK44_ => ?_
     refine sm (vI .i64 dg) ?_
     refine sv (v := lv) (x_move rfl) ?_
     refine sv (v := (vA #[(vI .i64 9), (vI .i64 0), (vI .i64 0), (vI .i64 0), (vI .i64 0), (vI .i64 0), (vI .i64 0), (vB false)])) (by kernel_rfl) ?_
     refine sv (v := (vA #[(vI .i64 e.key), (vI .i64 e.val)])) (x_loadN (vs := [(vI .i64 e.key), (vI .i64 e.val)]) rfl underlying24 rfl z24 rfl (Rd.cells (Holds.rd H4_ 0 rfl) 0 rfl)) ?_
     refine sv (v := (vA #[(vI .i64 3), (vI .i64 0), (vI .i64 e.key), (vI .i64 e.val), (vI .i64 0), (vI .i64 0), (vI .i64 0), (vB false)])) (by kernel_rfl) ?_
     refine sv (v := (vA #[(vI .i64 e.key), (vI .i64 e.val)])) (x_loadN (vs := [(vI .i64 e.key), (vI .i64 e.val)]) rfl underlying24 rfl z24 rfl (Rd.cells (Holds.rd H4_ 0 rfl) 0 rfl)) ?_
     refine sv (v := (vA #[(vI .i64 1), (vI .i64 0), (vI .i64 e.key), (vI .i64 e.val), (vI .i64 0), (vI .i64 0), (vI .i64 0), (vB false)])) (by kernel_rfl) ?_
     refine sv (v := (vA #[(vI .i64 9), (vI .i64 0), (vI .i64 0), (vI .i64 0), (vI .i64 0), (vI .i64 0), (vI .i64 0), (vB false)])) (by kernel_rfl) ?_
     refine sv (v := (vA #[(vI .i64 e.key), (vI .i64 e.val)])) (x_loadN (vs := [(vI .i64 e.key), (vI .i64 e.val)]) rfl underlying24 rfl z24 rfl (Rd.cells (Holds.rd H4_ 0 rfl) 0 rfl)) ?_
     refine sv (v := (vA #[(vI .i64 3), (vI .i64 0), (vI .i64 e.key), (vI .i64 e.val), (vI .i64 0), (vI .i64 0), (vI .i64 0), (vB false)])) (by kernel_rfl) ?_
     refine S_list (T_new (obj := .cells #[(vI .i64 9), (vI .i64 0), (vI .i64 0), (vI .i64 0), (vI .i64 0), (vI .i64 0), (vI .i64 0), (vB false), (vI .i64 3), (vI .i64 0), (vI .i64 e.key), (vI .i64 e.val), (vI .i64 0), (vI .i64 0), (vI .i64 0), (vB false), (vI .i64 1), (vI .i64 0), (vI .i64 e.key), (vI .i64 e.val), (vI .i64 0), (vI .i64 0), (vI .i64 0), (vB false), (vI .i64 9), (vI .i64 0), (vI .i64 0), (vI .i64 0), (vI .i64 0), (vI .i64 0), (vI .i64 0), (vB false), (vI .i64 3), (vI .i64 0), (vI .i64 e.key), (vI .i64 e.val), (vI .i64 0), (vI .i64 0), (vI .i64 0), (vB false)] 30) (f := fun b__ => .slice (some ⟨b__, 0, none⟩) 5 5) (A := fun b__ => cl b__ 30 [(vI .i64 9), (vI .i64 0), (vI .i64 0), (vI .i64 0), (vI .i64 0), (vI .i64 0), (vI .i64 0), (vB false), (vI .i64 3), (vI .i64 0), (vI .i64 e.key), (vI .i64 e.val), (vI .i64 0), (vI .i64 0), (vI .i64 0), (vB false), (vI .i64 1), (vI .i64 0), (vI .i64 e.key), (vI .i64 e.val), (vI .i64 0), (vI .i64 0), (vI .i64 0), (vB false), (vI .i64 9), (vI .i64 0), (vI .i64 0), (vI .i64 0), (vI .i64 0), (vI .i64 0), (vI .i64 0), (vB false), (vI .i64 3), (vI .i64 0), (vI .i64 e.key), (vI .i64 e.val), (vI .i64 0), (vI .i64 0), (vI .i64 0), (vB false)]) (by kernel_rfl) (fun l h => h.alloc _ _) H4_ ?_)
     intro b45_ w46_ S48_ H47_
     have S49_ := Same.trans S6_ S48_
     have H50_ := ((Holds.bring H47_ 2 rfl) :)
     obtain ⟨R51_, hs52_, ⟨R53_, ha54_, hs55_⟩, H56_⟩ := Holds.gift H50_
     have hr57_ : RS R51_ 8 (vS (some ⟨b45_, 0, none⟩) 5 5) 5 (([nO, gO e, putO e, nO, gO e] : List BO).flatMap BO.cells) := (RS.set_ (cl_RSn (sz := 8) ha54_ (Sub.rfl' _) (by rfl) (by omega)) rfl rfl).mono hs55_
     refine S_list (T_callG (al := [(vI .i64 dg), lv, ((vS (some ⟨b45_, 0, none⟩) 5 5))]) (pre := []) rfl (lcons rfl (lcons rfl (lcons (rfl : (vS (some ⟨b45_, 0, none⟩) 5 5) = ((vS (some ⟨b45_, 0, none⟩) 5 5))) rfl))) cb7 (btTail R51_ dg lv (vS (some ⟨b45_, 0, none⟩) 5 5) l ([nO, gO e, putO e, nO, gO e] : List BO) (RS.mono hl hs52_) (RS.set_ hr57_ rfl (by first | rfl | omega | (simp; done) | (simp; omega))) (by omega) (by simp) (by intro o ho; simp only [List.mem_cons, List.not_mem_nil, or_false] at ho; rcases ho with rfl | rfl | rfl | rfl | rfl <;> simp [nO, gO, putO])) H56_ ?_)
     rintro R59_ v60_ p68_ w65_ hs58_ ⟨v61_, A62_, rfl, rfl, he63_, he64_⟩ S67_ H66_
     have S69_ := Same.trans S49_ S67_
     have hz_R_R59_ := Sub.trans' hs52_ hs58_
     have hrl_ := he63_.1
     simp only [List.length_append, List.length_map, List.length_cons, List.length_nil] at hrl_
     have hdl_ : List.length (List.drop (List.length l) A62_) = 5 := by rw [List.length_drop]; omega
     obtain ⟨a0_, ha0_, _⟩ := elem_at (List.drop (List.length l) A62_) 0 (by omega)
     obtain ⟨a1_, ha1_, _⟩ := elem_at (List.drop (List.length l) A62_) 1 (by omega)
     obtain ⟨a2_, ha2_, _⟩ := elem_at (List.drop (List.length l) A62_) 2 (by omega)
     obtain ⟨a3_, ha3_, _⟩ := elem_at (List.drop (List.length l) A62_) 3 (by omega)
     obtain ⟨a4_, ha4_, _⟩ := elem_at (List.drop (List.length l) A62_) 4 (by omega)
     obtain ⟨hf1_, hf2_, hf3_, hf4_, hf5_, hf6_, hf7_, hf8_⟩ := law_rep he63_ ha0_ ha1_ ha2_ ha3_ ha4_
     refine sm (vT #[v61_, (vB true)]) ?_
     refine sv (v := v61_) (by kernel_rfl) ?_
     refine sv (v := (vB true)) (by kernel_rfl) ?_
     refine sv (v := v61_) (x_assign rfl) ?_
     refine sv (v := (vB true)) (x_assign rfl) ?_
     refine wn (hK44_ _ _ ?_)
     refine C_seq (fun _ hK70_ => ?_)
     refine cR fun _ hK71_ => ?_
     refine sm (vB true) ?_
     refine sv (v := (vB false)) (x_cast (x_not (b := true) rfl) rfl) ?_
     refine wn (hK71_ _ _ ?_)
     refine C_condF rfl ?_
     refine C_skip (X_then (hK70_ _ _ ?_))
     refine cR fun _ hK72_ => ?_
     refine sv (v := v61_) (x_move rfl) ?_
     refine sv (v := (vP (some ⟨(sb v61_), so v61_ + (0 + 0), none⟩))) (x_idxRS (v := v61_) rfl he64_ rfl underlying26 z32 (by omega) (by omega) (by omega : _ = 0) rfl) ?_
     refine sv (v := (vP (some ⟨(sb v61_), so v61_ + (0 + 2), none⟩))) (by kernel_rfl) ?_
     refine sv (v := (vI .i64 a0_.n)) (x_load1 rfl underlying3 rfl (RC.cell (RS.rc he64_) (Holds.ro_at H66_ 0 rfl) (j := 0 + 2) (u := (vI .i64 a0_.n)) (fm_cell BA.len ha0_ (i := 2) rfl))) ?_
     refine sv (v := (vI .i64 a0_.n)) (x_assign rfl) ?_
     refine wn (hK72_ _ _ ?_)
     refine C_seq (fun _ hK76_ => ?_)
     refine cR fun _ hK77_ => ?_
     refine sv (v := v61_) (x_move rfl) ?_
     refine sv (v := (vP (some ⟨(sb v61_), so v61_ + (6 + 0), none⟩))) (x_idxRS (v := v61_) rfl he64_ rfl underlying26 z32 (by omega) (by omega) (by omega : _ = 1) rfl) ?_
     refine sv (v := (vP (some ⟨(sb v61_), so v61_ + (6 + 1), none⟩))) (by kernel_rfl) ?_
     refine sv (v := (vB a1_.oK)) (x_load1 rfl underlying4 rfl (RC.cell (RS.rc he64_) (Holds.ro_at H66_ 0 rfl) (j := 6 + 1) (u := (vB a1_.oK)) (fm_cell BA.len ha1_ (i := 1) rfl))) ?_
     refine sv (v := (vB (!a1_.oK))) (x_not rfl) ?_
     refine wn (hK77_ _ _ ?_)
     refine C_cond (b := !a1_.oK) rfl (fun c81_t => ?_) (fun c81_f => ?_)
     ·skip
      refine C_reg ?_
      refine sm (vI .i64 a0_.n) ?_
      refine sv (v := (vI .i64 (a0_.n + 1))) (x_bin rfl rfl (ib_add (IntWalk.i64_in _ (by omega)))) ?_
      refine sv (v := (vI .i64 (a0_.n + 1))) (x_assign rfl) ?_
      refine wn (hK76_ _ _ ?_)
      refine C_seq (fun _ hK82_ => ?_)
      refine A_start (S := fun w => Rd b2_ [(vI .i64 e.key), (vI .i64 e.val)] w ∧ Sub R59_ (hp w)) (N := 46) foll rfl rfl ?_
      have H83_ := Holds.drew_ H66_
      have hq84_ := And.intro (Holds.rd H83_ 1 rfl) ((Holds.ro_at H83_ 0 rfl))
      refine A_tk 0 (v := v61_) rfl (by kernel_rfl) (fun w hS => x_move rfl) hq84_ ?_
      refine A_tk 1 (v := (vP (some ⟨(sb v61_), so v61_ + (12 + 0), none⟩))) rfl (by kernel_rfl) (fun w hS => x_idxRS (v := v61_) rfl he64_ rfl underlying26 z32 (by omega) (by omega) (by omega : _ = 2) rfl) hq84_ ?_
      refine A_tk 2 (v := (vP (some ⟨(sb v61_), so v61_ + (12 + 1), none⟩))) rfl (by kernel_rfl) (fun w hS => by kernel_rfl) hq84_ ?_
      refine A_tk 3 (v := (vB a2_.oK)) rfl (by kernel_rfl) (fun w hS => x_load1 rfl underlying4 rfl (RC.cell (RS.rc he64_) hS.2 (j := 12 + 1) (u := (vB a2_.oK)) (fm_cell BA.len ha2_ (i := 1) rfl))) hq84_ ?_
      refine A_tk 4 (v := v61_) rfl (by kernel_rfl) (fun w hS => x_move rfl) hq84_ ?_
      refine A_tk 5 (v := (vP (some ⟨(sb v61_), so v61_ + (6 + 0), none⟩))) rfl (by kernel_rfl) (fun w hS => x_idxRS (v := v61_) rfl he64_ rfl underlying26 z32 (by omega) (by omega) (by omega : _ = 1) rfl) hq84_ ?_
      refine A_tk 6 (v := (vP (some ⟨(sb v61_), so v61_ + (6 + 1), none⟩))) rfl (by kernel_rfl) (fun w hS => by kernel_rfl) hq84_ ?_
      refine A_tk 7 (v := (vB a1_.oK)) rfl (by kernel_rfl) (fun w hS => x_load1 rfl underlying4 rfl (RC.cell (RS.rc he64_) hS.2 (j := 6 + 1) (u := (vB a1_.oK)) (fm_cell BA.len ha1_ (i := 1) rfl))) hq84_ ?_
      refine A_tk 8 (v := (vB (a2_.oK == a1_.oK))) rfl (by kernel_rfl) (fun w hS => x_eqB rfl rfl underlying4) hq84_ ?_
      refine A_tk 9 (v := (vB (a2_.oK == a1_.oK))) rfl (by kernel_rfl) (fun w hS => x_move rfl) hq84_ ?_
      rcases Bool.eq_false_or_eq_true ((a2_.oK == a1_.oK)) with c88_t | c88_f
      ·skip
       refine A_tkY 10 (j := 9) (dj := 62) (b := true) (v := v61_) rfl (by kernel_rfl) rfl rfl (congrArg vB c88_t) (fun w hS => x_move rfl) hq84_ ?_
       refine A_tkY 11 (j := 9) (dj := 62) (b := true) (v := (vP (some ⟨(sb v61_), so v61_ + (12 + 0), none⟩))) rfl (by kernel_rfl) rfl rfl (congrArg vB c88_t) (fun w hS => x_idxRS (v := v61_) rfl he64_ rfl underlying26 z32 (by omega) (by omega) (by omega : _ = 2) rfl) hq84_ ?_
       refine A_tkY 12 (j := 9) (dj := 62) (b := true) (v := (vP (some ⟨(sb v61_), so v61_ + (12 + 3), none⟩))) rfl (by kernel_rfl) rfl rfl (congrArg vB c88_t) (fun w hS => by kernel_rfl) hq84_ ?_
       refine A_tkY 13 (j := 9) (dj := 62) (b := true) (v := (vA #[(vI .i64 a2_.el_Key), (vI .i64 a2_.el_Val)])) rfl (by kernel_rfl) rfl rfl (congrArg vB c88_t) (fun w hS => x_loadN (vs := [(vI .i64 a2_.el_Key), (vI .i64 a2_.el_Val)]) rfl underlying24 rfl z24 rfl (RC.cells (RS.rc he64_) hS.2 (12 + 3) (fm_cells BA.len ha2_ (i := 3) rfl))) hq84_ ?_
       refine A_tkY 14 (j := 9) (dj := 62) (b := true) (v := v61_) rfl (by kernel_rfl) rfl rfl (congrArg vB c88_t) (fun w hS => x_move rfl) hq84_ ?_
       refine A_tkY 15 (j := 9) (dj := 62) (b := true) (v := (vP (some ⟨(sb v61_), so v61_ + (6 + 0), none⟩))) rfl (by kernel_rfl) rfl rfl (congrArg vB c88_t) (fun w hS => x_idxRS (v := v61_) rfl he64_ rfl underlying26 z32 (by omega) (by omega) (by omega : _ = 1) rfl) hq84_ ?_
       refine A_tkY 16 (j := 9) (dj := 62) (b := true) (v := (vP (some ⟨(sb v61_), so v61_ + (6 + 3), none⟩))) rfl (by kernel_rfl) rfl rfl (congrArg vB c88_t) (fun w hS => by kernel_rfl) hq84_ ?_
       refine A_tkY 17 (j := 9) (dj := 62) (b := true) (v := (vA #[(vI .i64 a1_.el_Key), (vI .i64 a1_.el_Val)])) rfl (by kernel_rfl) rfl rfl (congrArg vB c88_t) (fun w hS => x_loadN (vs := [(vI .i64 a1_.el_Key), (vI .i64 a1_.el_Val)]) rfl underlying24 rfl z24 rfl (RC.cells (RS.rc he64_) hS.2 (6 + 3) (fm_cells BA.len ha1_ (i := 3) rfl))) hq84_ ?_
       refine A_tkY 18 (j := 9) (dj := 62) (b := true) (v := (vB ((decide (a2_.el_Key = a1_.el_Key)) && ((decide (a2_.el_Val = a1_.el_Val)) && (true))))) rfl (by kernel_rfl) rfl rfl (congrArg vB c88_t) (fun w hS => x_eqS rfl rfl (by kernel_rfl) (eq_struct underlying24 (by kernel_rfl) (eqf_cons rfl (run_part1 underlying3 rfl rfl) (run_part1 underlying3 rfl rfl) (eq_int underlying3) (eqf_cons rfl (run_part1 underlying3 rfl rfl) (run_part1 underlying3 rfl rfl) (eq_int underlying3) (eqf_nil))))) hq84_ ?_
       refine A_tk 19 (v := (vB ((decide (a2_.el_Key = a1_.el_Key)) && ((decide (a2_.el_Val = a1_.el_Val)) && (true))))) rfl (by kernel_rfl) (fun w hS => (x_pickT (congrArg vB c88_t) rfl)) hq84_ ?_
       refine A_tk 20 (v := (vB ((decide (a2_.el_Key = a1_.el_Key)) && ((decide (a2_.el_Val = a1_.el_Val)) && (true))))) rfl (by kernel_rfl) (fun w hS => x_move rfl) hq84_ ?_
       rcases Bool.eq_false_or_eq_true ((decide (a2_.el_Key = a1_.el_Key)) && ((decide (a2_.el_Val = a1_.el_Val)) && (true))) with c89_t | c89_f
       ·skip
        refine A_tkY 21 (j := 20) (dj := 73) (b := true) (v := v61_) rfl (by kernel_rfl) rfl rfl (congrArg vB c89_t) (fun w hS => x_move rfl) hq84_ ?_
        refine A_tkY 22 (j := 20) (dj := 73) (b := true) (v := (vP (some ⟨(sb v61_), so v61_ + (18 + 0), none⟩))) rfl (by kernel_rfl) rfl rfl (congrArg vB c89_t) (fun w hS => x_idxRS (v := v61_) rfl he64_ rfl underlying26 z32 (by omega) (by omega) (by omega : _ = 3) rfl) hq84_ ?_
        refine A_tkY 23 (j := 20) (dj := 73) (b := true) (v := (vP (some ⟨(sb v61_), so v61_ + (18 + 2), none⟩))) rfl (by kernel_rfl) rfl rfl (congrArg vB c89_t) (fun w hS => by kernel_rfl) hq84_ ?_
        refine A_tkY 24 (j := 20) (dj := 73) (b := true) (v := (vI .i64 a3_.n)) rfl (by kernel_rfl) rfl rfl (congrArg vB c89_t) (fun w hS => x_load1 rfl underlying3 rfl (RC.cell (RS.rc he64_) hS.2 (j := 18 + 2) (u := (vI .i64 a3_.n)) (fm_cell BA.len ha3_ (i := 2) rfl))) hq84_ ?_
        refine A_tkY 25 (j := 20) (dj := 73) (b := true) (v := (vI .i64 (a0_.n + 1))) rfl (by kernel_rfl) rfl rfl (congrArg vB c89_t) (fun w hS => x_move rfl) hq84_ ?_
        refine A_tkY 26 (j := 20) (dj := 73) (b := true) (v := (vB (decide (a3_.n = a0_.n + 1)))) rfl (by kernel_rfl) rfl rfl (congrArg vB c89_t) (fun w hS => x_bin rfl rfl rfl) hq84_ ?_
        refine A_tk 27 (v := (vB (decide (a3_.n = a0_.n + 1)))) rfl (by kernel_rfl) (fun w hS => (x_pickT (congrArg vB c89_t) rfl)) hq84_ ?_
        refine A_tk 28 (v := (vB (decide (a3_.n = a0_.n + 1)))) rfl (by kernel_rfl) (fun w hS => x_move rfl) hq84_ ?_
        rcases Bool.eq_false_or_eq_true (decide (a3_.n = a0_.n + 1)) with c93_t | c93_f
        ·have c93_tp : a3_.n = a0_.n + 1 := of_decide_eq_true c93_t
         refine A_tkY 29 (j := 28) (dj := 81) (b := true) (v := v61_) rfl (by kernel_rfl) rfl rfl (congrArg vB c93_t) (fun w hS => x_move rfl) hq84_ ?_
         refine A_tkY 30 (j := 28) (dj := 81) (b := true) (v := (vP (some ⟨(sb v61_), so v61_ + (24 + 0), none⟩))) rfl (by kernel_rfl) rfl rfl (congrArg vB c93_t) (fun w hS => x_idxRS (v := v61_) rfl he64_ rfl underlying26 z32 (by omega) (by omega) (by omega : _ = 4) rfl) hq84_ ?_
         refine A_tkY 31 (j := 28) (dj := 81) (b := true) (v := (vP (some ⟨(sb v61_), so v61_ + (24 + 1), none⟩))) rfl (by kernel_rfl) rfl rfl (congrArg vB c93_t) (fun w hS => by kernel_rfl) hq84_ ?_
         refine A_tkY 32 (j := 28) (dj := 81) (b := true) (v := (vB a4_.oK)) rfl (by kernel_rfl) rfl rfl (congrArg vB c93_t) (fun w hS => x_load1 rfl underlying4 rfl (RC.cell (RS.rc he64_) hS.2 (j := 24 + 1) (u := (vB a4_.oK)) (fm_cell BA.len ha4_ (i := 1) rfl))) hq84_ ?_
         refine A_tk 33 (v := (vB a4_.oK)) rfl (by kernel_rfl) (fun w hS => (x_pickT (congrArg vB c93_t) rfl)) hq84_ ?_
         refine A_tk 34 (v := (vB a4_.oK)) rfl (by kernel_rfl) (fun w hS => x_move rfl) hq84_ ?_
         rcases Bool.eq_false_or_eq_true (a4_.oK) with c97_t | c97_f
         ·skip
          refine A_tkY 35 (j := 34) (dj := 87) (b := true) (v := v61_) rfl (by kernel_rfl) rfl rfl (congrArg vB c97_t) (fun w hS => x_move rfl) hq84_ ?_
          refine A_tkY 36 (j := 34) (dj := 87) (b := true) (v := (vP (some ⟨(sb v61_), so v61_ + (24 + 0), none⟩))) rfl (by kernel_rfl) rfl rfl (congrArg vB c97_t) (fun w hS => x_idxRS (v := v61_) rfl he64_ rfl underlying26 z32 (by omega) (by omega) (by omega : _ = 4) rfl) hq84_ ?_
          refine A_tkY 37 (j := 34) (dj := 87) (b := true) (v := (vP (some ⟨(sb v61_), so v61_ + (24 + 3), none⟩))) rfl (by kernel_rfl) rfl rfl (congrArg vB c97_t) (fun w hS => by kernel_rfl) hq84_ ?_
          refine A_tkY 38 (j := 34) (dj := 87) (b := true) (v := (vA #[(vI .i64 a4_.el_Key), (vI .i64 a4_.el_Val)])) rfl (by kernel_rfl) rfl rfl (congrArg vB c97_t) (fun w hS => x_loadN (vs := [(vI .i64 a4_.el_Key), (vI .i64 a4_.el_Val)]) rfl underlying24 rfl z24 rfl (RC.cells (RS.rc he64_) hS.2 (24 + 3) (fm_cells BA.len ha4_ (i := 3) rfl))) hq84_ ?_
          refine A_tkY 39 (j := 34) (dj := 87) (b := true) (v := (vA #[(vI .i64 e.key), (vI .i64 e.val)])) rfl (by kernel_rfl) rfl rfl (congrArg vB c97_t) (fun w hS => x_loadN (vs := [(vI .i64 e.key), (vI .i64 e.val)]) rfl underlying24 rfl z24 rfl (Rd.cells hS.1 0 rfl)) hq84_ ?_
          refine A_tkY 40 (j := 34) (dj := 87) (b := true) (v := (vB ((decide (a4_.el_Key = e.key)) && ((decide (a4_.el_Val = e.val)) && (true))))) rfl (by kernel_rfl) rfl rfl (congrArg vB c97_t) (fun w hS => x_eqS rfl rfl (by kernel_rfl) (eq_struct underlying24 (by kernel_rfl) (eqf_cons rfl (run_part1 underlying3 rfl rfl) (run_part1 underlying3 rfl rfl) (eq_int underlying3) (eqf_cons rfl (run_part1 underlying3 rfl rfl) (run_part1 underlying3 rfl rfl) (eq_int underlying3) (eqf_nil))))) hq84_ ?_
          refine A_tk 41 (v := (vB ((decide (a4_.el_Key = e.key)) && ((decide (a4_.el_Val = e.val)) && (true))))) rfl (by kernel_rfl) (fun w hS => (x_pickT (congrArg vB c97_t) rfl)) hq84_ ?_
          refine A_tk 42 (v := (vB ((decide (a4_.el_Key = e.key)) && ((decide (a4_.el_Val = e.val)) && (true))))) rfl (by kernel_rfl) (fun w hS => x_move rfl) hq84_ ?_
          rcases Bool.eq_false_or_eq_true ((decide (a4_.el_Key = e.key)) && ((decide (a4_.el_Val = e.val)) && (true))) with c98_t | c98_f
          ·skip
           refine A_ready (i := 43) (rs := []) (by kernel_rfl) ?_
           refine AllR.cons ?_ AllR.nil
           refine A_opYes (ls' := #[true, true, true, true, true, true, true, true, true, true, true, true, true, true, true, true, true, true, true, true, true, true, true, true, true, true, true, true, true, true, true, true, true, true, true, true, true, true, true, true, true, true, true, true, false, false]) (j := 42) (dj := 95) (b := true) rfl (by kernel_rfl) rfl rfl (congrArg vB c98_t) (T_call (al := []) (pre := []) rfl rfl cb6 (lwLive R59_) H83_ ?_)
           rintro v99_ p103_ w100_ ⟨rfl, rfl⟩ S102_ H101_
           have S104_ := Same.trans (Same.trans S69_ (Same.drew _)) S102_
           refine ⟨⟨Holds.rd H101_ 1 rfl, (Holds.ro_at H101_ 0 rfl)⟩, ?_⟩
           have hq105_ := And.intro (Holds.rd H101_ 1 rfl) ((Holds.ro_at H101_ 0 rfl))
           refine A_tk 44 (v := (vB true)) rfl (by kernel_rfl) (fun w hS => (x_pickT (congrArg vB c98_t) rfl)) hq105_ ?_
           refine A_tk 45 (v := (vB true)) rfl (by kernel_rfl) (fun w hS => x_assign rfl) hq105_ ?_
           refine A_done (by kernel_rfl) ?_
           refine (X_then (hK82_ _ _ ?_))
           refine C_ret ?_
           refine R_any (v := (vB true)) (run_results1 rfl rfl) ?_
           have H106_ : Holds w100_ (ro R :: cl b2_ 24 [(vI .i64 e.key), (vI .i64 e.val)] :: F) := Holds.ro_less H101_ hz_R_R59_
           have H107_ := Holds.pkF H106_ [0] 1
           exact ⟨_, _, rfl, ⟨rfl, rfl⟩, S104_, H107_⟩
          ·skip
           simp [hf1_, hf2_, hf3_, hf4_, hf5_, hf6_, hf7_, c81_t] at c98_f
         ·skip
          simp [hf1_, hf2_, hf3_, hf4_, hf5_, hf6_, hf7_, c81_t] at c97_f
        ·have c93_fp : ¬ (a3_.n = a0_.n + 1) := of_decide_eq_false c93_f
         (have hq__ : a1_.oK = false := (by simpa using c81_t); rw [hq__] at hf4_; simp at hf4_; omega)
       ·skip
        simp [hf1_, hf2_, hf3_, hf4_, hf5_, hf6_, hf7_, c81_t] at c89_f
      ·skip
       simp [hf1_, hf2_, hf3_, hf4_, hf5_, hf6_, hf7_, c81_t] at c88_f
     ·skip
      refine C_skip (X_then (hK76_ _ _ ?_))
      refine C_seq (fun _ hK108_ => ?_)
      refine A_start (S := fun w => Rd b2_ [(vI .i64 e.key), (vI .i64 e.val)] w ∧ Sub R59_ (hp w)) (N := 46) foll rfl rfl ?_
      have H109_ := Holds.drew_ H66_
      have hq110_ := And.intro (Holds.rd H109_ 1 rfl) ((Holds.ro_at H109_ 0 rfl))
      refine A_tk 0 (v := v61_) rfl (by kernel_rfl) (fun w hS => x_move rfl) hq110_ ?_
      refine A_tk 1 (v := (vP (some ⟨(sb v61_), so v61_ + (12 + 0), none⟩))) rfl (by kernel_rfl) (fun w hS => x_idxRS (v := v61_) rfl he64_ rfl underlying26 z32 (by omega) (by omega) (by omega : _ = 2) rfl) hq110_ ?_
      refine A_tk 2 (v := (vP (some ⟨(sb v61_), so v61_ + (12 + 1), none⟩))) rfl (by kernel_rfl) (fun w hS => by kernel_rfl) hq110_ ?_
      refine A_tk 3 (v := (vB a2_.oK)) rfl (by kernel_rfl) (fun w hS => x_load1 rfl underlying4 rfl (RC.cell (RS.rc he64_) hS.2 (j := 12 + 1) (u := (vB a2_.oK)) (fm_cell BA.len ha2_ (i := 1) rfl))) hq110_ ?_
      refine A_tk 4 (v := v61_) rfl (by kernel_rfl) (fun w hS => x_move rfl) hq110_ ?_
      refine A_tk 5 (v := (vP (some ⟨(sb v61_), so v61_ + (6 + 0), none⟩))) rfl (by kernel_rfl) (fun w hS => x_idxRS (v := v61_) rfl he64_ rfl underlying26 z32 (by omega) (by omega) (by omega : _ = 1) rfl) hq110_ ?_
      refine A_tk 6 (v := (vP (some ⟨(sb v61_), so v61_ + (6 + 1), none⟩))) rfl (by kernel_rfl) (fun w hS => by kernel_rfl) hq110_ ?_
      refine A_tk 7 (v := (vB a1_.oK)) rfl (by kernel_rfl) (fun w hS => x_load1 rfl underlying4 rfl (RC.cell (RS.rc he64_) hS.2 (j := 6 + 1) (u := (vB a1_.oK)) (fm_cell BA.len ha1_ (i := 1) rfl))) hq110_ ?_
      refine A_tk 8 (v := (vB (a2_.oK == a1_.oK))) rfl (by kernel_rfl) (fun w hS => x_eqB rfl rfl underlying4) hq110_ ?_
      refine A_tk 9 (v := (vB (a2_.oK == a1_.oK))) rfl (by kernel_rfl) (fun w hS => x_move rfl) hq110_ ?_
      rcases Bool.eq_false_or_eq_true ((a2_.oK == a1_.oK)) with c114_t | c114_f
      ·skip
       refine A_tkY 10 (j := 9) (dj := 62) (b := true) (v := v61_) rfl (by kernel_rfl) rfl rfl (congrArg vB c114_t) (fun w hS => x_move rfl) hq110_ ?_
       refine A_tkY 11 (j := 9) (dj := 62) (b := true) (v := (vP (some ⟨(sb v61_), so v61_ + (12 + 0), none⟩))) rfl (by kernel_rfl) rfl rfl (congrArg vB c114_t) (fun w hS => x_idxRS (v := v61_) rfl he64_ rfl underlying26 z32 (by omega) (by omega) (by omega : _ = 2) rfl) hq110_ ?_
       refine A_tkY 12 (j := 9) (dj := 62) (b := true) (v := (vP (some ⟨(sb v61_), so v61_ + (12 + 3), none⟩))) rfl (by kernel_rfl) rfl rfl (congrArg vB c114_t) (fun w hS => by kernel_rfl) hq110_ ?_
       refine A_tkY 13 (j := 9) (dj := 62) (b := true) (v := (vA #[(vI .i64 a2_.el_Key), (vI .i64 a2_.el_Val)])) rfl (by kernel_rfl) rfl rfl (congrArg vB c114_t) (fun w hS => x_loadN (vs := [(vI .i64 a2_.el_Key), (vI .i64 a2_.el_Val)]) rfl underlying24 rfl z24 rfl (RC.cells (RS.rc he64_) hS.2 (12 + 3) (fm_cells BA.len ha2_ (i := 3) rfl))) hq110_ ?_
       refine A_tkY 14 (j := 9) (dj := 62) (b := true) (v := v61_) rfl (by kernel_rfl) rfl rfl (congrArg vB c114_t) (fun w hS => x_move rfl) hq110_ ?_
       refine A_tkY 15 (j := 9) (dj := 62) (b := true) (v := (vP (some ⟨(sb v61_), so v61_ + (6 + 0), none⟩))) rfl (by kernel_rfl) rfl rfl (congrArg vB c114_t) (fun w hS => x_idxRS (v := v61_) rfl he64_ rfl underlying26 z32 (by omega) (by omega) (by omega : _ = 1) rfl) hq110_ ?_
       refine A_tkY 16 (j := 9) (dj := 62) (b := true) (v := (vP (some ⟨(sb v61_), so v61_ + (6 + 3), none⟩))) rfl (by kernel_rfl) rfl rfl (congrArg vB c114_t) (fun w hS => by kernel_rfl) hq110_ ?_
       refine A_tkY 17 (j := 9) (dj := 62) (b := true) (v := (vA #[(vI .i64 a1_.el_Key), (vI .i64 a1_.el_Val)])) rfl (by kernel_rfl) rfl rfl (congrArg vB c114_t) (fun w hS => x_loadN (vs := [(vI .i64 a1_.el_Key), (vI .i64 a1_.el_Val)]) rfl underlying24 rfl z24 rfl (RC.cells (RS.rc he64_) hS.2 (6 + 3) (fm_cells BA.len ha1_ (i := 3) rfl))) hq110_ ?_
       refine A_tkY 18 (j := 9) (dj := 62) (b := true) (v := (vB ((decide (a2_.el_Key = a1_.el_Key)) && ((decide (a2_.el_Val = a1_.el_Val)) && (true))))) rfl (by kernel_rfl) rfl rfl (congrArg vB c114_t) (fun w hS => x_eqS rfl rfl (by kernel_rfl) (eq_struct underlying24 (by kernel_rfl) (eqf_cons rfl (run_part1 underlying3 rfl rfl) (run_part1 underlying3 rfl rfl) (eq_int underlying3) (eqf_cons rfl (run_part1 underlying3 rfl rfl) (run_part1 underlying3 rfl rfl) (eq_int underlying3) (eqf_nil))))) hq110_ ?_
       refine A_tk 19 (v := (vB ((decide (a2_.el_Key = a1_.el_Key)) && ((decide (a2_.el_Val = a1_.el_Val)) && (true))))) rfl (by kernel_rfl) (fun w hS => (x_pickT (congrArg vB c114_t) rfl)) hq110_ ?_
       refine A_tk 20 (v := (vB ((decide (a2_.el_Key = a1_.el_Key)) && ((decide (a2_.el_Val = a1_.el_Val)) && (true))))) rfl (by kernel_rfl) (fun w hS => x_move rfl) hq110_ ?_
       rcases Bool.eq_false_or_eq_true ((decide (a2_.el_Key = a1_.el_Key)) && ((decide (a2_.el_Val = a1_.el_Val)) && (true))) with c115_t | c115_f
       ·skip
        refine A_tkY 21 (j := 20) (dj := 73) (b := true) (v := v61_) rfl (by kernel_rfl) rfl rfl (congrArg vB c115_t) (fun w hS => x_move rfl) hq110_ ?_
        refine A_tkY 22 (j := 20) (dj := 73) (b := true) (v := (vP (some ⟨(sb v61_), so v61_ + (18 + 0), none⟩))) rfl (by kernel_rfl) rfl rfl (congrArg vB c115_t) (fun w hS => x_idxRS (v := v61_) rfl he64_ rfl underlying26 z32 (by omega) (by omega) (by omega : _ = 3) rfl) hq110_ ?_
        refine A_tkY 23 (j := 20) (dj := 73) (b := true) (v := (vP (some ⟨(sb v61_), so v61_ + (18 + 2), none⟩))) rfl (by kernel_rfl) rfl rfl (congrArg vB c115_t) (fun w hS => by kernel_rfl) hq110_ ?_
        refine A_tkY 24 (j := 20) (dj := 73) (b := true) (v := (vI .i64 a3_.n)) rfl (by kernel_rfl) rfl rfl (congrArg vB c115_t) (fun w hS => x_load1 rfl underlying3 rfl (RC.cell (RS.rc he64_) hS.2 (j := 18 + 2) (u := (vI .i64 a3_.n)) (fm_cell BA.len ha3_ (i := 2) rfl))) hq110_ ?_
        refine A_tkY 25 (j := 20) (dj := 73) (b := true) (v := (vI .i64 a0_.n)) rfl (by kernel_rfl) rfl rfl (congrArg vB c115_t) (fun w hS => x_move rfl) hq110_ ?_
        refine A_tkY 26 (j := 20) (dj := 73) (b := true) (v := (vB (decide (a3_.n = a0_.n)))) rfl (by kernel_rfl) rfl rfl (congrArg vB c115_t) (fun w hS => x_bin rfl rfl rfl) hq110_ ?_
        refine A_tk 27 (v := (vB (decide (a3_.n = a0_.n)))) rfl (by kernel_rfl) (fun w hS => (x_pickT (congrArg vB c115_t) rfl)) hq110_ ?_
        refine A_tk 28 (v := (vB (decide (a3_.n = a0_.n)))) rfl (by kernel_rfl) (fun w hS => x_move rfl) hq110_ ?_
        rcases Bool.eq_false_or_eq_true (decide (a3_.n = a0_.n)) with c119_t | c119_f
        ·have c119_tp : a3_.n = a0_.n := of_decide_eq_true c119_t
         refine A_tkY 29 (j := 28) (dj := 81) (b := true) (v := v61_) rfl (by kernel_rfl) rfl rfl (congrArg vB c119_t) (fun w hS => x_move rfl) hq110_ ?_
         refine A_tkY 30 (j := 28) (dj := 81) (b := true) (v := (vP (some ⟨(sb v61_), so v61_ + (24 + 0), none⟩))) rfl (by kernel_rfl) rfl rfl (congrArg vB c119_t) (fun w hS => x_idxRS (v := v61_) rfl he64_ rfl underlying26 z32 (by omega) (by omega) (by omega : _ = 4) rfl) hq110_ ?_
         refine A_tkY 31 (j := 28) (dj := 81) (b := true) (v := (vP (some ⟨(sb v61_), so v61_ + (24 + 1), none⟩))) rfl (by kernel_rfl) rfl rfl (congrArg vB c119_t) (fun w hS => by kernel_rfl) hq110_ ?_
         refine A_tkY 32 (j := 28) (dj := 81) (b := true) (v := (vB a4_.oK)) rfl (by kernel_rfl) rfl rfl (congrArg vB c119_t) (fun w hS => x_load1 rfl underlying4 rfl (RC.cell (RS.rc he64_) hS.2 (j := 24 + 1) (u := (vB a4_.oK)) (fm_cell BA.len ha4_ (i := 1) rfl))) hq110_ ?_
         refine A_tk 33 (v := (vB a4_.oK)) rfl (by kernel_rfl) (fun w hS => (x_pickT (congrArg vB c119_t) rfl)) hq110_ ?_
         refine A_tk 34 (v := (vB a4_.oK)) rfl (by kernel_rfl) (fun w hS => x_move rfl) hq110_ ?_
         rcases Bool.eq_false_or_eq_true (a4_.oK) with c123_t | c123_f
         ·skip
          refine A_tkY 35 (j := 34) (dj := 87) (b := true) (v := v61_) rfl (by kernel_rfl) rfl rfl (congrArg vB c123_t) (fun w hS => x_move rfl) hq110_ ?_
          refine A_tkY 36 (j := 34) (dj := 87) (b := true) (v := (vP (some ⟨(sb v61_), so v61_ + (24 + 0), none⟩))) rfl (by kernel_rfl) rfl rfl (congrArg vB c123_t) (fun w hS => x_idxRS (v := v61_) rfl he64_ rfl underlying26 z32 (by omega) (by omega) (by omega : _ = 4) rfl) hq110_ ?_
          refine A_tkY 37 (j := 34) (dj := 87) (b := true) (v := (vP (some ⟨(sb v61_), so v61_ + (24 + 3), none⟩))) rfl (by kernel_rfl) rfl rfl (congrArg vB c123_t) (fun w hS => by kernel_rfl) hq110_ ?_
          refine A_tkY 38 (j := 34) (dj := 87) (b := true) (v := (vA #[(vI .i64 a4_.el_Key), (vI .i64 a4_.el_Val)])) rfl (by kernel_rfl) rfl rfl (congrArg vB c123_t) (fun w hS => x_loadN (vs := [(vI .i64 a4_.el_Key), (vI .i64 a4_.el_Val)]) rfl underlying24 rfl z24 rfl (RC.cells (RS.rc he64_) hS.2 (24 + 3) (fm_cells BA.len ha4_ (i := 3) rfl))) hq110_ ?_
          refine A_tkY 39 (j := 34) (dj := 87) (b := true) (v := (vA #[(vI .i64 e.key), (vI .i64 e.val)])) rfl (by kernel_rfl) rfl rfl (congrArg vB c123_t) (fun w hS => x_loadN (vs := [(vI .i64 e.key), (vI .i64 e.val)]) rfl underlying24 rfl z24 rfl (Rd.cells hS.1 0 rfl)) hq110_ ?_
          refine A_tkY 40 (j := 34) (dj := 87) (b := true) (v := (vB ((decide (a4_.el_Key = e.key)) && ((decide (a4_.el_Val = e.val)) && (true))))) rfl (by kernel_rfl) rfl rfl (congrArg vB c123_t) (fun w hS => x_eqS rfl rfl (by kernel_rfl) (eq_struct underlying24 (by kernel_rfl) (eqf_cons rfl (run_part1 underlying3 rfl rfl) (run_part1 underlying3 rfl rfl) (eq_int underlying3) (eqf_cons rfl (run_part1 underlying3 rfl rfl) (run_part1 underlying3 rfl rfl) (eq_int underlying3) (eqf_nil))))) hq110_ ?_
          refine A_tk 41 (v := (vB ((decide (a4_.el_Key = e.key)) && ((decide (a4_.el_Val = e.val)) && (true))))) rfl (by kernel_rfl) (fun w hS => (x_pickT (congrArg vB c123_t) rfl)) hq110_ ?_
          refine A_tk 42 (v := (vB ((decide (a4_.el_Key = e.key)) && ((decide (a4_.el_Val = e.val)) && (true))))) rfl (by kernel_rfl) (fun w hS => x_move rfl) hq110_ ?_
          rcases Bool.eq_false_or_eq_true ((decide (a4_.el_Key = e.key)) && ((decide (a4_.el_Val = e.val)) && (true))) with c124_t | c124_f
          ·skip
           refine A_ready (i := 43) (rs := []) (by kernel_rfl) ?_
           refine AllR.cons ?_ AllR.nil
           refine A_opYes (ls' := #[true, true, true, true, true, true, true, true, true, true, true, true, true, true, true, true, true, true, true, true, true, true, true, true, true, true, true, true, true, true, true, true, true, true, true, true, true, true, true, true, true, true, true, true, false, false]) (j := 42) (dj := 95) (b := true) rfl (by kernel_rfl) rfl rfl (congrArg vB c124_t) (T_call (al := []) (pre := []) rfl rfl cb6 (lwLive R59_) H109_ ?_)
           rintro v125_ p129_ w126_ ⟨rfl, rfl⟩ S128_ H127_
           have S130_ := Same.trans (Same.trans S69_ (Same.drew _)) S128_
           refine ⟨⟨Holds.rd H127_ 1 rfl, (Holds.ro_at H127_ 0 rfl)⟩, ?_⟩
           have hq131_ := And.intro (Holds.rd H127_ 1 rfl) ((Holds.ro_at H127_ 0 rfl))
           refine A_tk 44 (v := (vB true)) rfl (by kernel_rfl) (fun w hS => (x_pickT (congrArg vB c124_t) rfl)) hq131_ ?_
           refine A_tk 45 (v := (vB true)) rfl (by kernel_rfl) (fun w hS => x_assign rfl) hq131_ ?_
           refine A_done (by kernel_rfl) ?_
           refine (X_then (hK108_ _ _ ?_))
           refine C_ret ?_
           refine R_any (v := (vB true)) (run_results1 rfl rfl) ?_
           have H132_ : Holds w126_ (ro R :: cl b2_ 24 [(vI .i64 e.key), (vI .i64 e.val)] :: F) := Holds.ro_less H127_ hz_R_R59_
           have H133_ := Holds.pkF H132_ [0] 1
           exact ⟨_, _, rfl, ⟨rfl, rfl⟩, S130_, H133_⟩
          ·skip
           simp [hf1_, hf2_, hf3_, hf4_, hf5_, hf6_, hf7_, c81_f] at c124_f
         ·skip
          simp [hf1_, hf2_, hf3_, hf4_, hf5_, hf6_, hf7_, c81_f] at c123_f
        ·have c119_fp : ¬ (a3_.n = a0_.n) := of_decide_eq_false c119_f
         (have hq__ : a1_.oK = true := (by simpa using c81_f); rw [hq__] at hf4_; simp at hf4_; omega)
       ·skip
        simp [hf1_, hf2_, hf3_, hf4_, hf5_, hf6_, hf7_, c81_f] at c115_f
      ·skip
       simp [hf1_, hf2_, hf3_, hf4_, hf5_, hf6_, hf7_, c81_f] at c114_f
end Go.Proofs.Ytdfjdmmmlidamaa
