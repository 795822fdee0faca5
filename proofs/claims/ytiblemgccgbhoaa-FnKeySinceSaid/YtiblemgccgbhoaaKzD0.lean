/- Changes since a number, by the package. -/
import Derived.Test.YtiblemgccgbhoaaKyV0
set_option linter.unusedVariables false
set_option linter.unusedSimpArgs false
namespace Go.Proofs.Ytiblemgccgbhoaa
open Go Go.RowKit Gw

/-- The life with which to begin: the last one that began ahead of a number (of those up to n). -/
def sStartN (G : List GM) (at_ : Int) : Nat → Nat
  | 0 => 0
  | g + 1 => match G[g + 1]? with
    | none => sStartN G at_ g
    | some x => if x.l.length = 0 then sStartN G at_ g else if vLessB x.cm x.cs at_ 0 then g + 1 else sStartN G at_ g
def sStep (at_ : Int) (s : List RV × Int) (r : RV) : List RV × Int :=
  if vLessB r.main r.sub at_ 0 then s else if r.main = s.2 then (s.1.dropLast ++ [r], s.2) else (s.1 ++ [r], r.main)
def iSinceF (N : List GN) (at_ : Int) : List RV × Int := ((N.drop (sStartN (N.map GN.m) at_ (N.length - 1))).flatMap GN.l).foldl (sStep at_) ([], 0)
/-- Of each main number from a number on the last change. -/
def iSince (G : List GM) (at_ : Int) : List RV := (((G.drop (sStartN G at_ (G.length - 1))).flatMap GM.l).foldl (sStep at_) ([], 0)).1
theorem iSince_N (N : List GN) (at_ : Int) : iSince (N.map GN.m) at_ = (iSinceF N at_).1 := by
  unfold iSince iSinceF
  rw [List.length_map, ← List.map_drop, List.flatMap_map]; rfl
section
variable {N : List GN} {at_ : Int} {c : Nat} {x : GN}
theorem sStart_skip (h : N[c]? = some x) (hc : 0 < c) (he : (x.l.length : Int) = 0) : sStartN (N.map GN.m) at_ c = sStartN (N.map GN.m) at_ (c - 1) := by
  obtain ⟨g, rfl⟩ : ∃ g, c = g + 1 := ⟨c - 1, by omega⟩
  rw [sStartN, List.getElem?_map, h]
  simp only [Option.map_some, show x.m.l.length = 0 from by show x.l.length = 0; omega, if_true, Nat.add_sub_cancel]
theorem sStart_yes (h : N[c]? = some x) (hc : 0 < c) (he : ¬ (x.l.length : Int) = 0) (hv : vLessB x.created_Main x.created_Sub at_ 0 = true) : sStartN (N.map GN.m) at_ c = c := by
  obtain ⟨g, rfl⟩ : ∃ g, c = g + 1 := ⟨c - 1, by omega⟩
  rw [sStartN, List.getElem?_map, h]
  simp only [Option.map_some, if_neg (show ¬ x.m.l.length = 0 from fun e => he (by rw [show x.m.l = x.l from rfl] at e; omega))]
  rw [if_pos (show vLessB x.m.cm x.m.cs at_ 0 = true from hv)]
theorem sStart_no (h : N[c]? = some x) (hc : 0 < c) (he : ¬ (x.l.length : Int) = 0) (hv : vLessB x.created_Main x.created_Sub at_ 0 = false) : sStartN (N.map GN.m) at_ c = sStartN (N.map GN.m) at_ (c - 1) := by
  obtain ⟨g, rfl⟩ : ∃ g, c = g + 1 := ⟨c - 1, by omega⟩
  rw [sStartN, List.getElem?_map, h]
  simp only [Option.map_some, if_neg (show ¬ x.m.l.length = 0 from fun e => he (by rw [show x.m.l = x.l from rfl] at e; omega)), Nat.add_sub_cancel]
  rw [if_neg (by rw [show vLessB x.m.cm x.m.cs at_ 0 = false from hv]; decide)]
theorem rset_last {L : List RV} {y : RV} {k : Nat} (h : 0 < L.length) (hk : k = (((L.length : Int) - 1).toNat) * 2 + 0) : List.take k (L.flatMap RV.cells) ++ y.cells ++ List.drop (k + y.cells.length) (L.flatMap RV.cells) = (L.dropLast ++ [y]).flatMap RV.cells := by
  have hne : L ≠ [] := fun e => by rw [e] at h; exact absurd h (by decide)
  have e : L.dropLast ++ [L.getLast hne] = L := List.dropLast_concat_getLast hne
  have hl : (L.dropLast.flatMap RV.cells).length = (L.length - 1) * 2 := by rw [fm_len RV.len, List.length_dropLast]
  have hk2 : k = (L.length - 1) * 2 := by omega
  have hf : L.flatMap RV.cells = L.dropLast.flatMap RV.cells ++ (L.getLast hne).cells := by
    conv => lhs; rw [← e, List.flatMap_append, List.flatMap_singleton]
  rw [hf, List.take_append_of_le_length (by omega), List.take_of_length_le (by omega), List.drop_eq_nil_of_le (by rw [List.length_append, hl, RV.len, RV.len]; omega), List.append_nil, List.flatMap_append, List.flatMap_singleton]
end


set_option maxHeartbeats 4000000 in
theorem kSinceR (R : HP) (kb : Nat) (ka : Option Addr) (kl kc : Nat) (m n : Int) (gv : Value) (N : List GN) (at_ : Int) (h1 : RS R 4 gv (List.length N) (N.flatMap GN.cells)) (hg1 : ∀ x ∈ N, GOk R x) (hb1 : N.length ≤ 100000) (hb2 : ∀ x ∈ N, x.l.length ≤ 100000) (hne : ∀ x, N = [x] → ¬ x.l.length = 0) (hn0 : 0 < N.length) (hpos : ∀ x ∈ N, ∀ r ∈ x.l, 1 ≤ r.main) :
    Tri Try.prog 59 #[(Value.pointer (some ⟨kb, 0, none⟩)), (Value.pointer none), (Value.int .i64 at_)] R [cl kb 104 [(Value.slice ka kl kc), (Value.int .i64 m), (Value.int .i64 n), gv]] (fun v__ post__ => ∃ (v' : Value), v__ = v' ∧ post__ = [sl 58 2 v' (List.length (iSince (N.map GN.m) at_)) ((iSince (N.map GN.m) at_).flatMap RV.cells), cl kb 104 [(Value.slice ka kl kc), (Value.int .i64 m), (Value.int .i64 n), gv]]) := by
 refine Tri.into (n := 84) (al := [(Value.pointer (some ⟨kb, 0, none⟩)), (Value.pointer none), (Value.int .i64 at_)]) Try.func59 rfl Try.ntmps59 rfl rfl fun w F H => ?_
 refine C_seq (fun K1_ hK1_ => ?_)
 refine C_reg ?_
 refine S_list (T_val (v := (Value.slice none 0 0)) (x_assign rfl) ?_)
 refine wpList_nil ?_
 refine (X_then (hK1_ _ _ ?_))
 clear hK1_
 refine C_seq (fun K2_ hK2_ => ?_)
 refine C_seq (fun K3_ hK3_ => ?_)
 refine C_reg ?_
 refine S_list (T_val (v := (Value.pointer (some ⟨kb, 0, none⟩))) (x_move rfl) ?_)
 refine S_list (T_callW (al := [(Value.pointer (some ⟨kb, 0, none⟩))]) rfl rfl cb64 (Calls.into (n := 17) (al := [(Value.pointer (some ⟨kb, 0, none⟩))]) Try.func64 rfl Try.ntmps64 rfl rfl ?_))
 refine C_seq (fun K4_ hK4_ => ?_)
 refine C_reg ?_
 refine S_list (T_val (v := (Value.bool false)) (x_assign rfl) ?_)
 refine wpList_nil ?_
 refine (X_then (hK4_ _ _ ?_))
 clear hK4_
 refine C_seq (fun K5_ hK5_ => ?_)
 refine C_reg ?_
 refine S_list (T_val (v := (Value.pointer (some ⟨kb, 0, none⟩))) (x_move rfl) ?_)
 refine S_list (T_val (v := (Value.pointer (some ⟨kb, 0, none⟩))) (by kernel_rfl) ?_)
 refine S_list (T_val (v := (Value.pointer (some ⟨kb, 3, none⟩))) (by kernel_rfl) ?_)
 refine S_list (T_val (v := gv) (x_load1 rfl Try.underlying102 rfl ((Holds.rd H 1 rfl) 3 gv rfl)) ?_)
 refine S_list (T_val (v := (Value.int .i64 ((List.length N) : Int))) (x_lenRS rfl h1 Try.underlying102) ?_)
 refine S_list (T_val (v := (Value.bool (decide (((List.length N) : Int) = 1)))) (x_bin rfl rfl rfl) ?_)
 refine S_list (T_val (v := (Value.bool (decide (((List.length N) : Int) = 1)))) (x_move rfl) ?_)
 rcases Bool.eq_false_or_eq_true (decide (((List.length N) : Int) = 1)) with c6_t | c6_f
 ·have c6_tp : ((List.length N) : Int) = 1 := of_decide_eq_true c6_t
  refine S_yes (j := 6) (dj := 9) (b := true) rfl rfl (congrArg Value.bool c6_t) (T_val (v := (Value.pointer (some ⟨kb, 0, none⟩))) (x_move rfl) ?_)
  refine S_yes (j := 6) (dj := 9) (b := true) rfl rfl (congrArg Value.bool c6_t) (T_val (v := (Value.pointer (some ⟨kb, 0, none⟩))) (by kernel_rfl) ?_)
  refine S_yes (j := 6) (dj := 9) (b := true) rfl rfl (congrArg Value.bool c6_t) (T_val (v := (Value.pointer (some ⟨kb, 3, none⟩))) (by kernel_rfl) ?_)
  refine S_yes (j := 6) (dj := 9) (b := true) rfl rfl (congrArg Value.bool c6_t) (T_val (v := gv) (x_load1 rfl Try.underlying102 rfl ((Holds.rd H 1 rfl) 3 gv rfl)) ?_)
  obtain ⟨x7_, hx8_, hm9_⟩ := elem_at N 0 (by omega)
  have hp10_ := hg1 x7_ hm9_
  have hp11_ := hb2 x7_ hm9_
  have hp12_ := hpos x7_ hm9_
  have hg13_ := hg1 x7_ hm9_
  have hps_ := hpos x7_ hm9_
  refine S_yes (j := 6) (dj := 9) (b := true) rfl rfl (congrArg Value.bool c6_t) (T_val (v := (Value.pointer (some ⟨(sb gv), so gv + (0 + 0), none⟩))) (x_idxRS (v := gv) rfl h1 rfl Try.underlying102 z106 (by omega) (by omega) (by omega : _ = 0) rfl) ?_)
  refine S_yes (j := 6) (dj := 9) (b := true) rfl rfl (congrArg Value.bool c6_t) (T_callW (al := [(Value.pointer (some ⟨(sb gv), so gv + (0 + 0), none⟩))]) rfl rfl cb69 (Calls.into (n := 13) (al := [(Value.pointer (some ⟨(sb gv), so gv + (0 + 0), none⟩))]) Try.func69 rfl Try.ntmps69 rfl rfl ?_))
  refine C_seq (fun K14_ hK14_ => ?_)
  refine C_reg ?_
  refine S_list (T_val (v := (Value.bool false)) (x_assign rfl) ?_)
  refine wpList_nil ?_
  refine (X_then (hK14_ _ _ ?_))
  clear hK14_
  refine C_seq (fun K15_ hK15_ => ?_)
  refine C_reg ?_
  refine S_list (T_val (v := (Value.pointer (some ⟨(sb gv), so gv + (0 + 0), none⟩))) (x_move rfl) ?_)
  refine S_list (T_val (v := (Value.bool false)) (by kernel_rfl) ?_)
  refine S_list (T_val (v := (Value.bool false)) (x_move rfl) ?_)
  refine S_yes (j := 2) (dj := 5) (b := false) rfl rfl rfl (T_val (v := (Value.pointer (some ⟨(sb gv), so gv + (0 + 0), none⟩))) (x_move rfl) ?_)
  refine S_yes (j := 2) (dj := 5) (b := false) rfl rfl rfl (T_val (v := (Value.pointer (some ⟨(sb gv), so gv + (0 + 0), none⟩))) (by kernel_rfl) ?_)
  refine S_yes (j := 2) (dj := 5) (b := false) rfl rfl rfl (T_val (v := (Value.pointer (some ⟨(sb gv), so gv + (0 + 3), none⟩))) (by kernel_rfl) ?_)
  refine S_yes (j := 2) (dj := 5) (b := false) rfl rfl rfl (T_val (v := x7_.revs) (x_load1 rfl Try.underlying80 rfl (RC.cell (RS.rc h1) (Holds.ro_at H 0 rfl) (j := 0 + 3) (u := x7_.revs) (fm_cell GN.len hx8_ (i := 3) rfl))) ?_)
  refine S_yes (j := 2) (dj := 5) (b := false) rfl rfl rfl (T_val (v := (Value.int .i64 ((List.length x7_.l) : Int))) (x_lenRS rfl hg13_ Try.underlying80) ?_)
  refine S_yes (j := 2) (dj := 5) (b := false) rfl rfl rfl (T_val (v := (Value.bool (decide (((List.length x7_.l) : Int) = 0)))) (x_bin rfl rfl rfl) ?_)
  refine S_list (T_pickF (v := (Value.bool (decide (((List.length x7_.l) : Int) = 0)))) rfl rfl ?_)
  refine S_list (T_val (v := (Value.bool (decide (((List.length x7_.l) : Int) = 0)))) (x_assign rfl) ?_)
  refine wpList_nil ?_
  refine (X_then (hK15_ _ _ ?_))
  clear hK15_
  refine C_ret ?_
  refine R_any (v := (Value.bool (decide (((List.length x7_.l) : Int) = 0)))) (run_results1 rfl rfl) ⟨_, rfl, ?_⟩
  refine S_list (T_pickT (v := (Value.bool (decide (((List.length x7_.l) : Int) = 0)))) (congrArg Value.bool c6_t) rfl ?_)
  refine S_list (T_val (v := (Value.bool (decide (((List.length x7_.l) : Int) = 0)))) (x_assign rfl) ?_)
  refine wpList_nil ?_
  refine (X_then (hK5_ _ _ ?_))
  clear hK5_
  refine C_ret ?_
  refine R_any (v := (Value.bool (decide (((List.length x7_.l) : Int) = 0)))) (run_results1 rfl rfl) ⟨_, rfl, ?_⟩
  refine wpList_nil ?_
  refine (X_then (hK3_ _ _ ?_))
  clear hK3_
  refine C_cond (b := decide (((List.length x7_.l) : Int) = 0)) rfl (fun c16_t => ?_) (fun c16_f => ?_)
  ·have c16_tp : ((List.length x7_.l) : Int) = 0 := of_decide_eq_true c16_t
   exact absurd (show x7_.l.length = 0 by omega) (hne _ (one_of c6_tp hx8_))
  ·have c16_fp : ¬ (((List.length x7_.l) : Int) = 0) := of_decide_eq_false c16_f
   refine C_skip (X_then (hK2_ _ _ ?_))
   clear hK2_
   refine C_seq (fun K17_ hK17_ => ?_)
   refine C_reg ?_
   refine S_list (T_val (v := (Value.int .i64 at_)) (x_move rfl) ?_)
   refine S_list (T_val (v := (Value.agg #[(Value.int .i64 at_), (Value.int .i64 0)])) (by kernel_rfl) ?_)
   refine S_list (T_alloc z58 H ?_)
   intro b18_ w19_ S21_ H20_
   have S22_ := Same.trans (Same.refl w) S21_
   refine S_list0 (T_storeN (vs := [(Value.int .i64 at_), (Value.int .i64 0)]) rfl rfl z58 rfl (by simp [Value.oneCell']) H20_ 0 rfl (Nat.le_of_ble_eq_true (by rfl)) ?_)
   intro w23_ S25_ H24_
   replace H24_ : Holds w23_ (cl b18_ 58 [(Value.int .i64 at_), (Value.int .i64 0)] :: ro R :: cl kb 104 [(Value.slice ka kl kc), (Value.int .i64 m), (Value.int .i64 n), gv] :: F) := H24_
   have S26_ := Same.trans S22_ S25_
   refine wpList_nil ?_
   refine (X_then (hK17_ _ _ ?_))
   clear hK17_
   refine C_seq (fun K27_ hK27_ => ?_)
   refine C_reg ?_
   refine S_list (T_val (v := (Value.int .i64 0)) (x_assign rfl) ?_)
   refine wpList_nil ?_
   refine (X_then (hK27_ _ _ ?_))
   clear hK27_
   refine C_cut (fun a__ w1__ => ∃ c0 : Nat, ∃ h : Env, a__ = mkA 84 (upd (upd (upd (upd h 0 (Value.pointer (some ⟨kb, 0, none⟩))) 6 (Value.slice none 0 0)) 7 (Value.pointer (some ⟨b18_, 0, none⟩))) 8 (Value.int .i64 (c0 : Int))) [] ∧ Holds w1__ (cl b18_ 58 [(Value.int .i64 at_), (Value.int .i64 0)] :: ro R :: cl kb 104 [(Value.slice ka kl kc), (Value.int .i64 m), (Value.int .i64 n), gv] :: F) ∧ Same w w1__ ∧ (sStartN (N.map GN.m) at_ (N.length - 1) = c0) ∧ (c0 < N.length)) ?_ ?_
   ·refine C_seq (fun K31_ hK31_ => ?_)
    refine C_reg ?_
    refine S_list (T_val (v := (Value.pointer (some ⟨kb, 0, none⟩))) (x_move rfl) ?_)
    refine S_list (T_val (v := (Value.pointer (some ⟨kb, 0, none⟩))) (by kernel_rfl) ?_)
    refine S_list (T_val (v := (Value.pointer (some ⟨kb, 3, none⟩))) (by kernel_rfl) ?_)
    refine S_list (T_val (v := gv) (x_load1 rfl Try.underlying102 rfl ((Holds.rd H24_ 2 rfl) 3 gv rfl)) ?_)
    refine S_list (T_val (v := (Value.int .i64 ((List.length N) : Int))) (x_lenRS rfl h1 Try.underlying102) ?_)
    refine S_list (T_val (v := (Value.int .i64 (((List.length N) : Int) - 1))) (x_bin rfl rfl (ib_sub (IntWalk.i64_in _ (by omega)))) ?_)
    refine S_list (T_val (v := (Value.int .i64 (((List.length N) : Int) - 1))) (x_assign rfl) ?_)
    refine wpList_nil ?_
    refine (X_then (hK31_ _ _ ?_))
    clear hK31_
    refine C_block ?_
    refine C_loop (γ := Nat) (fun c a__ w1__ => ∃ h : Env, a__ = mkA 84 (upd (upd (upd (upd h 0 (Value.pointer (some ⟨kb, 0, none⟩))) 6 (Value.slice none 0 0)) 7 (Value.pointer (some ⟨b18_, 0, none⟩))) 8 (Value.int .i64 (c : Int))) [] ∧ Holds w1__ (cl b18_ 58 [(Value.int .i64 at_), (Value.int .i64 0)] :: ro R :: cl kb 104 [(Value.slice ka kl kc), (Value.int .i64 m), (Value.int .i64 n), gv] :: F) ∧ Same w w1__ ∧ (c < N.length) ∧ (sStartN (N.map GN.m) at_ (N.length - 1) = sStartN (N.map GN.m) at_ c)) (fun c => c) ((N.length - 1)) ⟨_, congrArg (fun e => mkA 84 e []) (ch (ch (ch (ch rfl rfl) rfl) rfl) (congrArg (Value.int .i64) ((by first | rfl | omega | (simp; done) | (simp; omega)) : ((List.length N) : Int) - 1 = ((N.length - 1 : Nat) : Int)))), H24_, S26_, (by omega), (rfl)⟩ ?_
    rintro c _ w32_ ⟨h, rfl, H33_, S34_, hc, hin⟩
    refine C_seq (fun K35_ hK35_ => ?_)
    refine C_seq (fun K36_ hK36_ => ?_)
    refine C_reg ?_
    refine S_list (T_val (v := (Value.int .i64 (c : Int))) (x_move rfl) ?_)
    refine S_list (T_val (v := (Value.bool (decide (0 < (c : Int))))) (x_bin rfl rfl rfl) ?_)
    refine wpList_nil ?_
    refine (X_then (hK36_ _ _ ?_))
    clear hK36_
    refine C_cond (b := decide (0 < (c : Int))) rfl (fun c37_t => ?_) (fun c37_f => ?_)
    ·have c37_tp : 0 < (c : Int) := of_decide_eq_true c37_t
     refine C_skip (X_then (hK35_ _ _ ?_))
     clear hK35_
     refine C_seq (fun K38_ hK38_ => ?_)
     refine C_block ?_
     refine C_seq (fun K39_ hK39_ => ?_)
     refine C_reg ?_
     refine S_list (T_val (v := (Value.pointer (some ⟨kb, 0, none⟩))) (x_move rfl) ?_)
     refine S_list (T_val (v := (Value.pointer (some ⟨kb, 0, none⟩))) (by kernel_rfl) ?_)
     refine S_list (T_val (v := (Value.pointer (some ⟨kb, 3, none⟩))) (by kernel_rfl) ?_)
     refine S_list (T_val (v := gv) (x_load1 rfl Try.underlying102 rfl ((Holds.rd H33_ 2 rfl) 3 gv rfl)) ?_)
     refine S_list (T_val (v := (Value.int .i64 (c : Int))) (x_move rfl) ?_)
     obtain ⟨x40_, hx41_, hm42_⟩ := elem_at N c (by omega)
     have hp43_ := hg1 x40_ hm42_
     have hp44_ := hb2 x40_ hm42_
     have hp45_ := hpos x40_ hm42_
     have hg46_ := hg1 x40_ hm42_
     have hps_ := hpos x40_ hm42_
     refine S_list (T_val (v := (Value.pointer (some ⟨(sb gv), so gv + (c * 4 + 0), none⟩))) (x_idxRS (v := gv) rfl h1 rfl Try.underlying102 z106 (by omega) (by omega) (by omega : _ = c) rfl) ?_)
     refine S_list (T_val (v := (Value.agg #[(Value.int .i64 x40_.ver), (Value.int .i64 x40_.created_Main), (Value.int .i64 x40_.created_Sub), x40_.revs])) (x_loadN (vs := [(Value.int .i64 x40_.ver), (Value.int .i64 x40_.created_Main), (Value.int .i64 x40_.created_Sub), x40_.revs]) rfl Try.underlying106 rfl z106 rfl (RC.cells (RS.rc h1) (Holds.ro_at H33_ 1 rfl) (c * 4 + 0) (fm_cells GN.len hx41_ (i := 0) rfl))) ?_)
     refine S_list (T_alloc z106 H33_ ?_)
     intro b47_ w48_ S50_ H49_
     have S51_ := Same.trans S34_ S50_
     refine S_list0 (T_storeN (vs := [(Value.int .i64 x40_.ver), (Value.int .i64 x40_.created_Main), (Value.int .i64 x40_.created_Sub), x40_.revs]) rfl rfl z106 rfl (List.forall_mem_cons.2 ⟨rfl, (List.forall_mem_cons.2 ⟨rfl, (List.forall_mem_cons.2 ⟨rfl, (List.forall_mem_cons.2 ⟨(RS.one hg46_), (fun _ h__ => by cases h__)⟩)⟩)⟩)⟩) H49_ 0 rfl (Nat.le_of_ble_eq_true (by rfl)) ?_)
     intro w52_ S54_ H53_
     have S55_ := Same.trans S51_ S54_
     refine wpList_nil ?_
     refine (X_then (hK39_ _ _ ?_))
     clear hK39_
     refine C_seq (fun K56_ hK56_ => ?_)
     refine C_seq (fun K57_ hK57_ => ?_)
     refine C_reg ?_
     refine S_list (T_callW (al := [(Value.pointer (some ⟨b47_, 0, none⟩))]) rfl rfl cb69 (Calls.into (n := 13) (al := [(Value.pointer (some ⟨b47_, 0, none⟩))]) Try.func69 rfl Try.ntmps69 rfl rfl ?_))
     refine C_seq (fun K58_ hK58_ => ?_)
     refine C_reg ?_
     refine S_list (T_val (v := (Value.bool false)) (x_assign rfl) ?_)
     refine wpList_nil ?_
     refine (X_then (hK58_ _ _ ?_))
     clear hK58_
     refine C_seq (fun K59_ hK59_ => ?_)
     refine C_reg ?_
     refine S_list (T_val (v := (Value.pointer (some ⟨b47_, 0, none⟩))) (x_move rfl) ?_)
     refine S_list (T_val (v := (Value.bool false)) (by kernel_rfl) ?_)
     refine S_list (T_val (v := (Value.bool false)) (x_move rfl) ?_)
     refine S_yes (j := 2) (dj := 5) (b := false) rfl rfl rfl (T_val (v := (Value.pointer (some ⟨b47_, 0, none⟩))) (x_move rfl) ?_)
     refine S_yes (j := 2) (dj := 5) (b := false) rfl rfl rfl (T_val (v := (Value.pointer (some ⟨b47_, 0, none⟩))) (by kernel_rfl) ?_)
     refine S_yes (j := 2) (dj := 5) (b := false) rfl rfl rfl (T_val (v := (Value.pointer (some ⟨b47_, 3, none⟩))) (by kernel_rfl) ?_)
     refine S_yes (j := 2) (dj := 5) (b := false) rfl rfl rfl (T_val (v := x40_.revs) (x_load1 rfl Try.underlying80 rfl ((Holds.rd H53_ 0 rfl) 3 x40_.revs rfl)) ?_)
     refine S_yes (j := 2) (dj := 5) (b := false) rfl rfl rfl (T_val (v := (Value.int .i64 ((List.length x40_.l) : Int))) (x_lenRS rfl hg46_ Try.underlying80) ?_)
     refine S_yes (j := 2) (dj := 5) (b := false) rfl rfl rfl (T_val (v := (Value.bool (decide (((List.length x40_.l) : Int) = 0)))) (x_bin rfl rfl rfl) ?_)
     refine S_list (T_pickF (v := (Value.bool (decide (((List.length x40_.l) : Int) = 0)))) rfl rfl ?_)
     refine S_list (T_val (v := (Value.bool (decide (((List.length x40_.l) : Int) = 0)))) (x_assign rfl) ?_)
     refine wpList_nil ?_
     refine (X_then (hK59_ _ _ ?_))
     clear hK59_
     refine C_ret ?_
     refine R_any (v := (Value.bool (decide (((List.length x40_.l) : Int) = 0)))) (run_results1 rfl rfl) ⟨_, rfl, ?_⟩
     refine wpList_nil ?_
     refine (X_then (hK57_ _ _ ?_))
     clear hK57_
     refine C_cond (b := decide (((List.length x40_.l) : Int) = 0)) rfl (fun c60_t => ?_) (fun c60_f => ?_)
     ·have c60_tp : ((List.length x40_.l) : Int) = 0 := of_decide_eq_true c60_t
      refine C_exit (X_thenX (X_blkHit ?_))
      refine (X_then (hK38_ _ _ ?_))
      clear hK38_
      refine C_reg ?_
      refine S_list (T_val (v := (Value.int .i64 (c : Int))) (x_move rfl) ?_)
      refine S_list (T_val (v := (Value.int .i64 ((c : Int) - 1))) (x_bin rfl rfl (ib_sub (IntWalk.i64_in _ (by omega)))) ?_)
      refine S_list (T_val (v := (Value.int .i64 ((c : Int) - 1))) (x_assign rfl) ?_)
      refine wpList_nil ?_
      refine (X_then ?_)
      have H61_ : Holds w52_ (cl b18_ 58 [(Value.int .i64 at_), (Value.int .i64 0)] :: ro R :: cl kb 104 [(Value.slice ka kl kc), (Value.int .i64 m), (Value.int .i64 n), gv] :: F) := (Holds.pkF H53_ [1, 1, 1] 1 :)
      exact ⟨(c - 1), ⟨_, congrArg (fun e => mkA 84 e []) (ch (ch (ch (ch rfl rfl) rfl) rfl) (congrArg (Value.int .i64) ((by first | rfl | omega | (simp; done) | (simp; omega)) : (c : Int) - 1 = ((c - 1 : Nat) : Int)))), H61_, S55_, (by first | assumption | omega | exact rfl), (by rw [hin, sStart_skip hx41_ (by omega) c60_tp])⟩, by first | omega | (dsimp only; omega) | (simp; omega)⟩
     ·have c60_fp : ¬ (((List.length x40_.l) : Int) = 0) := of_decide_eq_false c60_f
      refine C_skip (X_then (hK56_ _ _ ?_))
      clear hK56_
      refine C_seq (fun K62_ hK62_ => ?_)
      refine C_reg ?_
      refine S_list (T_val (v := (Value.agg #[(Value.int .i64 at_), (Value.int .i64 0)])) (x_loadN (vs := [(Value.int .i64 at_), (Value.int .i64 0)]) rfl Try.underlying58 rfl z58 rfl (Rd.cells (Holds.rd H53_ 1 rfl) 0 rfl)) ?_)
      refine S_list (T_val (v := (Value.pointer (some ⟨b47_, 1, none⟩))) (by kernel_rfl) ?_)
      refine S_list (T_val (v := (Value.agg #[(Value.int .i64 x40_.created_Main), (Value.int .i64 x40_.created_Sub)])) (x_loadN (vs := [(Value.int .i64 x40_.created_Main), (Value.int .i64 x40_.created_Sub)]) rfl Try.underlying58 rfl z58 rfl (Rd.cells (Holds.rd H53_ 0 rfl) 1 rfl)) ?_)
      have H64_ := ((Holds.bring H53_ 2 rfl) :)
      refine S_list (T_call (al := [(Value.agg #[(Value.int .i64 at_), (Value.int .i64 0)]), (Value.agg #[(Value.int .i64 x40_.created_Main), (Value.int .i64 x40_.created_Sub)])]) (pre := []) rfl rfl cb68 (kGreater R at_ 0 x40_.created_Main x40_.created_Sub) H64_ ?_)
      rintro v63_ p68_ w65_ ⟨rfl, rfl⟩ S67_ H66_
      have S69_ := Same.trans S55_ S67_
      refine wpList_nil ?_
      refine (X_then (hK62_ _ _ ?_))
      clear hK62_
      refine C_cond (b := vLessB x40_.created_Main x40_.created_Sub at_ 0) rfl (fun c70_t => ?_) (fun c70_f => ?_)
      ·skip
       refine C_exit (X_blkMiss rfl (X_thenX (X_thenX (X_blkHit ?_))))
       refine (X_then ?_)
       have H71_ : Holds w65_ (cl b18_ 58 [(Value.int .i64 at_), (Value.int .i64 0)] :: ro R :: cl kb 104 [(Value.slice ka kl kc), (Value.int .i64 m), (Value.int .i64 n), gv] :: F) := (Holds.pkF H66_ [2, 0, 1] 1 :)
       exact ⟨c, _, congrArg (fun e => mkA 84 e []) (ch (ch (ch (ch rfl rfl) rfl) rfl) rfl), H71_, S69_, (by rw [hin]; exact sStart_yes hx41_ (by omega) c60_fp (by simpa using c70_t)), (by omega)⟩
      ·skip
       refine C_skip (X_blkN (X_then (hK38_ _ _ ?_)))
       clear hK38_
       refine C_reg ?_
       refine S_list (T_val (v := (Value.int .i64 (c : Int))) (x_move rfl) ?_)
       refine S_list (T_val (v := (Value.int .i64 ((c : Int) - 1))) (x_bin rfl rfl (ib_sub (IntWalk.i64_in _ (by omega)))) ?_)
       refine S_list (T_val (v := (Value.int .i64 ((c : Int) - 1))) (x_assign rfl) ?_)
       refine wpList_nil ?_
       refine (X_then ?_)
       have H72_ : Holds w65_ (cl b18_ 58 [(Value.int .i64 at_), (Value.int .i64 0)] :: ro R :: cl kb 104 [(Value.slice ka kl kc), (Value.int .i64 m), (Value.int .i64 n), gv] :: F) := (Holds.pkF H66_ [2, 0, 1] 1 :)
       exact ⟨(c - 1), ⟨_, congrArg (fun e => mkA 84 e []) (ch (ch (ch (ch rfl rfl) rfl) rfl) (congrArg (Value.int .i64) ((by first | rfl | omega | (simp; done) | (simp; omega)) : (c : Int) - 1 = ((c - 1 : Nat) : Int)))), H72_, S69_, (by first | assumption | omega | exact rfl), (by rw [hin, sStart_no hx41_ (by omega) c60_fp (by simpa using c70_f)])⟩, by first | omega | (dsimp only; omega) | (simp; omega)⟩
    ·have c37_fp : ¬ (0 < (c : Int)) := of_decide_eq_false c37_f
     refine C_exit (X_thenX (X_thenX (X_blkHit ?_)))
     refine (X_then ?_)
     exact ⟨c, _, congrArg (fun e => mkA 84 e []) (ch (ch (ch (ch rfl rfl) rfl) rfl) rfl), H33_, S34_, (by rw [hin]; obtain rfl : c = 0 := (by omega); rfl), (by omega)⟩
   ·rintro _ w28_ ⟨c0, h, rfl, H29_, S30_, hc0, hcl⟩
    refine C_seq (fun K73_ hK73_ => ?_)
    refine C_reg ?_
    refine S_list (T_val (v := (Value.slice none 0 0)) (x_assign rfl) ?_)
    refine wpList_nil ?_
    refine (X_then (hK73_ _ _ ?_))
    clear hK73_
    refine C_seq (fun K74_ hK74_ => ?_)
    refine C_reg ?_
    refine S_list (T_val (v := (Value.int .i64 0)) (x_assign rfl) ?_)
    refine wpList_nil ?_
    refine (X_then (hK74_ _ _ ?_))
    clear hK74_
    refine C_seq (fun K75_ hK75_ => ?_)
    refine C_block ?_
    have H76_ : Holds w28_ (sl 58 2 (Value.slice none 0 0) (List.length ([] : List RV)) (([] : List RV).flatMap RV.cells) :: cl b18_ 58 [(Value.int .i64 at_), (Value.int .i64 0)] :: ro R :: cl kb 104 [(Value.slice ka kl kc), (Value.int .i64 m), (Value.int .i64 n), gv] :: F) := Holds.add_nil H29_ 58 2
    refine C_loop (γ := Nat × Value × (List RV) × Int) (fun x__ a__ w1__ => match x__ with | ⟨k, ov, out, la⟩ => ∃ h : Env, a__ = mkA 84 (upd (upd (upd (upd (upd (upd h 0 (Value.pointer (some ⟨kb, 0, none⟩))) 6 (Value.slice none 0 0)) 7 (Value.pointer (some ⟨b18_, 0, none⟩))) 8 (Value.int .i64 (k : Int))) 10 ov) 11 (Value.int .i64 la)) [] ∧ Holds w1__ (sl 58 2 ov (List.length out) (out.flatMap RV.cells) :: cl b18_ 58 [(Value.int .i64 at_), (Value.int .i64 0)] :: ro R :: cl kb 104 [(Value.slice ka kl kc), (Value.int .i64 m), (Value.int .i64 n), gv] :: F) ∧ Same w w1__ ∧ (k ≤ N.length) ∧ (iSinceF N at_ = ((N.drop k).flatMap GN.l).foldl (sStep at_) (out, la)) ∧ (out = [] → la = 0) ∧ (out.length ≤ 100000 * k)) (fun x__ => match x__ with | ⟨k, ov, out, la⟩ => N.length - k) (⟨c0, (Value.slice none 0 0), ([] : List RV), 0⟩) ⟨_, congrArg (fun e => mkA 84 e []) (ch (ch (ch (ch (ch (ch rfl rfl) rfl) rfl) rfl) (rfl : (Value.slice none 0 0) = ((Value.slice none 0 0)))) rfl), H76_, S30_, (by first | assumption | omega | exact rfl), (by unfold iSinceF; rw [hc0]), (fun _ => rfl), (Nat.zero_le _)⟩ ?_
    rintro ⟨k, ov, out, la⟩ _ w77_ ⟨h, rfl, H78_, S79_, hk, hq, h0, hol⟩
    refine C_seq (fun K80_ hK80_ => ?_)
    refine C_seq (fun K81_ hK81_ => ?_)
    refine C_reg ?_
    refine S_list (T_val (v := (Value.int .i64 (k : Int))) (x_move rfl) ?_)
    refine S_list (T_val (v := (Value.pointer (some ⟨kb, 0, none⟩))) (x_move rfl) ?_)
    refine S_list (T_val (v := (Value.pointer (some ⟨kb, 0, none⟩))) (by kernel_rfl) ?_)
    refine S_list (T_val (v := (Value.pointer (some ⟨kb, 3, none⟩))) (by kernel_rfl) ?_)
    refine S_list (T_val (v := gv) (x_load1 rfl Try.underlying102 rfl ((Holds.rd H78_ 3 rfl) 3 gv rfl)) ?_)
    refine S_list (T_val (v := (Value.int .i64 ((List.length N) : Int))) (x_lenRS rfl h1 Try.underlying102) ?_)
    refine S_list (T_val (v := (Value.bool (decide ((k : Int) < ((List.length N) : Int))))) (x_bin rfl rfl rfl) ?_)
    refine wpList_nil ?_
    refine (X_then (hK81_ _ _ ?_))
    clear hK81_
    refine C_cond (b := decide ((k : Int) < ((List.length N) : Int))) rfl (fun c82_t => ?_) (fun c82_f => ?_)
    ·have c82_tp : (k : Int) < ((List.length N) : Int) := of_decide_eq_true c82_t
     refine C_skip (X_then (hK80_ _ _ ?_))
     clear hK80_
     refine C_seq (fun K83_ hK83_ => ?_)
     refine C_block ?_
     refine C_seq (fun K84_ hK84_ => ?_)
     refine C_reg ?_
     refine S_list (T_val (v := (Value.pointer (some ⟨kb, 0, none⟩))) (x_move rfl) ?_)
     refine S_list (T_val (v := (Value.pointer (some ⟨kb, 0, none⟩))) (by kernel_rfl) ?_)
     refine S_list (T_val (v := (Value.pointer (some ⟨kb, 3, none⟩))) (by kernel_rfl) ?_)
     refine S_list (T_val (v := gv) (x_load1 rfl Try.underlying102 rfl ((Holds.rd H78_ 3 rfl) 3 gv rfl)) ?_)
     refine S_list (T_val (v := (Value.int .i64 (k : Int))) (x_move rfl) ?_)
     obtain ⟨x85_, hx86_, hm87_⟩ := elem_at N k (by omega)
     have hp88_ := hg1 x85_ hm87_
     have hp89_ := hb2 x85_ hm87_
     have hp90_ := hpos x85_ hm87_
     have hg91_ := hg1 x85_ hm87_
     have hps_ := hpos x85_ hm87_
     refine S_list (T_val (v := (Value.pointer (some ⟨(sb gv), so gv + (k * 4 + 0), none⟩))) (x_idxRS (v := gv) rfl h1 rfl Try.underlying102 z106 (by omega) (by omega) (by omega : _ = k) rfl) ?_)
     refine S_list (T_val (v := (Value.pointer (some ⟨(sb gv), so gv + (k * 4 + 3), none⟩))) (by kernel_rfl) ?_)
     refine S_list (T_val (v := x85_.revs) (x_load1 rfl Try.underlying80 rfl (RC.cell (RS.rc h1) (Holds.ro_at H78_ 2 rfl) (j := k * 4 + 3) (u := x85_.revs) (fm_cell GN.len hx86_ (i := 3) rfl))) ?_)
     refine S_list (T_val (v := (Value.int .i64 ((List.length x85_.l) : Int))) (x_lenRS rfl hg91_ Try.underlying80) ?_)
     refine S_list (T_val (v := (Value.int .i64 0)) (x_move rfl) ?_)
     refine wpList_nil ?_
     refine (X_then (hK84_ _ _ ?_))
     clear hK84_
     refine C_block ?_
     refine C_loop (γ := Nat × Value × (List RV) × Int) (fun x__ a__ w1__ => match x__ with | ⟨i, ov2, out2, la2⟩ => ∃ h : Env, a__ = mkA 84 (upd (upd (upd (upd (upd (upd (upd (upd (upd h 0 (Value.pointer (some ⟨kb, 0, none⟩))) 6 (Value.slice none 0 0)) 7 (Value.pointer (some ⟨b18_, 0, none⟩))) 8 (Value.int .i64 (k : Int))) 10 ov2) 11 (Value.int .i64 la2)) 57 x85_.revs) 58 (Value.int .i64 ((List.length x85_.l) : Int))) 59 (Value.int .i64 (i : Int))) [] ∧ Holds w1__ (sl 58 2 ov2 (List.length out2) (out2.flatMap RV.cells) :: cl b18_ 58 [(Value.int .i64 at_), (Value.int .i64 0)] :: ro R :: cl kb 104 [(Value.slice ka kl kc), (Value.int .i64 m), (Value.int .i64 n), gv] :: F) ∧ Same w w1__ ∧ (i ≤ x85_.l.length) ∧ (iSinceF N at_ = (x85_.l.drop i ++ (N.drop (k + 1)).flatMap GN.l).foldl (sStep at_) (out2, la2)) ∧ (out2 = [] → la2 = 0) ∧ (out2.length ≤ 100000 * k + i)) (fun x__ => match x__ with | ⟨i, ov2, out2, la2⟩ => x85_.l.length - i) (⟨0, ov, out, la⟩) ⟨_, congrArg (fun e => mkA 84 e []) (ch (ch (ch (ch (ch (ch (ch (ch (ch rfl rfl) rfl) rfl) rfl) rfl) rfl) rfl) rfl) (congrArg (Value.int .i64) ((by first | rfl | omega | (simp; done) | (simp; omega)) : 0 = (0 : Int)))), H78_, S79_, (Nat.zero_le _), (by rw [hq, drop_at hx86_, List.flatMap_cons]; rfl), (h0), (by omega)⟩ ?_
     rintro ⟨i, ov2, out2, la2⟩ _ w92_ ⟨h, rfl, H93_, S94_, hi, hq2, h02, hol2⟩
     refine C_seq (fun K95_ hK95_ => ?_)
     refine C_reg ?_
     refine S_list (T_val (v := (Value.bool (decide ((i : Int) < ((List.length x85_.l) : Int))))) (x_bin rfl rfl rfl) ?_)
     refine wpList_nil ?_
     refine (X_then (hK95_ _ _ ?_))
     clear hK95_
     refine C_seq (fun K96_ hK96_ => ?_)
     refine C_cond (b := decide ((i : Int) < ((List.length x85_.l) : Int))) rfl (fun c97_t => ?_) (fun c97_f => ?_)
     ·have c97_tp : (i : Int) < ((List.length x85_.l) : Int) := of_decide_eq_true c97_t
      refine C_skip (X_then (hK96_ _ _ ?_))
      clear hK96_
      refine C_seq (fun K98_ hK98_ => ?_)
      refine C_block ?_
      refine C_seq (fun K99_ hK99_ => ?_)
      refine C_reg ?_
      obtain ⟨x100_, hx101_, hm102_⟩ := elem_at x85_.l i (by omega)
      have hry_ := hps_ x100_ hm102_
      refine S_list (T_val (v := (Value.pointer (some ⟨(sb x85_.revs), so x85_.revs + (i * 2 + 0), none⟩))) (x_idxRS (v := x85_.revs) rfl hg91_ rfl Try.underlying80 z58 (by omega) (by omega) (by omega : _ = i) rfl) ?_)
      refine S_list (T_val (v := (Value.agg #[(Value.int .i64 x100_.main), (Value.int .i64 x100_.sub)])) (x_loadN (vs := [(Value.int .i64 x100_.main), (Value.int .i64 x100_.sub)]) rfl Try.underlying58 rfl z58 rfl (RC.cells (RS.rc hg91_) (Holds.ro_at H93_ 2 rfl) (i * 2 + 0) (fm_cells RV.len hx101_ (i := 0) rfl))) ?_)
      refine S_list (T_alloc z58 H93_ ?_)
      intro b103_ w104_ S106_ H105_
      have S107_ := Same.trans S94_ S106_
      refine S_list0 (T_storeN (vs := [(Value.int .i64 x100_.main), (Value.int .i64 x100_.sub)]) rfl rfl z58 rfl (by simp [Value.oneCell']) H105_ 0 rfl (Nat.le_of_ble_eq_true (by rfl)) ?_)
      intro w108_ S110_ H109_
      have S111_ := Same.trans S107_ S110_
      refine wpList_nil ?_
      refine (X_then (hK99_ _ _ ?_))
      clear hK99_
      refine C_seq (fun K112_ hK112_ => ?_)
      refine C_seq (fun K113_ hK113_ => ?_)
      refine C_reg ?_
      refine S_list (T_val (v := (Value.agg #[(Value.int .i64 at_), (Value.int .i64 0)])) (x_loadN (vs := [(Value.int .i64 at_), (Value.int .i64 0)]) rfl Try.underlying58 rfl z58 rfl (Rd.cells (Holds.rd H109_ 2 rfl) 0 rfl)) ?_)
      refine S_list (T_val (v := (Value.agg #[(Value.int .i64 x100_.main), (Value.int .i64 x100_.sub)])) (x_loadN (vs := [(Value.int .i64 x100_.main), (Value.int .i64 x100_.sub)]) rfl Try.underlying58 rfl z58 rfl (Rd.cells (Holds.rd H109_ 0 rfl) 0 rfl)) ?_)
      have H115_ := ((Holds.bring H109_ 3 rfl) :)
      replace H115_ : Holds w108_ (ro R :: cl b103_ 58 [(Value.int .i64 x100_.main), (Value.int .i64 x100_.sub)] :: sl 58 2 ov2 (List.length out2) (out2.flatMap RV.cells) :: cl b18_ 58 [(Value.int .i64 at_), (Value.int .i64 0)] :: cl kb 104 [(Value.slice ka kl kc), (Value.int .i64 m), (Value.int .i64 n), gv] :: F) := H115_
      refine S_list (T_call (al := [(Value.agg #[(Value.int .i64 at_), (Value.int .i64 0)]), (Value.agg #[(Value.int .i64 x100_.main), (Value.int .i64 x100_.sub)])]) (pre := []) rfl rfl cb68 (kGreater R at_ 0 x100_.main x100_.sub) H115_ ?_)
      rintro v114_ p119_ w116_ ⟨rfl, rfl⟩ S118_ H117_
      have S120_ := Same.trans S111_ S118_
      refine wpList_nil ?_
      refine (X_then (hK113_ _ _ ?_))
      clear hK113_
      refine C_cond (b := vLessB x100_.main x100_.sub at_ 0) rfl (fun c121_t => ?_) (fun c121_f => ?_)
      ·skip
       refine C_exit (X_thenX (X_blkHit ?_))
       refine (X_then (hK98_ _ _ ?_))
       clear hK98_
       refine C_reg ?_
       refine S_list (T_val (v := (Value.int .i64 ((i : Int) + 1))) (x_bin rfl rfl (ib_add (IntWalk.i64_in _ (by omega)))) ?_)
       refine S_list (T_val (v := (Value.int .i64 ((i : Int) + 1))) (x_move rfl) ?_)
       refine wpList_nil ?_
       refine (X_then ?_)
       have H122_ : Holds w116_ (sl 58 2 ov2 (List.length out2) (out2.flatMap RV.cells) :: cl b18_ 58 [(Value.int .i64 at_), (Value.int .i64 0)] :: ro R :: cl kb 104 [(Value.slice ka kl kc), (Value.int .i64 m), (Value.int .i64 n), gv] :: F) := (Holds.pkF H117_ [2, 2, 0, 1] 1 :)
       exact ⟨⟨i + 1, ov2, out2, la2⟩, ⟨_, congrArg (fun e => mkA 84 e []) (ch (ch (ch (ch (ch (ch (ch (ch (ch rfl rfl) rfl) rfl) rfl) rfl) rfl) rfl) rfl) (congrArg (Value.int .i64) ((by first | rfl | omega | (simp; done) | (simp; omega)) : (i : Int) + 1 = ((i + 1 : Nat) : Int)))), H122_, S120_, (by first | assumption | omega | exact rfl), (by rw [hq2, drop_at hx101_, List.cons_append, List.foldl_cons, show sStep at_ (out2, la2) x100_ = (out2, la2) from if_pos (by simpa using c121_t)]), (h02), (by first | omega | (simp; omega))⟩, by first | omega | (dsimp only; omega) | (simp; omega)⟩
      ·skip
       refine C_skip (X_then (hK112_ _ _ ?_))
       clear hK112_
       refine C_seq (fun K123_ hK123_ => ?_)
       refine C_seq (fun K124_ hK124_ => ?_)
       refine C_reg ?_
       refine S_list (T_val (v := (Value.pointer (some ⟨b103_, 0, none⟩))) (by kernel_rfl) ?_)
       refine S_list (T_val (v := (Value.int .i64 x100_.main)) (x_load1 rfl Try.underlying2 rfl ((Holds.rd H117_ 1 rfl) 0 (Value.int .i64 x100_.main) rfl)) ?_)
       refine S_list (T_val (v := (Value.int .i64 la2)) (x_move rfl) ?_)
       refine S_list (T_val (v := (Value.bool (decide (x100_.main = la2)))) (x_bin rfl rfl rfl) ?_)
       refine wpList_nil ?_
       refine (X_then (hK124_ _ _ ?_))
       clear hK124_
       refine C_cond (b := decide (x100_.main = la2)) rfl (fun c125_t => ?_) (fun c125_f => ?_)
       ·have c125_tp : x100_.main = la2 := of_decide_eq_true c125_t
        have ho0_ : 0 < out2.length := Nat.pos_of_ne_zero fun h_ => by have h2_ := h02 (List.eq_nil_of_length_eq_zero h_); omega
        refine C_seq (fun K126_ hK126_ => ?_)
        refine C_reg ?_
        refine S_list (T_val (v := ov2) (x_move rfl) ?_)
        refine S_list (T_val (v := ov2) (x_move rfl) ?_)
        refine S_list (T_val (v := (Value.int .i64 ((List.length out2) : Int))) (x_lenSl rfl H117_ 2 rfl Try.underlying80) ?_)
        refine S_list (T_val (v := (Value.int .i64 (((List.length out2) : Int) - 1))) (x_bin rfl rfl (ib_sub (IntWalk.i64_in _ (by omega)))) ?_)
        refine S_list (T_val (v := (Value.agg #[(Value.int .i64 x100_.main), (Value.int .i64 x100_.sub)])) (x_loadN (vs := [(Value.int .i64 x100_.main), (Value.int .i64 x100_.sub)]) rfl Try.underlying58 rfl z58 rfl (Rd.cells (Holds.rd H117_ 1 rfl) 0 rfl)) ?_)
        have hr127_ := Holds.sl_RSw H117_ 2 rfl
        refine S_list (T_val (v := (Value.pointer (some ⟨(sb ov2), so ov2 + (((((List.length out2) : Int) - 1).toNat) * 2 + 0), none⟩))) (x_idxSlR (v := ov2) rfl hr127_ rfl Try.underlying80 z58 (by omega) (by omega) (by omega : _ = (((List.length out2) : Int) - 1).toNat) rfl) ?_)
        refine S_list0 (T_storeSlN (vs := [(Value.int .i64 x100_.main), (Value.int .i64 x100_.sub)]) (k := ((((List.length out2) : Int) - 1).toNat) * 2 + 0) rfl rfl z58 rfl (by simp [Value.oneCell']) H117_ 2 rfl (by (rw [fm_len RV.len]; simp only [List.length_cons, List.length_nil]; omega)) (Nat.zero_lt_succ _) rfl rfl ?_)
        intro w128_ S130_ H129_
        have S131_ := Same.trans S120_ S130_
        have H132_ := Holds.resl H129_ 2 rfl (rset_last (y := x100_) (by omega) rfl : List.take (((((List.length out2) : Int) - 1).toNat) * 2 + 0) (out2.flatMap RV.cells) ++ [(Value.int .i64 x100_.main), (Value.int .i64 x100_.sub)] ++ List.drop (((((List.length out2) : Int) - 1).toNat) * 2 + 0 + List.length [(Value.int .i64 x100_.main), (Value.int .i64 x100_.sub)]) (out2.flatMap RV.cells) = (out2.dropLast ++ [x100_]).flatMap RV.cells) (by simp; omega : (List.length out2) = (List.length (out2.dropLast ++ [x100_])))
        refine wpList_nil ?_
        refine (X_then (hK126_ _ _ ?_))
        clear hK126_
        refine C_exit (X_thenX (X_blkHit ?_))
        refine (X_then (hK98_ _ _ ?_))
        clear hK98_
        refine C_reg ?_
        refine S_list (T_val (v := (Value.int .i64 ((i : Int) + 1))) (x_bin rfl rfl (ib_add (IntWalk.i64_in _ (by omega)))) ?_)
        refine S_list (T_val (v := (Value.int .i64 ((i : Int) + 1))) (x_move rfl) ?_)
        refine wpList_nil ?_
        refine (X_then ?_)
        have H133_ : Holds w128_ (sl 58 2 ov2 (List.length (out2.dropLast ++ [x100_])) ((out2.dropLast ++ [x100_]).flatMap RV.cells) :: cl b18_ 58 [(Value.int .i64 at_), (Value.int .i64 0)] :: ro R :: cl kb 104 [(Value.slice ka kl kc), (Value.int .i64 m), (Value.int .i64 n), gv] :: F) := (Holds.pkF H132_ [2, 2, 0, 1] 1 :)
        exact ⟨⟨i + 1, ov2, (out2.dropLast ++ [x100_]), la2⟩, ⟨_, congrArg (fun e => mkA 84 e []) (ch (ch (ch (ch (ch (ch (ch (ch (ch rfl rfl) rfl) rfl) rfl) rfl) rfl) rfl) rfl) (congrArg (Value.int .i64) ((by first | rfl | omega | (simp; done) | (simp; omega)) : (i : Int) + 1 = ((i + 1 : Nat) : Int)))), H133_, S131_, (by first | assumption | omega | exact rfl), (by rw [hq2, drop_at hx101_, List.cons_append, List.foldl_cons, show sStep at_ (out2, la2) x100_ = (out2.dropLast ++ [x100_], la2) from by unfold sStep; rw [if_neg (by simpa using c121_f), if_pos c125_tp]]), (fun h_ => absurd h_ (by simp)), (by first | omega | (simp; omega))⟩, by first | omega | (dsimp only; omega) | (simp; omega)⟩
       ·have c125_fp : ¬ (x100_.main = la2) := of_decide_eq_false c125_f
        refine C_skip (X_then (hK123_ _ _ ?_))
        clear hK123_
        refine C_seq (fun K134_ hK134_ => ?_)
        refine C_reg ?_
        refine S_list (T_val (v := ov2) (x_move rfl) ?_)
        refine S_list (T_val (v := (Value.agg #[(Value.int .i64 x100_.main), (Value.int .i64 x100_.sub)])) (x_loadN (vs := [(Value.int .i64 x100_.main), (Value.int .i64 x100_.sub)]) rfl Try.underlying58 rfl z58 rfl (Rd.cells (Holds.rd H117_ 1 rfl) 0 rfl)) ?_)
        refine S_list (T_new (obj := .cells #[(Value.int .i64 x100_.main), (Value.int .i64 x100_.sub)] 58) (f := fun b__ => .slice (some ⟨b__, 0, none⟩) 1 1) (A := fun b__ => cl b__ 58 [(Value.int .i64 x100_.main), (Value.int .i64 x100_.sub)]) (by kernel_rfl) (fun l h => h.alloc _ _) H117_ ?_)
        intro b135_ w136_ S138_ H137_
        have S139_ := Same.trans S120_ S138_
        refine S_list (T_append rfl rfl Try.underlying80 z58 rfl (by decide) H137_ 3 rfl (Holds.cl_src H137_ 0 rfl Try.underlying80 (by simp [Value.oneCell']) rfl) (by omega) ?_)
        intro v140_ w141_ S143_ H142_
        have S144_ := Same.trans S139_ S143_
        refine S_list (T_val (v := v140_) (x_assign rfl) ?_)
        refine wpList_nil ?_
        refine (X_then (hK134_ _ _ ?_))
        clear hK134_
        refine C_reg ?_
        refine S_list (T_val (v := (Value.pointer (some ⟨b103_, 0, none⟩))) (by kernel_rfl) ?_)
        refine S_list (T_val (v := (Value.int .i64 x100_.main)) (x_load1 rfl Try.underlying2 rfl ((Holds.rd H142_ 2 rfl) 0 (Value.int .i64 x100_.main) rfl)) ?_)
        refine S_list (T_val (v := (Value.int .i64 x100_.main)) (x_assign rfl) ?_)
        refine wpList_nil ?_
        refine (X_blkN (X_then (hK98_ _ _ ?_)))
        clear hK98_
        refine C_reg ?_
        refine S_list (T_val (v := (Value.int .i64 ((i : Int) + 1))) (x_bin rfl rfl (ib_add (IntWalk.i64_in _ (by omega)))) ?_)
        refine S_list (T_val (v := (Value.int .i64 ((i : Int) + 1))) (x_move rfl) ?_)
        refine wpList_nil ?_
        refine (X_then ?_)
        have H145_ := Holds.resl H142_ 3 rfl ((by first | rfl | (simp [RV.cells]; done) | (simp; omega)) : (out2.flatMap RV.cells) ++ [(Value.int .i64 x100_.main), (Value.int .i64 x100_.sub)] = (out2 ++ [x100_]).flatMap RV.cells) ((by first | rfl | (simp [RV.cells]; done) | (simp; omega)) : (List.length out2) + 1 = (List.length (out2 ++ [x100_])))
        have H146_ : Holds w141_ (sl 58 2 v140_ (List.length (out2 ++ [x100_])) ((out2 ++ [x100_]).flatMap RV.cells) :: cl b18_ 58 [(Value.int .i64 at_), (Value.int .i64 0)] :: ro R :: cl kb 104 [(Value.slice ka kl kc), (Value.int .i64 m), (Value.int .i64 n), gv] :: F) := (Holds.pkF H145_ [3, 3, 1, 2] 2 :)
        exact ⟨⟨i + 1, v140_, (out2 ++ [x100_]), x100_.main⟩, ⟨_, congrArg (fun e => mkA 84 e []) (ch (ch (ch (ch (ch (ch (ch (ch (ch rfl rfl) rfl) rfl) rfl) rfl) rfl) rfl) rfl) (congrArg (Value.int .i64) ((by first | rfl | omega | (simp; done) | (simp; omega)) : (i : Int) + 1 = ((i + 1 : Nat) : Int)))), H146_, S144_, (by first | assumption | omega | exact rfl), (by rw [hq2, drop_at hx101_, List.cons_append, List.foldl_cons, show sStep at_ (out2, la2) x100_ = (out2 ++ [x100_], x100_.main) from by unfold sStep; rw [if_neg (by simpa using c121_f), if_neg c125_fp]]), (fun h_ => absurd h_ (by simp)), (by first | omega | (simp; omega))⟩, by first | omega | (dsimp only; omega) | (simp; omega)⟩
     ·have c97_fp : ¬ ((i : Int) < ((List.length x85_.l) : Int)) := of_decide_eq_false c97_f
      refine C_exit (X_thenX (X_thenX (X_blkHit ?_)))
      refine (X_blkN (X_then (hK83_ _ _ ?_)))
      clear hK83_
      refine C_reg ?_
      refine S_list (T_val (v := (Value.int .i64 (k : Int))) (x_move rfl) ?_)
      refine S_list (T_val (v := (Value.int .i64 ((k : Int) + 1))) (x_bin rfl rfl (ib_add (IntWalk.i64_in _ (by omega)))) ?_)
      refine S_list (T_val (v := (Value.int .i64 ((k : Int) + 1))) (x_assign rfl) ?_)
      refine wpList_nil ?_
      refine (X_then ?_)
      exact ⟨⟨k + 1, ov2, out2, la2⟩, ⟨_, congrArg (fun e => mkA 84 e []) (ch (ch (ch (ch (ch (ch rfl rfl) rfl) rfl) (congrArg (Value.int .i64) ((by first | rfl | omega | (simp; done) | (simp; omega)) : (k : Int) + 1 = ((k + 1 : Nat) : Int)))) rfl) rfl), H93_, S94_, (by first | assumption | omega | exact rfl), (by rw [hq2, List.drop_of_length_le (by omega), List.nil_append]), (h02), (by omega)⟩, by first | omega | (dsimp only; omega) | (simp; omega)⟩
    ·have c82_fp : ¬ ((k : Int) < ((List.length N) : Int)) := of_decide_eq_false c82_f
     refine C_exit (X_thenX (X_thenX (X_blkHit ?_)))
     refine (X_then (hK75_ _ _ ?_))
     clear hK75_
     refine C_seq (fun K147_ hK147_ => ?_)
     refine C_reg ?_
     refine S_list (T_val (v := ov) (x_move rfl) ?_)
     refine S_list (T_val (v := ov) (x_assign rfl) ?_)
     refine wpList_nil ?_
     refine (X_then (hK147_ _ _ ?_))
     clear hK147_
     refine C_ret ?_
     refine R_any (v := ov) (run_results1 rfl rfl) ?_
     have H148_ := Holds.resl H78_ 0 rfl ((by rw [iSince_N, hq, List.drop_of_length_le (by omega)]; rfl) : out.flatMap RV.cells = (iSince (N.map GN.m) at_).flatMap RV.cells) ((by rw [iSince_N, hq, List.drop_of_length_le (by omega)]; rfl) : (List.length out) = (List.length (iSince (N.map GN.m) at_)))
     have H149_ : Holds w77_ (ro R :: sl 58 2 ov (List.length (iSince (N.map GN.m) at_)) ((iSince (N.map GN.m) at_).flatMap RV.cells) :: cl kb 104 [(Value.slice ka kl kc), (Value.int .i64 m), (Value.int .i64 n), gv] :: F) := (Holds.pkF H148_ [2, 0, 1] 1 :)
     exact ⟨_, _, rfl, ⟨ov, rfl, rfl⟩, S79_, H149_⟩
 ·have c6_fp : ¬ (((List.length N) : Int) = 1) := of_decide_eq_false c6_f
  refine S_no (j := 6) (dj := 9) (b := false) rfl rfl (congrArg Value.bool c6_f) (by decide) ?_
  refine S_no (j := 6) (dj := 9) (b := false) rfl rfl (congrArg Value.bool c6_f) (by decide) ?_
  refine S_no (j := 6) (dj := 9) (b := false) rfl rfl (congrArg Value.bool c6_f) (by decide) ?_
  refine S_no (j := 6) (dj := 9) (b := false) rfl rfl (congrArg Value.bool c6_f) (by decide) ?_
  refine S_no (j := 6) (dj := 9) (b := false) rfl rfl (congrArg Value.bool c6_f) (by decide) ?_
  refine S_no (j := 6) (dj := 9) (b := false) rfl rfl (congrArg Value.bool c6_f) (by decide) ?_
  refine S_list (T_pickF (v := (Value.bool false)) (congrArg Value.bool c6_f) rfl ?_)
  refine S_list (T_val (v := (Value.bool false)) (x_assign rfl) ?_)
  refine wpList_nil ?_
  refine (X_then (hK5_ _ _ ?_))
  clear hK5_
  refine C_ret ?_
  refine R_any (v := (Value.bool false)) (run_results1 rfl rfl) ⟨_, rfl, ?_⟩
  refine wpList_nil ?_
  refine (X_then (hK3_ _ _ ?_))
  clear hK3_
  refine C_condF rfl ?_
  refine C_skip (X_then (hK2_ _ _ ?_))
  clear hK2_
  refine C_seq (fun K150_ hK150_ => ?_)
  refine C_reg ?_
  refine S_list (T_val (v := (Value.int .i64 at_)) (x_move rfl) ?_)
  refine S_list (T_val (v := (Value.agg #[(Value.int .i64 at_), (Value.int .i64 0)])) (by kernel_rfl) ?_)
  refine S_list (T_alloc z58 H ?_)
  intro b151_ w152_ S154_ H153_
  have S155_ := Same.trans (Same.refl w) S154_
  refine S_list0 (T_storeN (vs := [(Value.int .i64 at_), (Value.int .i64 0)]) rfl rfl z58 rfl (by simp [Value.oneCell']) H153_ 0 rfl (Nat.le_of_ble_eq_true (by rfl)) ?_)
  intro w156_ S158_ H157_
  have S159_ := Same.trans S155_ S158_
  refine wpList_nil ?_
  refine (X_then (hK150_ _ _ ?_))
  clear hK150_
  refine C_seq (fun K160_ hK160_ => ?_)
  refine C_reg ?_
  refine S_list (T_val (v := (Value.int .i64 0)) (x_assign rfl) ?_)
  refine wpList_nil ?_
  refine (X_then (hK160_ _ _ ?_))
  clear hK160_
  refine C_cut (fun a__ w1__ => ∃ c0 : Nat, ∃ h : Env, a__ = mkA 84 (upd (upd (upd (upd h 0 (Value.pointer (some ⟨kb, 0, none⟩))) 6 (Value.slice none 0 0)) 7 (Value.pointer (some ⟨b151_, 0, none⟩))) 8 (Value.int .i64 (c0 : Int))) [] ∧ Holds w1__ (cl b151_ 58 [(Value.int .i64 at_), (Value.int .i64 0)] :: ro R :: cl kb 104 [(Value.slice ka kl kc), (Value.int .i64 m), (Value.int .i64 n), gv] :: F) ∧ Same w w1__ ∧ (sStartN (N.map GN.m) at_ (N.length - 1) = c0) ∧ (c0 < N.length)) ?_ ?_
  ·refine C_seq (fun K164_ hK164_ => ?_)
   refine C_reg ?_
   refine S_list (T_val (v := (Value.pointer (some ⟨kb, 0, none⟩))) (x_move rfl) ?_)
   refine S_list (T_val (v := (Value.pointer (some ⟨kb, 0, none⟩))) (by kernel_rfl) ?_)
   refine S_list (T_val (v := (Value.pointer (some ⟨kb, 3, none⟩))) (by kernel_rfl) ?_)
   refine S_list (T_val (v := gv) (x_load1 rfl Try.underlying102 rfl ((Holds.rd H157_ 2 rfl) 3 gv rfl)) ?_)
   refine S_list (T_val (v := (Value.int .i64 ((List.length N) : Int))) (x_lenRS rfl h1 Try.underlying102) ?_)
   refine S_list (T_val (v := (Value.int .i64 (((List.length N) : Int) - 1))) (x_bin rfl rfl (ib_sub (IntWalk.i64_in _ (by omega)))) ?_)
   refine S_list (T_val (v := (Value.int .i64 (((List.length N) : Int) - 1))) (x_assign rfl) ?_)
   refine wpList_nil ?_
   refine (X_then (hK164_ _ _ ?_))
   clear hK164_
   refine C_block ?_
   refine C_loop (γ := Nat) (fun c a__ w1__ => ∃ h : Env, a__ = mkA 84 (upd (upd (upd (upd h 0 (Value.pointer (some ⟨kb, 0, none⟩))) 6 (Value.slice none 0 0)) 7 (Value.pointer (some ⟨b151_, 0, none⟩))) 8 (Value.int .i64 (c : Int))) [] ∧ Holds w1__ (cl b151_ 58 [(Value.int .i64 at_), (Value.int .i64 0)] :: ro R :: cl kb 104 [(Value.slice ka kl kc), (Value.int .i64 m), (Value.int .i64 n), gv] :: F) ∧ Same w w1__ ∧ (c < N.length) ∧ (sStartN (N.map GN.m) at_ (N.length - 1) = sStartN (N.map GN.m) at_ c)) (fun c => c) ((N.length - 1)) ⟨_, congrArg (fun e => mkA 84 e []) (ch (ch (ch (ch rfl rfl) rfl) rfl) (congrArg (Value.int .i64) ((by first | rfl | omega | (simp; done) | (simp; omega)) : ((List.length N) : Int) - 1 = ((N.length - 1 : Nat) : Int)))), H157_, S159_, (by omega), (rfl)⟩ ?_
   rintro c _ w165_ ⟨h, rfl, H166_, S167_, hc, hin⟩
   refine C_seq (fun K168_ hK168_ => ?_)
   refine C_seq (fun K169_ hK169_ => ?_)
   refine C_reg ?_
   refine S_list (T_val (v := (Value.int .i64 (c : Int))) (x_move rfl) ?_)
   refine S_list (T_val (v := (Value.bool (decide (0 < (c : Int))))) (x_bin rfl rfl rfl) ?_)
   refine wpList_nil ?_
   refine (X_then (hK169_ _ _ ?_))
   clear hK169_
   refine C_cond (b := decide (0 < (c : Int))) rfl (fun c170_t => ?_) (fun c170_f => ?_)
   ·have c170_tp : 0 < (c : Int) := of_decide_eq_true c170_t
    refine C_skip (X_then (hK168_ _ _ ?_))
    clear hK168_
    refine C_seq (fun K171_ hK171_ => ?_)
    refine C_block ?_
    refine C_seq (fun K172_ hK172_ => ?_)
    refine C_reg ?_
    refine S_list (T_val (v := (Value.pointer (some ⟨kb, 0, none⟩))) (x_move rfl) ?_)
    refine S_list (T_val (v := (Value.pointer (some ⟨kb, 0, none⟩))) (by kernel_rfl) ?_)
    refine S_list (T_val (v := (Value.pointer (some ⟨kb, 3, none⟩))) (by kernel_rfl) ?_)
    refine S_list (T_val (v := gv) (x_load1 rfl Try.underlying102 rfl ((Holds.rd H166_ 2 rfl) 3 gv rfl)) ?_)
    refine S_list (T_val (v := (Value.int .i64 (c : Int))) (x_move rfl) ?_)
    obtain ⟨x173_, hx174_, hm175_⟩ := elem_at N c (by omega)
    have hp176_ := hg1 x173_ hm175_
    have hp177_ := hb2 x173_ hm175_
    have hp178_ := hpos x173_ hm175_
    have hg179_ := hg1 x173_ hm175_
    have hps_ := hpos x173_ hm175_
    refine S_list (T_val (v := (Value.pointer (some ⟨(sb gv), so gv + (c * 4 + 0), none⟩))) (x_idxRS (v := gv) rfl h1 rfl Try.underlying102 z106 (by omega) (by omega) (by omega : _ = c) rfl) ?_)
    refine S_list (T_val (v := (Value.agg #[(Value.int .i64 x173_.ver), (Value.int .i64 x173_.created_Main), (Value.int .i64 x173_.created_Sub), x173_.revs])) (x_loadN (vs := [(Value.int .i64 x173_.ver), (Value.int .i64 x173_.created_Main), (Value.int .i64 x173_.created_Sub), x173_.revs]) rfl Try.underlying106 rfl z106 rfl (RC.cells (RS.rc h1) (Holds.ro_at H166_ 1 rfl) (c * 4 + 0) (fm_cells GN.len hx174_ (i := 0) rfl))) ?_)
    refine S_list (T_alloc z106 H166_ ?_)
    intro b180_ w181_ S183_ H182_
    replace H182_ : Holds w181_ (cl b180_ 106 [(Value.int .i64 0), (Value.int .i64 0), (Value.int .i64 0), (Value.slice none 0 0)] :: cl b151_ 58 [(Value.int .i64 at_), (Value.int .i64 0)] :: ro R :: cl kb 104 [(Value.slice ka kl kc), (Value.int .i64 m), (Value.int .i64 n), gv] :: F) := H182_
    have S184_ := Same.trans S167_ S183_
    refine S_list0 (T_storeN (vs := [(Value.int .i64 x173_.ver), (Value.int .i64 x173_.created_Main), (Value.int .i64 x173_.created_Sub), x173_.revs]) rfl rfl z106 rfl (List.forall_mem_cons.2 ⟨rfl, (List.forall_mem_cons.2 ⟨rfl, (List.forall_mem_cons.2 ⟨rfl, (List.forall_mem_cons.2 ⟨(RS.one hg179_), (fun _ h__ => by cases h__)⟩)⟩)⟩)⟩) H182_ 0 rfl (Nat.le_of_ble_eq_true (by rfl)) ?_)
    intro w185_ S187_ H186_
    have S188_ := Same.trans S184_ S187_
    refine wpList_nil ?_
    refine (X_then (hK172_ _ _ ?_))
    clear hK172_
    refine C_seq (fun K189_ hK189_ => ?_)
    refine C_seq (fun K190_ hK190_ => ?_)
    refine C_reg ?_
    refine S_list (T_callW (al := [(Value.pointer (some ⟨b180_, 0, none⟩))]) rfl rfl cb69 (Calls.into (n := 13) (al := [(Value.pointer (some ⟨b180_, 0, none⟩))]) Try.func69 rfl Try.ntmps69 rfl rfl ?_))
    refine C_seq (fun K191_ hK191_ => ?_)
    refine C_reg ?_
    refine S_list (T_val (v := (Value.bool false)) (x_assign rfl) ?_)
    refine wpList_nil ?_
    refine (X_then (hK191_ _ _ ?_))
    clear hK191_
    refine C_seq (fun K192_ hK192_ => ?_)
    refine C_reg ?_
    refine S_list (T_val (v := (Value.pointer (some ⟨b180_, 0, none⟩))) (x_move rfl) ?_)
    refine S_list (T_val (v := (Value.bool false)) (by kernel_rfl) ?_)
    refine S_list (T_val (v := (Value.bool false)) (x_move rfl) ?_)
    refine S_yes (j := 2) (dj := 5) (b := false) rfl rfl rfl (T_val (v := (Value.pointer (some ⟨b180_, 0, none⟩))) (x_move rfl) ?_)
    refine S_yes (j := 2) (dj := 5) (b := false) rfl rfl rfl (T_val (v := (Value.pointer (some ⟨b180_, 0, none⟩))) (by kernel_rfl) ?_)
    refine S_yes (j := 2) (dj := 5) (b := false) rfl rfl rfl (T_val (v := (Value.pointer (some ⟨b180_, 3, none⟩))) (by kernel_rfl) ?_)
    refine S_yes (j := 2) (dj := 5) (b := false) rfl rfl rfl (T_val (v := x173_.revs) (x_load1 rfl Try.underlying80 rfl ((Holds.rd H186_ 0 rfl) 3 x173_.revs rfl)) ?_)
    refine S_yes (j := 2) (dj := 5) (b := false) rfl rfl rfl (T_val (v := (Value.int .i64 ((List.length x173_.l) : Int))) (x_lenRS rfl hg179_ Try.underlying80) ?_)
    refine S_yes (j := 2) (dj := 5) (b := false) rfl rfl rfl (T_val (v := (Value.bool (decide (((List.length x173_.l) : Int) = 0)))) (x_bin rfl rfl rfl) ?_)
    refine S_list (T_pickF (v := (Value.bool (decide (((List.length x173_.l) : Int) = 0)))) rfl rfl ?_)
    refine S_list (T_val (v := (Value.bool (decide (((List.length x173_.l) : Int) = 0)))) (x_assign rfl) ?_)
    refine wpList_nil ?_
    refine (X_then (hK192_ _ _ ?_))
    clear hK192_
    refine C_ret ?_
    refine R_any (v := (Value.bool (decide (((List.length x173_.l) : Int) = 0)))) (run_results1 rfl rfl) ⟨_, rfl, ?_⟩
    refine wpList_nil ?_
    refine (X_then (hK190_ _ _ ?_))
    clear hK190_
    refine C_cond (b := decide (((List.length x173_.l) : Int) = 0)) rfl (fun c193_t => ?_) (fun c193_f => ?_)
    ·have c193_tp : ((List.length x173_.l) : Int) = 0 := of_decide_eq_true c193_t
     refine C_exit (X_thenX (X_blkHit ?_))
     refine (X_then (hK171_ _ _ ?_))
     clear hK171_
     refine C_reg ?_
     refine S_list (T_val (v := (Value.int .i64 (c : Int))) (x_move rfl) ?_)
     refine S_list (T_val (v := (Value.int .i64 ((c : Int) - 1))) (x_bin rfl rfl (ib_sub (IntWalk.i64_in _ (by omega)))) ?_)
     refine S_list (T_val (v := (Value.int .i64 ((c : Int) - 1))) (x_assign rfl) ?_)
     refine wpList_nil ?_
     refine (X_then ?_)
     have H194_ : Holds w185_ (cl b151_ 58 [(Value.int .i64 at_), (Value.int .i64 0)] :: ro R :: cl kb 104 [(Value.slice ka kl kc), (Value.int .i64 m), (Value.int .i64 n), gv] :: F) := (Holds.pkF H186_ [1, 1, 1] 1 :)
     exact ⟨(c - 1), ⟨_, congrArg (fun e => mkA 84 e []) (ch (ch (ch (ch rfl rfl) rfl) rfl) (congrArg (Value.int .i64) ((by first | rfl | omega | (simp; done) | (simp; omega)) : (c : Int) - 1 = ((c - 1 : Nat) : Int)))), H194_, S188_, (by first | assumption | omega | exact rfl), (by rw [hin, sStart_skip hx174_ (by omega) c193_tp])⟩, by first | omega | (dsimp only; omega) | (simp; omega)⟩
    ·have c193_fp : ¬ (((List.length x173_.l) : Int) = 0) := of_decide_eq_false c193_f
     refine C_skip (X_then (hK189_ _ _ ?_))
     clear hK189_
     refine C_seq (fun K195_ hK195_ => ?_)
     refine C_reg ?_
     refine S_list (T_val (v := (Value.agg #[(Value.int .i64 at_), (Value.int .i64 0)])) (x_loadN (vs := [(Value.int .i64 at_), (Value.int .i64 0)]) rfl Try.underlying58 rfl z58 rfl (Rd.cells (Holds.rd H186_ 1 rfl) 0 rfl)) ?_)
     refine S_list (T_val (v := (Value.pointer (some ⟨b180_, 1, none⟩))) (by kernel_rfl) ?_)
     refine S_list (T_val (v := (Value.agg #[(Value.int .i64 x173_.created_Main), (Value.int .i64 x173_.created_Sub)])) (x_loadN (vs := [(Value.int .i64 x173_.created_Main), (Value.int .i64 x173_.created_Sub)]) rfl Try.underlying58 rfl z58 rfl (Rd.cells (Holds.rd H186_ 0 rfl) 1 rfl)) ?_)
     have H197_ := ((Holds.bring H186_ 2 rfl) :)
     refine S_list (T_call (al := [(Value.agg #[(Value.int .i64 at_), (Value.int .i64 0)]), (Value.agg #[(Value.int .i64 x173_.created_Main), (Value.int .i64 x173_.created_Sub)])]) (pre := []) rfl rfl cb68 (kGreater R at_ 0 x173_.created_Main x173_.created_Sub) H197_ ?_)
     rintro v196_ p201_ w198_ ⟨rfl, rfl⟩ S200_ H199_
     have S202_ := Same.trans S188_ S200_
     refine wpList_nil ?_
     refine (X_then (hK195_ _ _ ?_))
     clear hK195_
     refine C_cond (b := vLessB x173_.created_Main x173_.created_Sub at_ 0) rfl (fun c203_t => ?_) (fun c203_f => ?_)
     ·skip
      refine C_exit (X_blkMiss rfl (X_thenX (X_thenX (X_blkHit ?_))))
      refine (X_then ?_)
      have H204_ : Holds w198_ (cl b151_ 58 [(Value.int .i64 at_), (Value.int .i64 0)] :: ro R :: cl kb 104 [(Value.slice ka kl kc), (Value.int .i64 m), (Value.int .i64 n), gv] :: F) := (Holds.pkF H199_ [2, 0, 1] 1 :)
      exact ⟨c, _, congrArg (fun e => mkA 84 e []) (ch (ch (ch (ch rfl rfl) rfl) rfl) rfl), H204_, S202_, (by rw [hin]; exact sStart_yes hx174_ (by omega) c193_fp (by simpa using c203_t)), (by omega)⟩
     ·skip
      refine C_skip (X_blkN (X_then (hK171_ _ _ ?_)))
      clear hK171_
      refine C_reg ?_
      refine S_list (T_val (v := (Value.int .i64 (c : Int))) (x_move rfl) ?_)
      refine S_list (T_val (v := (Value.int .i64 ((c : Int) - 1))) (x_bin rfl rfl (ib_sub (IntWalk.i64_in _ (by omega)))) ?_)
      refine S_list (T_val (v := (Value.int .i64 ((c : Int) - 1))) (x_assign rfl) ?_)
      refine wpList_nil ?_
      refine (X_then ?_)
      have H205_ : Holds w198_ (cl b151_ 58 [(Value.int .i64 at_), (Value.int .i64 0)] :: ro R :: cl kb 104 [(Value.slice ka kl kc), (Value.int .i64 m), (Value.int .i64 n), gv] :: F) := (Holds.pkF H199_ [2, 0, 1] 1 :)
      exact ⟨(c - 1), ⟨_, congrArg (fun e => mkA 84 e []) (ch (ch (ch (ch rfl rfl) rfl) rfl) (congrArg (Value.int .i64) ((by first | rfl | omega | (simp; done) | (simp; omega)) : (c : Int) - 1 = ((c - 1 : Nat) : Int)))), H205_, S202_, (by first | assumption | omega | exact rfl), (by rw [hin, sStart_no hx174_ (by omega) c193_fp (by simpa using c203_f)])⟩, by first | omega | (dsimp only; omega) | (simp; omega)⟩
   ·have c170_fp : ¬ (0 < (c : Int)) := of_decide_eq_false c170_f
    refine C_exit (X_thenX (X_thenX (X_blkHit ?_)))
    refine (X_then ?_)
    exact ⟨c, _, congrArg (fun e => mkA 84 e []) (ch (ch (ch (ch rfl rfl) rfl) rfl) rfl), H166_, S167_, (by rw [hin]; obtain rfl : c = 0 := (by omega); rfl), (by omega)⟩
  ·rintro _ w161_ ⟨c0, h, rfl, H162_, S163_, hc0, hcl⟩
   refine C_seq (fun K206_ hK206_ => ?_)
   refine C_reg ?_
   refine S_list (T_val (v := (Value.slice none 0 0)) (x_assign rfl) ?_)
   refine wpList_nil ?_
   refine (X_then (hK206_ _ _ ?_))
   clear hK206_
   refine C_seq (fun K207_ hK207_ => ?_)
   refine C_reg ?_
   refine S_list (T_val (v := (Value.int .i64 0)) (x_assign rfl) ?_)
   refine wpList_nil ?_
   refine (X_then (hK207_ _ _ ?_))
   clear hK207_
   refine C_seq (fun K208_ hK208_ => ?_)
   refine C_block ?_
   have H209_ : Holds w161_ (sl 58 2 (Value.slice none 0 0) (List.length ([] : List RV)) (([] : List RV).flatMap RV.cells) :: cl b151_ 58 [(Value.int .i64 at_), (Value.int .i64 0)] :: ro R :: cl kb 104 [(Value.slice ka kl kc), (Value.int .i64 m), (Value.int .i64 n), gv] :: F) := Holds.add_nil H162_ 58 2
   refine C_loop (γ := Nat × Value × (List RV) × Int) (fun x__ a__ w1__ => match x__ with | ⟨k, ov, out, la⟩ => ∃ h : Env, a__ = mkA 84 (upd (upd (upd (upd (upd (upd h 0 (Value.pointer (some ⟨kb, 0, none⟩))) 6 (Value.slice none 0 0)) 7 (Value.pointer (some ⟨b151_, 0, none⟩))) 8 (Value.int .i64 (k : Int))) 10 ov) 11 (Value.int .i64 la)) [] ∧ Holds w1__ (sl 58 2 ov (List.length out) (out.flatMap RV.cells) :: cl b151_ 58 [(Value.int .i64 at_), (Value.int .i64 0)] :: ro R :: cl kb 104 [(Value.slice ka kl kc), (Value.int .i64 m), (Value.int .i64 n), gv] :: F) ∧ Same w w1__ ∧ (k ≤ N.length) ∧ (iSinceF N at_ = ((N.drop k).flatMap GN.l).foldl (sStep at_) (out, la)) ∧ (out = [] → la = 0) ∧ (out.length ≤ 100000 * k)) (fun x__ => match x__ with | ⟨k, ov, out, la⟩ => N.length - k) (⟨c0, (Value.slice none 0 0), ([] : List RV), 0⟩) ⟨_, congrArg (fun e => mkA 84 e []) (ch (ch (ch (ch (ch (ch rfl rfl) rfl) rfl) rfl) (rfl : (Value.slice none 0 0) = ((Value.slice none 0 0)))) rfl), H209_, S163_, (by first | assumption | omega | exact rfl), (by unfold iSinceF; rw [hc0]), (fun _ => rfl), (Nat.zero_le _)⟩ ?_
   rintro ⟨k, ov, out, la⟩ _ w210_ ⟨h, rfl, H211_, S212_, hk, hq, h0, hol⟩
   refine C_seq (fun K213_ hK213_ => ?_)
   refine C_seq (fun K214_ hK214_ => ?_)
   refine C_reg ?_
   refine S_list (T_val (v := (Value.int .i64 (k : Int))) (x_move rfl) ?_)
   refine S_list (T_val (v := (Value.pointer (some ⟨kb, 0, none⟩))) (x_move rfl) ?_)
   refine S_list (T_val (v := (Value.pointer (some ⟨kb, 0, none⟩))) (by kernel_rfl) ?_)
   refine S_list (T_val (v := (Value.pointer (some ⟨kb, 3, none⟩))) (by kernel_rfl) ?_)
   refine S_list (T_val (v := gv) (x_load1 rfl Try.underlying102 rfl ((Holds.rd H211_ 3 rfl) 3 gv rfl)) ?_)
   refine S_list (T_val (v := (Value.int .i64 ((List.length N) : Int))) (x_lenRS rfl h1 Try.underlying102) ?_)
   refine S_list (T_val (v := (Value.bool (decide ((k : Int) < ((List.length N) : Int))))) (x_bin rfl rfl rfl) ?_)
   refine wpList_nil ?_
   refine (X_then (hK214_ _ _ ?_))
   clear hK214_
   refine C_cond (b := decide ((k : Int) < ((List.length N) : Int))) rfl (fun c215_t => ?_) (fun c215_f => ?_)
   ·have c215_tp : (k : Int) < ((List.length N) : Int) := of_decide_eq_true c215_t
    refine C_skip (X_then (hK213_ _ _ ?_))
    clear hK213_
    refine C_seq (fun K216_ hK216_ => ?_)
    refine C_block ?_
    refine C_seq (fun K217_ hK217_ => ?_)
    refine C_reg ?_
    refine S_list (T_val (v := (Value.pointer (some ⟨kb, 0, none⟩))) (x_move rfl) ?_)
    refine S_list (T_val (v := (Value.pointer (some ⟨kb, 0, none⟩))) (by kernel_rfl) ?_)
    refine S_list (T_val (v := (Value.pointer (some ⟨kb, 3, none⟩))) (by kernel_rfl) ?_)
    refine S_list (T_val (v := gv) (x_load1 rfl Try.underlying102 rfl ((Holds.rd H211_ 3 rfl) 3 gv rfl)) ?_)
    refine S_list (T_val (v := (Value.int .i64 (k : Int))) (x_move rfl) ?_)
    obtain ⟨x218_, hx219_, hm220_⟩ := elem_at N k (by omega)
    have hp221_ := hg1 x218_ hm220_
    have hp222_ := hb2 x218_ hm220_
    have hp223_ := hpos x218_ hm220_
    have hg224_ := hg1 x218_ hm220_
    have hps_ := hpos x218_ hm220_
    refine S_list (T_val (v := (Value.pointer (some ⟨(sb gv), so gv + (k * 4 + 0), none⟩))) (x_idxRS (v := gv) rfl h1 rfl Try.underlying102 z106 (by omega) (by omega) (by omega : _ = k) rfl) ?_)
    refine S_list (T_val (v := (Value.pointer (some ⟨(sb gv), so gv + (k * 4 + 3), none⟩))) (by kernel_rfl) ?_)
    refine S_list (T_val (v := x218_.revs) (x_load1 rfl Try.underlying80 rfl (RC.cell (RS.rc h1) (Holds.ro_at H211_ 2 rfl) (j := k * 4 + 3) (u := x218_.revs) (fm_cell GN.len hx219_ (i := 3) rfl))) ?_)
    refine S_list (T_val (v := (Value.int .i64 ((List.length x218_.l) : Int))) (x_lenRS rfl hg224_ Try.underlying80) ?_)
    refine S_list (T_val (v := (Value.int .i64 0)) (x_move rfl) ?_)
    refine wpList_nil ?_
    refine (X_then (hK217_ _ _ ?_))
    clear hK217_
    refine C_block ?_
    refine C_loop (γ := Nat × Value × (List RV) × Int) (fun x__ a__ w1__ => match x__ with | ⟨i, ov2, out2, la2⟩ => ∃ h : Env, a__ = mkA 84 (upd (upd (upd (upd (upd (upd (upd (upd (upd h 0 (Value.pointer (some ⟨kb, 0, none⟩))) 6 (Value.slice none 0 0)) 7 (Value.pointer (some ⟨b151_, 0, none⟩))) 8 (Value.int .i64 (k : Int))) 10 ov2) 11 (Value.int .i64 la2)) 57 x218_.revs) 58 (Value.int .i64 ((List.length x218_.l) : Int))) 59 (Value.int .i64 (i : Int))) [] ∧ Holds w1__ (sl 58 2 ov2 (List.length out2) (out2.flatMap RV.cells) :: cl b151_ 58 [(Value.int .i64 at_), (Value.int .i64 0)] :: ro R :: cl kb 104 [(Value.slice ka kl kc), (Value.int .i64 m), (Value.int .i64 n), gv] :: F) ∧ Same w w1__ ∧ (i ≤ x218_.l.length) ∧ (iSinceF N at_ = (x218_.l.drop i ++ (N.drop (k + 1)).flatMap GN.l).foldl (sStep at_) (out2, la2)) ∧ (out2 = [] → la2 = 0) ∧ (out2.length ≤ 100000 * k + i)) (fun x__ => match x__ with | ⟨i, ov2, out2, la2⟩ => x218_.l.length - i) (⟨0, ov, out, la⟩) ⟨_, congrArg (fun e => mkA 84 e []) (ch (ch (ch (ch (ch (ch (ch (ch (ch rfl rfl) rfl) rfl) rfl) rfl) rfl) rfl) rfl) (congrArg (Value.int .i64) ((by first | rfl | omega | (simp; done) | (simp; omega)) : 0 = (0 : Int)))), H211_, S212_, (Nat.zero_le _), (by rw [hq, drop_at hx219_, List.flatMap_cons]; rfl), (h0), (by omega)⟩ ?_
    rintro ⟨i, ov2, out2, la2⟩ _ w225_ ⟨h, rfl, H226_, S227_, hi, hq2, h02, hol2⟩
    refine C_seq (fun K228_ hK228_ => ?_)
    refine C_reg ?_
    refine S_list (T_val (v := (Value.bool (decide ((i : Int) < ((List.length x218_.l) : Int))))) (x_bin rfl rfl rfl) ?_)
    refine wpList_nil ?_
    refine (X_then (hK228_ _ _ ?_))
    clear hK228_
    refine C_seq (fun K229_ hK229_ => ?_)
    refine C_cond (b := decide ((i : Int) < ((List.length x218_.l) : Int))) rfl (fun c230_t => ?_) (fun c230_f => ?_)
    ·have c230_tp : (i : Int) < ((List.length x218_.l) : Int) := of_decide_eq_true c230_t
     refine C_skip (X_then (hK229_ _ _ ?_))
     clear hK229_
     refine C_seq (fun K231_ hK231_ => ?_)
     refine C_block ?_
     refine C_seq (fun K232_ hK232_ => ?_)
     refine C_reg ?_
     obtain ⟨x233_, hx234_, hm235_⟩ := elem_at x218_.l i (by omega)
     have hry_ := hps_ x233_ hm235_
     refine S_list (T_val (v := (Value.pointer (some ⟨(sb x218_.revs), so x218_.revs + (i * 2 + 0), none⟩))) (x_idxRS (v := x218_.revs) rfl hg224_ rfl Try.underlying80 z58 (by omega) (by omega) (by omega : _ = i) rfl) ?_)
     refine S_list (T_val (v := (Value.agg #[(Value.int .i64 x233_.main), (Value.int .i64 x233_.sub)])) (x_loadN (vs := [(Value.int .i64 x233_.main), (Value.int .i64 x233_.sub)]) rfl Try.underlying58 rfl z58 rfl (RC.cells (RS.rc hg224_) (Holds.ro_at H226_ 2 rfl) (i * 2 + 0) (fm_cells RV.len hx234_ (i := 0) rfl))) ?_)
     refine S_list (T_alloc z58 H226_ ?_)
     intro b236_ w237_ S239_ H238_
     have S240_ := Same.trans S227_ S239_
     refine S_list0 (T_storeN (vs := [(Value.int .i64 x233_.main), (Value.int .i64 x233_.sub)]) rfl rfl z58 rfl (by simp [Value.oneCell']) H238_ 0 rfl (Nat.le_of_ble_eq_true (by rfl)) ?_)
     intro w241_ S243_ H242_
     have S244_ := Same.trans S240_ S243_
     refine wpList_nil ?_
     refine (X_then (hK232_ _ _ ?_))
     clear hK232_
     refine C_seq (fun K245_ hK245_ => ?_)
     refine C_seq (fun K246_ hK246_ => ?_)
     refine C_reg ?_
     refine S_list (T_val (v := (Value.agg #[(Value.int .i64 at_), (Value.int .i64 0)])) (x_loadN (vs := [(Value.int .i64 at_), (Value.int .i64 0)]) rfl Try.underlying58 rfl z58 rfl (Rd.cells (Holds.rd H242_ 2 rfl) 0 rfl)) ?_)
     refine S_list (T_val (v := (Value.agg #[(Value.int .i64 x233_.main), (Value.int .i64 x233_.sub)])) (x_loadN (vs := [(Value.int .i64 x233_.main), (Value.int .i64 x233_.sub)]) rfl Try.underlying58 rfl z58 rfl (Rd.cells (Holds.rd H242_ 0 rfl) 0 rfl)) ?_)
     have H248_ := ((Holds.bring H242_ 3 rfl) :)
     replace H248_ : Holds w241_ (ro R :: cl b236_ 58 [(Value.int .i64 x233_.main), (Value.int .i64 x233_.sub)] :: sl 58 2 ov2 (List.length out2) (out2.flatMap RV.cells) :: cl b151_ 58 [(Value.int .i64 at_), (Value.int .i64 0)] :: cl kb 104 [(Value.slice ka kl kc), (Value.int .i64 m), (Value.int .i64 n), gv] :: F) := H248_
     refine S_list (T_call (al := [(Value.agg #[(Value.int .i64 at_), (Value.int .i64 0)]), (Value.agg #[(Value.int .i64 x233_.main), (Value.int .i64 x233_.sub)])]) (pre := []) rfl rfl cb68 (kGreater R at_ 0 x233_.main x233_.sub) H248_ ?_)
     rintro v247_ p252_ w249_ ⟨rfl, rfl⟩ S251_ H250_
     have S253_ := Same.trans S244_ S251_
     refine wpList_nil ?_
     refine (X_then (hK246_ _ _ ?_))
     clear hK246_
     refine C_cond (b := vLessB x233_.main x233_.sub at_ 0) rfl (fun c254_t => ?_) (fun c254_f => ?_)
     ·skip
      refine C_exit (X_thenX (X_blkHit ?_))
      refine (X_then (hK231_ _ _ ?_))
      clear hK231_
      refine C_reg ?_
      refine S_list (T_val (v := (Value.int .i64 ((i : Int) + 1))) (x_bin rfl rfl (ib_add (IntWalk.i64_in _ (by omega)))) ?_)
      refine S_list (T_val (v := (Value.int .i64 ((i : Int) + 1))) (x_move rfl) ?_)
      refine wpList_nil ?_
      refine (X_then ?_)
      have H255_ : Holds w249_ (sl 58 2 ov2 (List.length out2) (out2.flatMap RV.cells) :: cl b151_ 58 [(Value.int .i64 at_), (Value.int .i64 0)] :: ro R :: cl kb 104 [(Value.slice ka kl kc), (Value.int .i64 m), (Value.int .i64 n), gv] :: F) := (Holds.pkF H250_ [2, 2, 0, 1] 1 :)
      exact ⟨⟨i + 1, ov2, out2, la2⟩, ⟨_, congrArg (fun e => mkA 84 e []) (ch (ch (ch (ch (ch (ch (ch (ch (ch rfl rfl) rfl) rfl) rfl) rfl) rfl) rfl) rfl) (congrArg (Value.int .i64) ((by first | rfl | omega | (simp; done) | (simp; omega)) : (i : Int) + 1 = ((i + 1 : Nat) : Int)))), H255_, S253_, (by first | assumption | omega | exact rfl), (by rw [hq2, drop_at hx234_, List.cons_append, List.foldl_cons, show sStep at_ (out2, la2) x233_ = (out2, la2) from if_pos (by simpa using c254_t)]), (h02), (by first | omega | (simp; omega))⟩, by first | omega | (dsimp only; omega) | (simp; omega)⟩
     ·skip
      refine C_skip (X_then (hK245_ _ _ ?_))
      clear hK245_
      refine C_seq (fun K256_ hK256_ => ?_)
      refine C_seq (fun K257_ hK257_ => ?_)
      refine C_reg ?_
      refine S_list (T_val (v := (Value.pointer (some ⟨b236_, 0, none⟩))) (by kernel_rfl) ?_)
      refine S_list (T_val (v := (Value.int .i64 x233_.main)) (x_load1 rfl Try.underlying2 rfl ((Holds.rd H250_ 1 rfl) 0 (Value.int .i64 x233_.main) rfl)) ?_)
      refine S_list (T_val (v := (Value.int .i64 la2)) (x_move rfl) ?_)
      refine S_list (T_val (v := (Value.bool (decide (x233_.main = la2)))) (x_bin rfl rfl rfl) ?_)
      refine wpList_nil ?_
      refine (X_then (hK257_ _ _ ?_))
      clear hK257_
      refine C_cond (b := decide (x233_.main = la2)) rfl (fun c258_t => ?_) (fun c258_f => ?_)
      ·have c258_tp : x233_.main = la2 := of_decide_eq_true c258_t
       have ho0_ : 0 < out2.length := Nat.pos_of_ne_zero fun h_ => by have h2_ := h02 (List.eq_nil_of_length_eq_zero h_); omega
       refine C_seq (fun K259_ hK259_ => ?_)
       refine C_reg ?_
       refine S_list (T_val (v := ov2) (x_move rfl) ?_)
       refine S_list (T_val (v := ov2) (x_move rfl) ?_)
       refine S_list (T_val (v := (Value.int .i64 ((List.length out2) : Int))) (x_lenSl rfl H250_ 2 rfl Try.underlying80) ?_)
       refine S_list (T_val (v := (Value.int .i64 (((List.length out2) : Int) - 1))) (x_bin rfl rfl (ib_sub (IntWalk.i64_in _ (by omega)))) ?_)
       refine S_list (T_val (v := (Value.agg #[(Value.int .i64 x233_.main), (Value.int .i64 x233_.sub)])) (x_loadN (vs := [(Value.int .i64 x233_.main), (Value.int .i64 x233_.sub)]) rfl Try.underlying58 rfl z58 rfl (Rd.cells (Holds.rd H250_ 1 rfl) 0 rfl)) ?_)
       have hr260_ := Holds.sl_RSw H250_ 2 rfl
       refine S_list (T_val (v := (Value.pointer (some ⟨(sb ov2), so ov2 + (((((List.length out2) : Int) - 1).toNat) * 2 + 0), none⟩))) (x_idxSlR (v := ov2) rfl hr260_ rfl Try.underlying80 z58 (by omega) (by omega) (by omega : _ = (((List.length out2) : Int) - 1).toNat) rfl) ?_)
       refine S_list0 (T_storeSlN (vs := [(Value.int .i64 x233_.main), (Value.int .i64 x233_.sub)]) (k := ((((List.length out2) : Int) - 1).toNat) * 2 + 0) rfl rfl z58 rfl (by simp [Value.oneCell']) H250_ 2 rfl (by (rw [fm_len RV.len]; simp only [List.length_cons, List.length_nil]; omega)) (Nat.zero_lt_succ _) rfl rfl ?_)
       intro w261_ S263_ H262_
       have S264_ := Same.trans S253_ S263_
       have H265_ := Holds.resl H262_ 2 rfl (rset_last (y := x233_) (by omega) rfl : List.take (((((List.length out2) : Int) - 1).toNat) * 2 + 0) (out2.flatMap RV.cells) ++ [(Value.int .i64 x233_.main), (Value.int .i64 x233_.sub)] ++ List.drop (((((List.length out2) : Int) - 1).toNat) * 2 + 0 + List.length [(Value.int .i64 x233_.main), (Value.int .i64 x233_.sub)]) (out2.flatMap RV.cells) = (out2.dropLast ++ [x233_]).flatMap RV.cells) (by simp; omega : (List.length out2) = (List.length (out2.dropLast ++ [x233_])))
       refine wpList_nil ?_
       refine (X_then (hK259_ _ _ ?_))
       clear hK259_
       refine C_exit (X_thenX (X_blkHit ?_))
       refine (X_then (hK231_ _ _ ?_))
       clear hK231_
       refine C_reg ?_
       refine S_list (T_val (v := (Value.int .i64 ((i : Int) + 1))) (x_bin rfl rfl (ib_add (IntWalk.i64_in _ (by omega)))) ?_)
       refine S_list (T_val (v := (Value.int .i64 ((i : Int) + 1))) (x_move rfl) ?_)
       refine wpList_nil ?_
       refine (X_then ?_)
       have H266_ : Holds w261_ (sl 58 2 ov2 (List.length (out2.dropLast ++ [x233_])) ((out2.dropLast ++ [x233_]).flatMap RV.cells) :: cl b151_ 58 [(Value.int .i64 at_), (Value.int .i64 0)] :: ro R :: cl kb 104 [(Value.slice ka kl kc), (Value.int .i64 m), (Value.int .i64 n), gv] :: F) := (Holds.pkF H265_ [2, 2, 0, 1] 1 :)
       exact ⟨⟨i + 1, ov2, (out2.dropLast ++ [x233_]), la2⟩, ⟨_, congrArg (fun e => mkA 84 e []) (ch (ch (ch (ch (ch (ch (ch (ch (ch rfl rfl) rfl) rfl) rfl) rfl) rfl) rfl) rfl) (congrArg (Value.int .i64) ((by first | rfl | omega | (simp; done) | (simp; omega)) : (i : Int) + 1 = ((i + 1 : Nat) : Int)))), H266_, S264_, (by first | assumption | omega | exact rfl), (by rw [hq2, drop_at hx234_, List.cons_append, List.foldl_cons, show sStep at_ (out2, la2) x233_ = (out2.dropLast ++ [x233_], la2) from by unfold sStep; rw [if_neg (by simpa using c254_f), if_pos c258_tp]]), (fun h_ => absurd h_ (by simp)), (by first | omega | (simp; omega))⟩, by first | omega | (dsimp only; omega) | (simp; omega)⟩
      ·have c258_fp : ¬ (x233_.main = la2) := of_decide_eq_false c258_f
       refine C_skip (X_then (hK256_ _ _ ?_))
       clear hK256_
       refine C_seq (fun K267_ hK267_ => ?_)
       refine C_reg ?_
       refine S_list (T_val (v := ov2) (x_move rfl) ?_)
       refine S_list (T_val (v := (Value.agg #[(Value.int .i64 x233_.main), (Value.int .i64 x233_.sub)])) (x_loadN (vs := [(Value.int .i64 x233_.main), (Value.int .i64 x233_.sub)]) rfl Try.underlying58 rfl z58 rfl (Rd.cells (Holds.rd H250_ 1 rfl) 0 rfl)) ?_)
       refine S_list (T_new (obj := .cells #[(Value.int .i64 x233_.main), (Value.int .i64 x233_.sub)] 58) (f := fun b__ => .slice (some ⟨b__, 0, none⟩) 1 1) (A := fun b__ => cl b__ 58 [(Value.int .i64 x233_.main), (Value.int .i64 x233_.sub)]) (by kernel_rfl) (fun l h => h.alloc _ _) H250_ ?_)
       intro b268_ w269_ S271_ H270_
       have S272_ := Same.trans S253_ S271_
       refine S_list (T_append rfl rfl Try.underlying80 z58 rfl (by decide) H270_ 3 rfl (Holds.cl_src H270_ 0 rfl Try.underlying80 (by simp [Value.oneCell']) rfl) (by omega) ?_)
       intro v273_ w274_ S276_ H275_
       have S277_ := Same.trans S272_ S276_
       refine S_list (T_val (v := v273_) (x_assign rfl) ?_)
       refine wpList_nil ?_
       refine (X_then (hK267_ _ _ ?_))
       clear hK267_
       refine C_reg ?_
       refine S_list (T_val (v := (Value.pointer (some ⟨b236_, 0, none⟩))) (by kernel_rfl) ?_)
       refine S_list (T_val (v := (Value.int .i64 x233_.main)) (x_load1 rfl Try.underlying2 rfl ((Holds.rd H275_ 2 rfl) 0 (Value.int .i64 x233_.main) rfl)) ?_)
       refine S_list (T_val (v := (Value.int .i64 x233_.main)) (x_assign rfl) ?_)
       refine wpList_nil ?_
       refine (X_blkN (X_then (hK231_ _ _ ?_)))
       clear hK231_
       refine C_reg ?_
       refine S_list (T_val (v := (Value.int .i64 ((i : Int) + 1))) (x_bin rfl rfl (ib_add (IntWalk.i64_in _ (by omega)))) ?_)
       refine S_list (T_val (v := (Value.int .i64 ((i : Int) + 1))) (x_move rfl) ?_)
       refine wpList_nil ?_
       refine (X_then ?_)
       have H278_ := Holds.resl H275_ 3 rfl ((by first | rfl | (simp [RV.cells]; done) | (simp; omega)) : (out2.flatMap RV.cells) ++ [(Value.int .i64 x233_.main), (Value.int .i64 x233_.sub)] = (out2 ++ [x233_]).flatMap RV.cells) ((by first | rfl | (simp [RV.cells]; done) | (simp; omega)) : (List.length out2) + 1 = (List.length (out2 ++ [x233_])))
       have H279_ : Holds w274_ (sl 58 2 v273_ (List.length (out2 ++ [x233_])) ((out2 ++ [x233_]).flatMap RV.cells) :: cl b151_ 58 [(Value.int .i64 at_), (Value.int .i64 0)] :: ro R :: cl kb 104 [(Value.slice ka kl kc), (Value.int .i64 m), (Value.int .i64 n), gv] :: F) := (Holds.pkF H278_ [3, 3, 1, 2] 2 :)
       exact ⟨⟨i + 1, v273_, (out2 ++ [x233_]), x233_.main⟩, ⟨_, congrArg (fun e => mkA 84 e []) (ch (ch (ch (ch (ch (ch (ch (ch (ch rfl rfl) rfl) rfl) rfl) rfl) rfl) rfl) rfl) (congrArg (Value.int .i64) ((by first | rfl | omega | (simp; done) | (simp; omega)) : (i : Int) + 1 = ((i + 1 : Nat) : Int)))), H279_, S277_, (by first | assumption | omega | exact rfl), (by rw [hq2, drop_at hx234_, List.cons_append, List.foldl_cons, show sStep at_ (out2, la2) x233_ = (out2 ++ [x233_], x233_.main) from by unfold sStep; rw [if_neg (by simpa using c254_f), if_neg c258_fp]]), (fun h_ => absurd h_ (by simp)), (by first | omega | (simp; omega))⟩, by first | omega | (dsimp only; omega) | (simp; omega)⟩
    ·have c230_fp : ¬ ((i : Int) < ((List.length x218_.l) : Int)) := of_decide_eq_false c230_f
     refine C_exit (X_thenX (X_thenX (X_blkHit ?_)))
     refine (X_blkN (X_then (hK216_ _ _ ?_)))
     clear hK216_
     refine C_reg ?_
     refine S_list (T_val (v := (Value.int .i64 (k : Int))) (x_move rfl) ?_)
     refine S_list (T_val (v := (Value.int .i64 ((k : Int) + 1))) (x_bin rfl rfl (ib_add (IntWalk.i64_in _ (by omega)))) ?_)
     refine S_list (T_val (v := (Value.int .i64 ((k : Int) + 1))) (x_assign rfl) ?_)
     refine wpList_nil ?_
     refine (X_then ?_)
     exact ⟨⟨k + 1, ov2, out2, la2⟩, ⟨_, congrArg (fun e => mkA 84 e []) (ch (ch (ch (ch (ch (ch rfl rfl) rfl) rfl) (congrArg (Value.int .i64) ((by first | rfl | omega | (simp; done) | (simp; omega)) : (k : Int) + 1 = ((k + 1 : Nat) : Int)))) rfl) rfl), H226_, S227_, (by first | assumption | omega | exact rfl), (by rw [hq2, List.drop_of_length_le (by omega), List.nil_append]), (h02), (by omega)⟩, by first | omega | (dsimp only; omega) | (simp; omega)⟩
   ·have c215_fp : ¬ ((k : Int) < ((List.length N) : Int)) := of_decide_eq_false c215_f
    refine C_exit (X_thenX (X_thenX (X_blkHit ?_)))
    refine (X_then (hK208_ _ _ ?_))
    clear hK208_
    refine C_seq (fun K280_ hK280_ => ?_)
    refine C_reg ?_
    refine S_list (T_val (v := ov) (x_move rfl) ?_)
    refine S_list (T_val (v := ov) (x_assign rfl) ?_)
    refine wpList_nil ?_
    refine (X_then (hK280_ _ _ ?_))
    clear hK280_
    refine C_ret ?_
    refine R_any (v := ov) (run_results1 rfl rfl) ?_
    have H281_ := Holds.resl H211_ 0 rfl ((by rw [iSince_N, hq, List.drop_of_length_le (by omega)]; rfl) : out.flatMap RV.cells = (iSince (N.map GN.m) at_).flatMap RV.cells) ((by rw [iSince_N, hq, List.drop_of_length_le (by omega)]; rfl) : (List.length out) = (List.length (iSince (N.map GN.m) at_)))
    have H282_ : Holds w210_ (ro R :: sl 58 2 ov (List.length (iSince (N.map GN.m) at_)) ((iSince (N.map GN.m) at_).flatMap RV.cells) :: cl kb 104 [(Value.slice ka kl kc), (Value.int .i64 m), (Value.int .i64 n), gv] :: F) := (Holds.pkF H281_ [2, 0, 1] 1 :)
    exact ⟨_, _, rfl, ⟨ov, rfl, rfl⟩, S212_, H282_⟩

theorem kSinceW (R : HP) (kb : Nat) (ka : Option Addr) (kl kc : Nat) (m n : Int) (gv lv : Value) (N0 T : List GN) (ll : List RV) (at_ : Int) (hT : Tlk T lv ll) (hN : ∀ x ∈ N0, GOk R x) (hb1 : (N0 ++ T).length ≤ 100000) (hb2 : ∀ x ∈ N0 ++ T, x.l.length ≤ 100000) (hne : ∀ x, N0 ++ T = [x] → ¬ x.l.length = 0) (hn0 : 0 < (N0 ++ T).length) (hpos : ∀ x ∈ N0 ++ T, ∀ r ∈ x.l, 1 ≤ r.main) :
    Tri Try.prog 59 #[(Value.pointer (some ⟨kb, 0, none⟩)), (Value.pointer none), (Value.int .i64 at_)] R [sl 106 4 gv (List.length (N0 ++ T)) ((N0 ++ T).flatMap GN.cells), sl 58 2 lv (List.length ll) (ll.flatMap RV.cells), cl kb 104 [(Value.slice ka kl kc), (Value.int .i64 m), (Value.int .i64 n), gv]] (fun v__ post__ => ∃ (v' : Value), v__ = v' ∧ post__ = [sl 106 4 gv (List.length (N0 ++ T)) ((N0 ++ T).flatMap GN.cells), sl 58 2 lv (List.length ll) (ll.flatMap RV.cells), sl 58 2 v' (List.length (iSince ((N0 ++ T).map GN.m) at_)) ((iSince ((N0 ++ T).map GN.m) at_).flatMap RV.cells), cl kb 104 [(Value.slice ka kl kc), (Value.int .i64 m), (Value.int .i64 n), gv]]) := by
  refine (Tri.lend (fun h0 a0 d0 => Tri.lend (fun h1 a1 d1 => kSinceR (un (un R h0) h1) kb ka kl kc m n gv (N0 ++ T) at_ ((sl_RS a0 (Sub.un_right d0)).mono (Sub.un_left _ _)) (GOk_app hN (Sub.trans' (Sub.un_left R h0) (Sub.un_left _ h1)) hT (sl_RS a1 (Sub.un_right d1))) hb1 hb2 hne hn0 hpos))).mono fun v post h => ?_
  obtain ⟨p1, rfl, p2, rfl, h⟩ := h
  obtain ⟨v', rfl, rfl⟩ := h
  exact ⟨_, rfl, rfl⟩
end Go.Proofs.Ytiblemgccgbhoaa
