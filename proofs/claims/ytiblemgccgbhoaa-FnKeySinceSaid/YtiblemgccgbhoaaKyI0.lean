/- Two lists of revisions. -/
import Derived.Test.YtiblemgccgbhoaaKyH0
set_option linter.unusedVariables false
set_option linter.unusedSimpArgs false
namespace Go.Proofs.Ytiblemgccgbhoaa
open Go Go.RowKit Gw

def GN.k (x : GN) : Int × List RV := (x.ver, x.l)
def GM.k (x : GM) : Int × List RV := (x.ver, x.l)
theorem GN.mk_ (N : List GN) : (N.map GN.m).map GM.k = N.map GN.k := by
  rw [List.map_map]; rfl
theorem map_ne {α β : Type} {f : α → β} {l m : List α} {k : Nat} {x y : α} (h1 : l[k]? = some x) (h2 : m[k]? = some y) (h : f x ≠ f y) : l.map f ≠ m.map f := fun e => by
  have e2 := congrArg (·[k]?) e
  simp only [List.getElem?_map, h1, h2, Option.map_some] at e2
  exact h (Option.some.inj e2)
theorem map_nel {α β : Type} {f : α → β} {l m : List α} (h : ¬ (l.length : Int) = m.length) : l.map f ≠ m.map f := fun e => by
  have e2 := congrArg List.length e
  rw [List.length_map, List.length_map] at e2
  exact h (by rw [e2])
theorem map_snoc {α β : Type} {f : α → β} {l m : List α} {k : Nat} {x y : α} (h : (l.take k).map f = (m.take k).map f) (h1 : l[k]? = some x) (h2 : m[k]? = some y) (hf : f x = f y) : (l.take (k + 1)).map f = (m.take (k + 1)).map f := by
  rw [List.take_add_one, List.take_add_one, h1, h2, List.map_append, List.map_append, h]
  simp [hf]
theorem map_all {α β : Type} {f : α → β} {l m : List α} {k : Nat} (h : (l.take k).map f = (m.take k).map f) (h1 : l.length ≤ k) (h2 : l.length = m.length) : l.map f = m.map f := by
  rw [List.take_of_length_le h1, List.take_of_length_le (by omega)] at h; exact h
theorem rv_ne {x y : RV} (h : ¬ (x.main = y.main ∧ x.sub = y.sub)) : x ≠ y := fun e => h (by rw [e]; exact ⟨rfl, rfl⟩)
theorem rv_eq {x y : RV} (h : x.main = y.main ∧ x.sub = y.sub) : x = y := by
  cases x; cases y; cases h with | intro h1 h2 => simp only at h1 h2; rw [h1, h2]
theorem gk_ne {x y : GN} (h : ¬ (x.ver = y.ver ∧ x.l = y.l)) : x.k ≠ y.k := fun e => h (Prod.mk.inj e)
theorem gk_eq {x y : GN} (h1 : x.ver = y.ver) (h2 : x.l = y.l) : x.k = y.k := by unfold GN.k; rw [h1, h2]


set_option maxHeartbeats 1000000 in
theorem kSameRevs (R : HP) (v1 v2 : Value) (K1 K2 : List RV) (h1 : RS R 2 v1 (List.length K1) (K1.flatMap RV.cells)) (h2 : RS R 2 v2 (List.length K2) (K2.flatMap RV.cells)) (hb1 : K1.length ≤ 100000) :
    Tri Try.prog 11 #[v1, v2] R [] (fun v__ post__ => (v__ = (Value.bool true) ∧ post__ = [] ∧ (K1 = K2)) ∨ (v__ = (Value.bool false) ∧ post__ = [] ∧ (K1 ≠ K2))) := by
 refine Tri.into (n := 26) (al := [v1, v2]) Try.func11 rfl Try.ntmps11 rfl rfl fun w F H => ?_
 replace H : Holds w (ro R :: F) := H
 refine C_seq (fun K1_ hK1_ => ?_)
 refine C_reg ?_
 refine S_list (T_val (v := (Value.bool false)) (x_assign rfl) ?_)
 refine wpList_nil ?_
 refine (X_then (hK1_ _ _ ?_))
 clear hK1_
 refine C_seq (fun K2_ hK2_ => ?_)
 refine C_seq (fun K3_ hK3_ => ?_)
 refine C_reg ?_
 refine S_list (T_val (v := v1) (x_move rfl) ?_)
 refine S_list (T_val (v := (Value.int .i64 ((List.length K1) : Int))) (x_lenRS rfl h1 Try.underlying41) ?_)
 refine S_list (T_val (v := v2) (x_move rfl) ?_)
 refine S_list (T_val (v := (Value.int .i64 ((List.length K2) : Int))) (x_lenRS rfl h2 Try.underlying41) ?_)
 refine S_list (T_val (v := (Value.bool (decide (((List.length K1) : Int) ≠ ((List.length K2) : Int))))) (x_bin rfl rfl rfl) ?_)
 refine wpList_nil ?_
 refine (X_then (hK3_ _ _ ?_))
 clear hK3_
 refine C_cond (b := decide (((List.length K1) : Int) ≠ ((List.length K2) : Int))) rfl (fun c4_t => ?_) (fun c4_f => ?_)
 ·have c4_tp : ((List.length K1) : Int) ≠ ((List.length K2) : Int) := of_decide_eq_true c4_t
  refine C_seq (fun K5_ hK5_ => ?_)
  refine C_reg ?_
  refine S_list (T_val (v := (Value.bool false)) (x_assign rfl) ?_)
  refine wpList_nil ?_
  refine (X_then (hK5_ _ _ ?_))
  clear hK5_
  refine C_ret (X_thenR ?_)
  refine R_any (v := (Value.bool false)) (run_results1 rfl rfl) ?_
  exact ⟨_, _, rfl, (.inr ⟨rfl, rfl, (fun e_ => map_nel (f := id) (l := K1) (m := K2) (by first | (simp_all; done) | (simp_all; omega)) (by rw [e_]))⟩), (Same.refl w), H⟩
 ·have c4_fp : ¬ (((List.length K1) : Int) ≠ ((List.length K2) : Int)) := of_decide_eq_false c4_f
  refine C_skip (X_then (hK2_ _ _ ?_))
  clear hK2_
  refine C_seq (fun K6_ hK6_ => ?_)
  refine C_seq (fun K7_ hK7_ => ?_)
  refine C_reg ?_
  refine S_list (T_val (v := v1) (x_move rfl) ?_)
  refine S_list (T_val (v := (Value.int .i64 ((List.length K1) : Int))) (x_lenRS rfl h1 Try.underlying41) ?_)
  refine S_list (T_val (v := (Value.int .i64 0)) (x_move rfl) ?_)
  refine wpList_nil ?_
  refine (X_then (hK7_ _ _ ?_))
  clear hK7_
  refine C_block ?_
  refine C_loop (γ := Nat × Bool) (fun x__ a__ w1__ => match x__ with | ⟨k, t4_v⟩ => ∃ h : Env, a__ = mkA 26 (upd (upd (upd (upd (upd h 0 v1) 1 v2) 4 (Value.bool t4_v)) 12 (Value.int .i64 ((List.length K1) : Int))) 13 (Value.int .i64 (k : Int))) [] ∧ Holds w1__ (ro R :: F) ∧ Same w w1__ ∧ (k ≤ K1.length) ∧ (K1.length = K2.length) ∧ ((K1.take k).map id = (K2.take k).map id)) (fun x__ => match x__ with | ⟨k, t4_v⟩ => K1.length - k) (⟨0, false⟩) ⟨_, congrArg (fun e => mkA 26 e []) (ch (ch (ch (ch (ch rfl rfl) rfl) rfl) rfl) (congrArg (Value.int .i64) ((by first | rfl | omega | (simp; done) | (simp; omega)) : 0 = (0 : Int)))), H, (Same.refl w), (by first | assumption | omega | exact rfl), (by first | assumption | omega | exact rfl), (rfl)⟩ ?_
  rintro ⟨k, t4_v⟩ _ w8_ ⟨h, rfl, H9_, S10_, hk, hln, hq⟩
  refine C_seq (fun K11_ hK11_ => ?_)
  refine C_reg ?_
  refine S_list (T_val (v := (Value.bool (decide ((k : Int) < ((List.length K1) : Int))))) (x_bin rfl rfl rfl) ?_)
  refine wpList_nil ?_
  refine (X_then (hK11_ _ _ ?_))
  clear hK11_
  refine C_seq (fun K12_ hK12_ => ?_)
  refine C_cond (b := decide ((k : Int) < ((List.length K1) : Int))) rfl (fun c13_t => ?_) (fun c13_f => ?_)
  ·have c13_tp : (k : Int) < ((List.length K1) : Int) := of_decide_eq_true c13_t
   refine C_skip (X_then (hK12_ _ _ ?_))
   clear hK12_
   refine C_seq (fun K14_ hK14_ => ?_)
   refine C_block ?_
   refine C_seq (fun K15_ hK15_ => ?_)
   refine C_reg ?_
   refine S_list (T_val (v := (Value.int .i64 (k : Int))) (x_move rfl) ?_)
   refine S_list (T_val (v := (Value.int .i64 (k : Int))) (x_assign rfl) ?_)
   refine wpList_nil ?_
   refine (X_then (hK15_ _ _ ?_))
   clear hK15_
   refine C_seq (fun K16_ hK16_ => ?_)
   refine A_start (S := fun w => Sub R (hp w)) (N := 9) foll rfl rfl ?_
   have H17_ := Holds.drew_ H9_
   have hq18_ := ((Holds.ro_at H17_ 0 rfl))
   refine A_tk 0 (v := v1) rfl (by kernel_rfl) (fun w hS => x_move rfl) hq18_ ?_
   refine A_tk 1 (v := (Value.int .i64 (k : Int))) rfl (by kernel_rfl) (fun w hS => x_move rfl) hq18_ ?_
   obtain ⟨x19_, hx20_, hm21_⟩ := elem_at K1 k (by omega)
   refine A_tk 2 (v := (Value.pointer (some ⟨(sb v1), so v1 + (k * 2 + 0), none⟩))) rfl (by kernel_rfl) (fun w hS => x_idxRS (v := v1) rfl h1 rfl Try.underlying41 z31 (by omega) (by omega) (by omega : _ = k) rfl) hq18_ ?_
   refine A_tk 3 (v := (Value.agg #[(Value.int .i64 x19_.main), (Value.int .i64 x19_.sub)])) rfl (by kernel_rfl) (fun w hS => x_loadN (vs := [(Value.int .i64 x19_.main), (Value.int .i64 x19_.sub)]) rfl Try.underlying31 rfl z31 rfl (RC.cells (RS.rc h1) hS (k * 2 + 0) (fm_cells RV.len hx20_ (i := 0) rfl))) hq18_ ?_
   refine A_tk 4 (v := v2) rfl (by kernel_rfl) (fun w hS => x_move rfl) hq18_ ?_
   refine A_tk 5 (v := (Value.int .i64 (k : Int))) rfl (by kernel_rfl) (fun w hS => x_move rfl) hq18_ ?_
   obtain ⟨x22_, hx23_, hm24_⟩ := elem_at K2 k (by omega)
   refine A_tk 6 (v := (Value.pointer (some ⟨(sb v2), so v2 + (k * 2 + 0), none⟩))) rfl (by kernel_rfl) (fun w hS => x_idxRS (v := v2) rfl h2 rfl Try.underlying41 z31 (by omega) (by omega) (by omega : _ = k) rfl) hq18_ ?_
   refine A_tk 7 (v := (Value.agg #[(Value.int .i64 x22_.main), (Value.int .i64 x22_.sub)])) rfl (by kernel_rfl) (fun w hS => x_loadN (vs := [(Value.int .i64 x22_.main), (Value.int .i64 x22_.sub)]) rfl Try.underlying31 rfl z31 rfl (RC.cells (RS.rc h2) hS (k * 2 + 0) (fm_cells RV.len hx23_ (i := 0) rfl))) hq18_ ?_
   refine A_tk 8 (v := (Value.bool (!((decide (x19_.main = x22_.main)) && ((decide (x19_.sub = x22_.sub)) && (true)))))) rfl (by kernel_rfl) (fun w hS => x_neqS rfl rfl (by kernel_rfl) (eq_struct Try.underlying31 (by kernel_rfl) (eqf_cons rfl (run_part1 Try.underlying2 rfl rfl) (run_part1 Try.underlying2 rfl rfl) (eq_int Try.underlying2) (eqf_cons rfl (run_part1 Try.underlying2 rfl rfl) (run_part1 Try.underlying2 rfl rfl) (eq_int Try.underlying2) (eqf_nil))))) hq18_ ?_
   refine A_done (by kernel_rfl) ?_
   refine (X_then (hK16_ _ _ ?_))
   clear hK16_
   refine C_cond (b := !((decide (x19_.main = x22_.main)) && ((decide (x19_.sub = x22_.sub)) && (true)))) rfl (fun c25_t => ?_) (fun c25_f => ?_)
   ·skip
    refine C_seq (fun K26_ hK26_ => ?_)
    refine C_reg ?_
    refine S_list (T_val (v := (Value.bool false)) (x_assign rfl) ?_)
    refine wpList_nil ?_
    refine (X_then (hK26_ _ _ ?_))
    clear hK26_
    refine C_ret (X_blkR (X_thenR (X_thenR (X_blkR (X_thenR ?_)))))
    refine R_any (v := (Value.bool false)) (run_results1 rfl rfl) ?_
    exact ⟨_, _, rfl, (.inr ⟨rfl, rfl, (fun e_ => map_ne (f := id) hx20_ hx23_ (rv_ne (by first | (simp_all; done) | (simp_all; omega))) (by rw [e_]))⟩), (Same.trans S10_ (Same.drew _)), H17_⟩
   ·skip
    refine C_skip (X_blkN (X_then (hK14_ _ _ ?_)))
    clear hK14_
    refine C_reg ?_
    refine S_list (T_val (v := (Value.int .i64 ((k : Int) + 1))) (x_bin rfl rfl (ib_add (IntWalk.i64_in _ (by omega)))) ?_)
    refine S_list (T_val (v := (Value.int .i64 ((k : Int) + 1))) (x_move rfl) ?_)
    refine wpList_nil ?_
    refine (X_then ?_)
    exact ⟨⟨k + 1, t4_v⟩, ⟨_, congrArg (fun e => mkA 26 e []) (ch (ch (ch (ch (ch rfl rfl) rfl) rfl) rfl) (congrArg (Value.int .i64) ((by first | rfl | omega | (simp; done) | (simp; omega)) : (k : Int) + 1 = ((k + 1 : Nat) : Int)))), H17_, (Same.trans S10_ (Same.drew _)), (by first | assumption | omega | exact rfl), (by first | assumption | omega | exact rfl), (map_snoc hq hx20_ hx23_ (rv_eq (by first | (simp_all; done) | (simp_all; omega))))⟩, by first | omega | (dsimp only; omega) | (simp; omega)⟩
  ·have c13_fp : ¬ ((k : Int) < ((List.length K1) : Int)) := of_decide_eq_false c13_f
   refine C_exit (X_thenX (X_thenX (X_blkHit ?_)))
   refine (X_then (hK6_ _ _ ?_))
   clear hK6_
   refine C_seq (fun K27_ hK27_ => ?_)
   refine C_reg ?_
   refine S_list (T_val (v := (Value.bool true)) (x_assign rfl) ?_)
   refine wpList_nil ?_
   refine (X_then (hK27_ _ _ ?_))
   clear hK27_
   refine C_ret ?_
   refine R_any (v := (Value.bool true)) (run_results1 rfl rfl) ?_
   exact ⟨_, _, rfl, (.inl ⟨rfl, rfl, (by have e_ := map_all (f := id) hq (by omega) (by omega); simpa using e_)⟩), S10_, H9_⟩
end Go.Proofs.Ytiblemgccgbhoaa
