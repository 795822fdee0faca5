/- Deletes are counted. -/
import Derived.Test.YtlnihndjepjagaaCkC0
set_option linter.unusedVariables false
set_option linter.unusedSimpArgs false
namespace Go.Proofs.Ytlnihndjepjagaa
open Go Go.RowKit Gw

theorem ones_app {xs ys : List Value} (h1 : xs.all (fun u => u.oneCell') = true) (h2 : ys.all (fun u => u.oneCell') = true) : (xs ++ ys).all (fun u => u.oneCell') = true := by rw [List.all_append, h1, h2]; rfl
theorem ones_of {xs : List Value} (h1 : xs.all (fun u => u.oneCell') = true) : ∀ u ∈ xs, u.oneCell' = true := List.all_eq_true.1 h1

set_option maxHeartbeats 2000000 in
theorem ckDeletes_step (R : HP) (v : Value) (L : List RT) (n__ : Nat) (hL : RS R 21 v (List.length L) (L.flatMap RT.cells)) (hR : RAts R L) (hl : L.length ≤ 1000000000000000) (hm : cntL 3 L ≤ 1000) (hn__ : (lsz L) ≤ n__) (ih : ∀ (R : HP) (v : Value) (L : List RT) (hL : RS R 21 v (List.length L) (L.flatMap RT.cells)) (hR : RAts R L) (hl : L.length ≤ 1000000000000000) (hm : cntL 3 L ≤ 1000) (hms : (lsz L) < n__), Tri Try.prog 13 #[v] R [] (fun v__ post__ => ∃ (u' : Value) (m' : Nat) (xs' : List Value), v__ = u' ∧ post__ = [sl 44 5 u' m' xs'] ∧ (m' = cntL 3 L) ∧ (xs'.all (fun u => u.oneCell') = true))) :
    Tri Try.prog 13 #[v] R [] (fun v__ post__ => ∃ (u' : Value) (m' : Nat) (xs' : List Value), v__ = u' ∧ post__ = [sl 44 5 u' m' xs'] ∧ (m' = cntL 3 L) ∧ (xs'.all (fun u => u.oneCell') = true)) := by
 refine Tri.into (n := 34) (al := [v]) Try.func13 rfl Try.ntmps13 rfl rfl fun w F H => ?_
 refine C_seq (fun K1_ hK1_ => ?_)
 refine C_reg ?_
 refine S_list (T_val (v := (Value.slice none 0 0)) (x_assign rfl) ?_)
 refine wpList_nil ?_
 refine (X_then (hK1_ _ _ ?_))
 clear hK1_
 refine C_seq (fun K2_ hK2_ => ?_)
 refine C_reg ?_
 refine S_list (T_val (v := (Value.slice none 0 0)) (x_assign rfl) ?_)
 refine wpList_nil ?_
 refine (X_then (hK2_ _ _ ?_))
 clear hK2_
 refine C_seq (fun K3_ hK3_ => ?_)
 refine C_seq (fun K4_ hK4_ => ?_)
 refine C_reg ?_
 refine S_list (T_val (v := v) (x_move rfl) ?_)
 refine S_list (T_val (v := (Value.int .i64 ((List.length L) : Int))) (x_lenRS rfl hL Try.underlying23) ?_)
 refine S_list (T_val (v := (Value.int .i64 0)) (x_move rfl) ?_)
 refine wpList_nil ?_
 refine (X_then (hK4_ _ _ ?_))
 clear hK4_
 refine C_block ?_
 have H5_ : Holds w (sl 44 5 (Value.slice none 0 0) 0 ([] : List Value) :: ro R :: F) := Holds.add_nil H 44 5
 refine C_loop (γ := Nat × Nat × Value × (List Value)) (fun x__ a__ w1__ => match x__ with | ⟨k, m1, u1, xs1⟩ => ∃ h : Env, a__ = mkA 34 (upd (upd (upd (upd (upd h 2 (Value.slice none 0 0)) 3 u1) 6 v) 7 (Value.int .i64 ((List.length L) : Int))) 8 (Value.int .i64 (k : Int))) [] ∧ Holds w1__ (sl 44 5 u1 m1 xs1 :: ro R :: F) ∧ Same w w1__ ∧ (k ≤ L.length) ∧ (m1 + cntL 3 (L.drop k) = cntL 3 L) ∧ (xs1.all (fun u => u.oneCell') = true)) (fun x__ => match x__ with | ⟨k, m1, u1, xs1⟩ => L.length - k) (⟨0, 0, (Value.slice none 0 0), ([] : List Value)⟩) ⟨_, congrArg (fun e => mkA 34 e []) (ch (ch (ch (ch (ch rfl rfl) (rfl : (Value.slice none 0 0) = ((Value.slice none 0 0)))) rfl) rfl) (congrArg (Value.int .i64) ((by first | rfl | omega | (simp; done) | (simp; omega)) : 0 = (0 : Int)))), H5_, (Same.refl w), (by first | assumption | omega | exact rfl), (by rw [List.drop_zero]; omega), (rfl)⟩ ?_
 rintro ⟨k, m1, u1, xs1⟩ _ w6_ ⟨h, rfl, H7_, S8_, hk, hin, hon⟩
 refine C_seq (fun K9_ hK9_ => ?_)
 refine C_reg ?_
 refine S_list (T_val (v := (Value.bool (decide ((k : Int) < ((List.length L) : Int))))) (x_bin rfl rfl rfl) ?_)
 refine wpList_nil ?_
 refine (X_then (hK9_ _ _ ?_))
 clear hK9_
 refine C_seq (fun K10_ hK10_ => ?_)
 refine C_cond (b := decide ((k : Int) < ((List.length L) : Int))) rfl (fun c11_t => ?_) (fun c11_f => ?_)
 ·have c11_tp : (k : Int) < ((List.length L) : Int) := of_decide_eq_true c11_t
  refine C_skip (X_then (hK10_ _ _ ?_))
  clear hK10_
  refine C_seq (fun K12_ hK12_ => ?_)
  refine C_block ?_
  refine C_seq (fun K13_ hK13_ => ?_)
  refine C_reg ?_
  obtain ⟨x14_, hx15_, hm16_⟩ := elem_at L k (by omega)
  have hra17_ := hR x14_ hm16_
  have := hra17_.b
  have := RT.sz_mem hm16_
  have := RT.sz_tt x14_
  have := RT.sz_ee x14_
  have hcs_ := cnt_step (c := 3) hx15_
  have hco_ := cnt_or 3 (by decide) x14_
  refine S_list (T_val (v := (Value.pointer (some ⟨(sb v), so v + (k * 21 + 0), none⟩))) (x_idxRS (v := v) rfl hL rfl Try.underlying23 z25 (by omega) (by omega) (by omega : _ = k) rfl) ?_)
  refine S_list (T_val (v := (Value.agg #[(Value.int .i64 x14_.q.kind), (Value.string x14_.q.key), (Value.string x14_.q.end_), (Value.string x14_.q.value), (Value.int .i64 x14_.q.lease), (Value.int .i64 x14_.q.rev), (Value.int .i64 x14_.q.limit), (Value.int .i64 x14_.q.sortOrder), (Value.int .i64 x14_.q.sortTarget), (Value.int .i64 x14_.q.minMod), (Value.int .i64 x14_.q.maxMod), (Value.int .i64 x14_.q.minCreate), (Value.int .i64 x14_.q.maxCreate), (Value.bool x14_.q.keysOnly), (Value.bool x14_.q.countOnly), (Value.bool x14_.q.prev), (Value.bool x14_.q.ignoreValue), (Value.bool x14_.q.ignoreLease), x14_.q.cmps, x14_.q.then_, x14_.q.else_])) (x_loadN (vs := [(Value.int .i64 x14_.q.kind), (Value.string x14_.q.key), (Value.string x14_.q.end_), (Value.string x14_.q.value), (Value.int .i64 x14_.q.lease), (Value.int .i64 x14_.q.rev), (Value.int .i64 x14_.q.limit), (Value.int .i64 x14_.q.sortOrder), (Value.int .i64 x14_.q.sortTarget), (Value.int .i64 x14_.q.minMod), (Value.int .i64 x14_.q.maxMod), (Value.int .i64 x14_.q.minCreate), (Value.int .i64 x14_.q.maxCreate), (Value.bool x14_.q.keysOnly), (Value.bool x14_.q.countOnly), (Value.bool x14_.q.prev), (Value.bool x14_.q.ignoreValue), (Value.bool x14_.q.ignoreLease), x14_.q.cmps, x14_.q.then_, x14_.q.else_]) rfl Try.underlying25 rfl z25 rfl (RC.cells (RS.rc hL) (Holds.ro_at H7_ 1 rfl) (k * 21 + 0) (fm_cells RT.len hx15_ (i := 0) rfl))) ?_)
  refine S_list (T_alloc z25 H7_ ?_)
  intro b18_ w19_ S21_ H20_
  have S22_ := Same.trans S8_ S21_
  refine S_list0 (T_storeN (vs := [(Value.int .i64 x14_.q.kind), (Value.string x14_.q.key), (Value.string x14_.q.end_), (Value.string x14_.q.value), (Value.int .i64 x14_.q.lease), (Value.int .i64 x14_.q.rev), (Value.int .i64 x14_.q.limit), (Value.int .i64 x14_.q.sortOrder), (Value.int .i64 x14_.q.sortTarget), (Value.int .i64 x14_.q.minMod), (Value.int .i64 x14_.q.maxMod), (Value.int .i64 x14_.q.minCreate), (Value.int .i64 x14_.q.maxCreate), (Value.bool x14_.q.keysOnly), (Value.bool x14_.q.countOnly), (Value.bool x14_.q.prev), (Value.bool x14_.q.ignoreValue), (Value.bool x14_.q.ignoreLease), x14_.q.cmps, x14_.q.then_, x14_.q.else_]) rfl rfl z25 rfl (List.forall_mem_cons.2 ⟨rfl, (List.forall_mem_cons.2 ⟨rfl, (List.forall_mem_cons.2 ⟨rfl, (List.forall_mem_cons.2 ⟨rfl, (List.forall_mem_cons.2 ⟨rfl, (List.forall_mem_cons.2 ⟨rfl, (List.forall_mem_cons.2 ⟨rfl, (List.forall_mem_cons.2 ⟨rfl, (List.forall_mem_cons.2 ⟨rfl, (List.forall_mem_cons.2 ⟨rfl, (List.forall_mem_cons.2 ⟨rfl, (List.forall_mem_cons.2 ⟨rfl, (List.forall_mem_cons.2 ⟨rfl, (List.forall_mem_cons.2 ⟨rfl, (List.forall_mem_cons.2 ⟨rfl, (List.forall_mem_cons.2 ⟨rfl, (List.forall_mem_cons.2 ⟨rfl, (List.forall_mem_cons.2 ⟨rfl, (List.forall_mem_cons.2 ⟨(RS.one (hra17_.c)), (List.forall_mem_cons.2 ⟨(RS.one (hra17_.t)), (List.forall_mem_cons.2 ⟨(RS.one (hra17_.e)), (fun _ h__ => by cases h__)⟩)⟩)⟩)⟩)⟩)⟩)⟩)⟩)⟩)⟩)⟩)⟩)⟩)⟩)⟩)⟩)⟩)⟩)⟩)⟩)⟩) H20_ 0 rfl (Nat.le_of_ble_eq_true (by rfl)) ?_)
  intro w23_ S25_ H24_
  replace H24_ : Holds w23_ (cl b18_ 25 [(Value.int .i64 x14_.q.kind), (Value.string x14_.q.key), (Value.string x14_.q.end_), (Value.string x14_.q.value), (Value.int .i64 x14_.q.lease), (Value.int .i64 x14_.q.rev), (Value.int .i64 x14_.q.limit), (Value.int .i64 x14_.q.sortOrder), (Value.int .i64 x14_.q.sortTarget), (Value.int .i64 x14_.q.minMod), (Value.int .i64 x14_.q.maxMod), (Value.int .i64 x14_.q.minCreate), (Value.int .i64 x14_.q.maxCreate), (Value.bool x14_.q.keysOnly), (Value.bool x14_.q.countOnly), (Value.bool x14_.q.prev), (Value.bool x14_.q.ignoreValue), (Value.bool x14_.q.ignoreLease), x14_.q.cmps, x14_.q.then_, x14_.q.else_] :: sl 44 5 u1 m1 xs1 :: ro R :: F) := H24_
  have S26_ := Same.trans S22_ S25_
  refine wpList_nil ?_
  refine (X_then (hK13_ _ _ ?_))
  clear hK13_
  refine C_seq (fun K27_ hK27_ => ?_)
  refine C_seq (fun K28_ hK28_ => ?_)
  refine C_reg ?_
  refine S_list (T_val (v := (Value.pointer (some ⟨b18_, 0, none⟩))) (by kernel_rfl) ?_)
  refine S_list (T_val (v := (Value.int .i64 x14_.q.kind)) (x_load1 rfl Try.underlying3 rfl ((Holds.rd H24_ 0 rfl) 0 (Value.int .i64 x14_.q.kind) rfl)) ?_)
  refine S_list (T_val (v := (Value.bool (decide (x14_.q.kind = 3)))) (x_bin rfl rfl rfl) ?_)
  refine wpList_nil ?_
  refine (X_then (hK28_ _ _ ?_))
  clear hK28_
  refine C_cond (b := decide (x14_.q.kind = 3)) rfl (fun c29_t => ?_) (fun c29_f => ?_)
  ·have c29_tp : x14_.q.kind = 3 := of_decide_eq_true c29_t
   refine C_reg ?_
   refine S_list (T_val (v := u1) (x_move rfl) ?_)
   refine S_list (T_val (v := (Value.agg #[(Value.int .i64 x14_.q.kind), (Value.string x14_.q.key), (Value.string x14_.q.end_), (Value.string x14_.q.value), (Value.int .i64 x14_.q.lease), (Value.int .i64 x14_.q.rev), (Value.int .i64 x14_.q.limit), (Value.int .i64 x14_.q.sortOrder), (Value.int .i64 x14_.q.sortTarget), (Value.int .i64 x14_.q.minMod), (Value.int .i64 x14_.q.maxMod), (Value.int .i64 x14_.q.minCreate), (Value.int .i64 x14_.q.maxCreate), (Value.bool x14_.q.keysOnly), (Value.bool x14_.q.countOnly), (Value.bool x14_.q.prev), (Value.bool x14_.q.ignoreValue), (Value.bool x14_.q.ignoreLease), x14_.q.cmps, x14_.q.then_, x14_.q.else_])) (x_loadN (vs := [(Value.int .i64 x14_.q.kind), (Value.string x14_.q.key), (Value.string x14_.q.end_), (Value.string x14_.q.value), (Value.int .i64 x14_.q.lease), (Value.int .i64 x14_.q.rev), (Value.int .i64 x14_.q.limit), (Value.int .i64 x14_.q.sortOrder), (Value.int .i64 x14_.q.sortTarget), (Value.int .i64 x14_.q.minMod), (Value.int .i64 x14_.q.maxMod), (Value.int .i64 x14_.q.minCreate), (Value.int .i64 x14_.q.maxCreate), (Value.bool x14_.q.keysOnly), (Value.bool x14_.q.countOnly), (Value.bool x14_.q.prev), (Value.bool x14_.q.ignoreValue), (Value.bool x14_.q.ignoreLease), x14_.q.cmps, x14_.q.then_, x14_.q.else_]) rfl Try.underlying25 rfl z25 rfl (Rd.cells (Holds.rd H24_ 0 rfl) 0 rfl)) ?_)
   refine S_list (T_callW (al := [(Value.agg #[(Value.int .i64 x14_.q.kind), (Value.string x14_.q.key), (Value.string x14_.q.end_), (Value.string x14_.q.value), (Value.int .i64 x14_.q.lease), (Value.int .i64 x14_.q.rev), (Value.int .i64 x14_.q.limit), (Value.int .i64 x14_.q.sortOrder), (Value.int .i64 x14_.q.sortTarget), (Value.int .i64 x14_.q.minMod), (Value.int .i64 x14_.q.maxMod), (Value.int .i64 x14_.q.minCreate), (Value.int .i64 x14_.q.maxCreate), (Value.bool x14_.q.keysOnly), (Value.bool x14_.q.countOnly), (Value.bool x14_.q.prev), (Value.bool x14_.q.ignoreValue), (Value.bool x14_.q.ignoreLease), x14_.q.cmps, x14_.q.then_, x14_.q.else_])]) rfl rfl cb39 (Calls.into (n := 12) (al := [(Value.agg #[(Value.int .i64 x14_.q.kind), (Value.string x14_.q.key), (Value.string x14_.q.end_), (Value.string x14_.q.value), (Value.int .i64 x14_.q.lease), (Value.int .i64 x14_.q.rev), (Value.int .i64 x14_.q.limit), (Value.int .i64 x14_.q.sortOrder), (Value.int .i64 x14_.q.sortTarget), (Value.int .i64 x14_.q.minMod), (Value.int .i64 x14_.q.maxMod), (Value.int .i64 x14_.q.minCreate), (Value.int .i64 x14_.q.maxCreate), (Value.bool x14_.q.keysOnly), (Value.bool x14_.q.countOnly), (Value.bool x14_.q.prev), (Value.bool x14_.q.ignoreValue), (Value.bool x14_.q.ignoreLease), x14_.q.cmps, x14_.q.then_, x14_.q.else_])]) Try.func39 rfl Try.ntmps39 rfl rfl ?_))
   refine C_seq (fun K30_ hK30_ => ?_)
   refine C_reg ?_
   refine S_list (T_box (v := (Value.agg #[(Value.int .i64 x14_.q.kind), (Value.string x14_.q.key), (Value.string x14_.q.end_), (Value.string x14_.q.value), (Value.int .i64 x14_.q.lease), (Value.int .i64 x14_.q.rev), (Value.int .i64 x14_.q.limit), (Value.int .i64 x14_.q.sortOrder), (Value.int .i64 x14_.q.sortTarget), (Value.int .i64 x14_.q.minMod), (Value.int .i64 x14_.q.maxMod), (Value.int .i64 x14_.q.minCreate), (Value.int .i64 x14_.q.maxCreate), (Value.bool x14_.q.keysOnly), (Value.bool x14_.q.countOnly), (Value.bool x14_.q.prev), (Value.bool x14_.q.ignoreValue), (Value.bool x14_.q.ignoreLease), x14_.q.cmps, x14_.q.then_, x14_.q.else_])) rfl H24_ ?_)
   intro b31_ w32_ S34_ H33_
   have S35_ := Same.trans S26_ S34_
   refine S_list (T_alloc z44 H33_ ?_)
   intro b36_ w37_ S39_ H38_
   have S40_ := Same.trans S35_ S39_
   refine wpList_nil ?_
   refine (X_then (hK30_ _ _ ?_))
   clear hK30_
   refine C_seq (fun K41_ hK41_ => ?_)
   refine C_reg ?_
   refine S_list (T_val (v := (Value.pointer (some ⟨b31_, 1, none⟩))) (by kernel_rfl) ?_)
   refine S_list (T_val (v := (Value.string x14_.q.key)) (x_load1 rfl Try.underlying9 rfl ((Holds.rd H38_ 1 rfl) 1 (Value.string x14_.q.key) rfl)) ?_)
   refine S_list (T_val (v := (Value.pointer (some ⟨b31_, 2, none⟩))) (by kernel_rfl) ?_)
   refine S_list (T_val (v := (Value.string x14_.q.end_)) (x_load1 rfl Try.underlying9 rfl ((Holds.rd H38_ 1 rfl) 2 (Value.string x14_.q.end_) rfl)) ?_)
   refine S_list (T_val (v := (Value.pointer (some ⟨b31_, 2, none⟩))) (by kernel_rfl) ?_)
   refine S_list (T_val (v := (Value.string x14_.q.end_)) (x_load1 rfl Try.underlying9 rfl ((Holds.rd H38_ 1 rfl) 2 (Value.string x14_.q.end_) rfl)) ?_)
   refine S_list (T_val (v := (Value.bool (x14_.q.end_.toList == (ByteArray.mk #[]).toList))) (x_str rfl rfl rfl (by decide)) ?_)
   refine S_list (T_val (v := (Value.agg #[(Value.string x14_.q.key), (Value.string x14_.q.end_), (Value.bool (x14_.q.end_.toList == (ByteArray.mk #[]).toList))])) (by kernel_rfl) ?_)
   refine S_list (T_val (v := (Value.agg #[(Value.string x14_.q.key), (Value.string x14_.q.end_), (Value.bool (x14_.q.end_.toList == (ByteArray.mk #[]).toList)), (Value.int .i64 0), (Value.int .i64 0)])) (by kernel_rfl) ?_)
   refine S_list0 (T_storeN (vs := [(Value.string x14_.q.key), (Value.string x14_.q.end_), (Value.bool (x14_.q.end_.toList == (ByteArray.mk #[]).toList)), (Value.int .i64 0), (Value.int .i64 0)]) rfl rfl z44 rfl (by simp [Value.oneCell']) H38_ 0 rfl (Nat.le_of_ble_eq_true (by rfl)) ?_)
   intro w42_ S44_ H43_
   replace H43_ : Holds w42_ (cl b36_ 44 [(Value.string x14_.q.key), (Value.string x14_.q.end_), (Value.bool (x14_.q.end_.toList == (ByteArray.mk #[]).toList)), (Value.int .i64 0), (Value.int .i64 0)] :: cl b31_ 25 [(Value.int .i64 x14_.q.kind), (Value.string x14_.q.key), (Value.string x14_.q.end_), (Value.string x14_.q.value), (Value.int .i64 x14_.q.lease), (Value.int .i64 x14_.q.rev), (Value.int .i64 x14_.q.limit), (Value.int .i64 x14_.q.sortOrder), (Value.int .i64 x14_.q.sortTarget), (Value.int .i64 x14_.q.minMod), (Value.int .i64 x14_.q.maxMod), (Value.int .i64 x14_.q.minCreate), (Value.int .i64 x14_.q.maxCreate), (Value.bool x14_.q.keysOnly), (Value.bool x14_.q.countOnly), (Value.bool x14_.q.prev), (Value.bool x14_.q.ignoreValue), (Value.bool x14_.q.ignoreLease), x14_.q.cmps, x14_.q.then_, x14_.q.else_] :: cl b18_ 25 [(Value.int .i64 x14_.q.kind), (Value.string x14_.q.key), (Value.string x14_.q.end_), (Value.string x14_.q.value), (Value.int .i64 x14_.q.lease), (Value.int .i64 x14_.q.rev), (Value.int .i64 x14_.q.limit), (Value.int .i64 x14_.q.sortOrder), (Value.int .i64 x14_.q.sortTarget), (Value.int .i64 x14_.q.minMod), (Value.int .i64 x14_.q.maxMod), (Value.int .i64 x14_.q.minCreate), (Value.int .i64 x14_.q.maxCreate), (Value.bool x14_.q.keysOnly), (Value.bool x14_.q.countOnly), (Value.bool x14_.q.prev), (Value.bool x14_.q.ignoreValue), (Value.bool x14_.q.ignoreLease), x14_.q.cmps, x14_.q.then_, x14_.q.else_] :: sl 44 5 u1 m1 xs1 :: ro R :: F) := H43_
   have S45_ := Same.trans S40_ S44_
   refine wpList_nil ?_
   refine (X_then (hK41_ _ _ ?_))
   clear hK41_
   refine C_ret ?_
   refine R_any (v := (Value.agg #[(Value.string x14_.q.key), (Value.string x14_.q.end_), (Value.bool (x14_.q.end_.toList == (ByteArray.mk #[]).toList)), (Value.int .i64 0), (Value.int .i64 0)])) (run_results1 rfl ⟨_, rfl, load_resN Try.underlying44 rfl z44 rfl (vs := [(Value.string x14_.q.key), (Value.string x14_.q.end_), (Value.bool (x14_.q.end_.toList == (ByteArray.mk #[]).toList)), (Value.int .i64 0), (Value.int .i64 0)]) (Holds.cl_cells H43_ 0 rfl 0 rfl)⟩) ⟨_, rfl, ?_⟩
   refine S_list (T_new (obj := .cells #[(Value.string x14_.q.key), (Value.string x14_.q.end_), (Value.bool (x14_.q.end_.toList == (ByteArray.mk #[]).toList)), (Value.int .i64 0), (Value.int .i64 0)] 44) (f := fun b__ => .slice (some ⟨b__, 0, none⟩) 1 1) (A := fun b__ => cl b__ 44 [(Value.string x14_.q.key), (Value.string x14_.q.end_), (Value.bool (x14_.q.end_.toList == (ByteArray.mk #[]).toList)), (Value.int .i64 0), (Value.int .i64 0)]) (by kernel_rfl) (fun l h => h.alloc _ _) H43_ ?_)
   intro b46_ w47_ S49_ H48_
   have S50_ := Same.trans S45_ S49_
   refine S_list (T_append rfl rfl Try.underlying30 z44 rfl (by decide) H48_ 4 rfl (Holds.cl_src H48_ 0 rfl Try.underlying30 (by simp [Value.oneCell']) rfl) (by first | omega | (simp only [List.length_append, List.length_cons, List.length_nil]; omega)) ?_)
   intro v51_ w52_ S54_ H53_
   have S55_ := Same.trans S50_ S54_
   refine S_list (T_val (v := v51_) (x_assign rfl) ?_)
   refine wpList_nil ?_
   refine (X_then (hK27_ _ _ ?_))
   clear hK27_
   refine C_seq (fun K56_ hK56_ => ?_)
   refine C_reg ?_
   refine S_list (T_val (v := (Value.pointer (some ⟨b18_, 0, none⟩))) (by kernel_rfl) ?_)
   refine S_list (T_val (v := (Value.int .i64 x14_.q.kind)) (x_load1 rfl Try.underlying3 rfl ((Holds.rd H53_ 3 rfl) 0 (Value.int .i64 x14_.q.kind) rfl)) ?_)
   refine S_list (T_val (v := (Value.bool (decide (x14_.q.kind = 4)))) (x_bin rfl rfl rfl) ?_)
   refine wpList_nil ?_
   refine (X_then (hK56_ _ _ ?_))
   clear hK56_
   refine C_cond (b := decide (x14_.q.kind = 4)) rfl (fun c57_t => ?_) (fun c57_f => ?_)
   ·have c57_tp : x14_.q.kind = 4 := of_decide_eq_true c57_t
    refine A_start (S := fun w => Rd b18_ [(Value.int .i64 x14_.q.kind), (Value.string x14_.q.key), (Value.string x14_.q.end_), (Value.string x14_.q.value), (Value.int .i64 x14_.q.lease), (Value.int .i64 x14_.q.rev), (Value.int .i64 x14_.q.limit), (Value.int .i64 x14_.q.sortOrder), (Value.int .i64 x14_.q.sortTarget), (Value.int .i64 x14_.q.minMod), (Value.int .i64 x14_.q.maxMod), (Value.int .i64 x14_.q.minCreate), (Value.int .i64 x14_.q.maxCreate), (Value.bool x14_.q.keysOnly), (Value.bool x14_.q.countOnly), (Value.bool x14_.q.prev), (Value.bool x14_.q.ignoreValue), (Value.bool x14_.q.ignoreLease), x14_.q.cmps, x14_.q.then_, x14_.q.else_] w ∧ Sub R (hp w)) (N := 10) foll rfl rfl ?_
    have H58_ := Holds.drew_ H53_
    have hq59_ := And.intro (Holds.rd H58_ 3 rfl) ((Holds.ro_at H58_ 5 rfl))
    refine A_tk 0 (v := v51_) rfl (by kernel_rfl) (fun w hS => x_move rfl) hq59_ ?_
    refine A_tk 1 (v := (Value.pointer (some ⟨b18_, 19, none⟩))) rfl (by kernel_rfl) (fun w hS => by kernel_rfl) hq59_ ?_
    refine A_tk 2 (v := x14_.q.then_) rfl (by kernel_rfl) (fun w hS => x_load1 rfl Try.underlying23 rfl (hS.1 19 x14_.q.then_ rfl)) hq59_ ?_
    refine A_tk 5 (v := (Value.pointer (some ⟨b18_, 20, none⟩))) rfl (by kernel_rfl) (fun w hS => by kernel_rfl) hq59_ ?_
    refine A_tk 6 (v := x14_.q.else_) rfl (by kernel_rfl) (fun w hS => x_load1 rfl Try.underlying23 rfl (hS.1 20 x14_.q.else_ rfl)) hq59_ ?_
    refine A_ready (i := 3) (rs := []) (by kernel_rfl) ?_
    refine AllR.cons ?_ AllR.nil
    have H65_ := ((Holds.bring H58_ 5 rfl) :)
    replace H65_ : Holds w52_.drew (ro R :: cl b46_ 44 [(Value.string x14_.q.key), (Value.string x14_.q.end_), (Value.bool (x14_.q.end_.toList == (ByteArray.mk #[]).toList)), (Value.int .i64 0), (Value.int .i64 0)] :: cl b36_ 44 [(Value.string x14_.q.key), (Value.string x14_.q.end_), (Value.bool (x14_.q.end_.toList == (ByteArray.mk #[]).toList)), (Value.int .i64 0), (Value.int .i64 0)] :: cl b31_ 25 [(Value.int .i64 x14_.q.kind), (Value.string x14_.q.key), (Value.string x14_.q.end_), (Value.string x14_.q.value), (Value.int .i64 x14_.q.lease), (Value.int .i64 x14_.q.rev), (Value.int .i64 x14_.q.limit), (Value.int .i64 x14_.q.sortOrder), (Value.int .i64 x14_.q.sortTarget), (Value.int .i64 x14_.q.minMod), (Value.int .i64 x14_.q.maxMod), (Value.int .i64 x14_.q.minCreate), (Value.int .i64 x14_.q.maxCreate), (Value.bool x14_.q.keysOnly), (Value.bool x14_.q.countOnly), (Value.bool x14_.q.prev), (Value.bool x14_.q.ignoreValue), (Value.bool x14_.q.ignoreLease), x14_.q.cmps, x14_.q.then_, x14_.q.else_] :: cl b18_ 25 [(Value.int .i64 x14_.q.kind), (Value.string x14_.q.key), (Value.string x14_.q.end_), (Value.string x14_.q.value), (Value.int .i64 x14_.q.lease), (Value.int .i64 x14_.q.rev), (Value.int .i64 x14_.q.limit), (Value.int .i64 x14_.q.sortOrder), (Value.int .i64 x14_.q.sortTarget), (Value.int .i64 x14_.q.minMod), (Value.int .i64 x14_.q.maxMod), (Value.int .i64 x14_.q.minCreate), (Value.int .i64 x14_.q.maxCreate), (Value.bool x14_.q.keysOnly), (Value.bool x14_.q.countOnly), (Value.bool x14_.q.prev), (Value.bool x14_.q.ignoreValue), (Value.bool x14_.q.ignoreLease), x14_.q.cmps, x14_.q.then_, x14_.q.else_] :: sl 44 5 v51_ (m1 + 1) (xs1 ++ [(Value.string x14_.q.key), (Value.string x14_.q.end_), (Value.bool (x14_.q.end_.toList == (ByteArray.mk #[]).toList)), (Value.int .i64 0), (Value.int .i64 0)]) :: F) := H65_
    refine A_op (ls' := #[true, true, true, true, false, true, true, false, false, false]) rfl (by kernel_rfl) (T_call (al := [x14_.q.then_]) (pre := []) rfl rfl cb13 (ih R x14_.q.then_ x14_.tt (hra17_.t) (hra17_.tt) (by omega) (by omega) (by omega)) H65_ ?_)
    rintro v60_ p69_ w66_ ⟨_, m61_, xs62_, rfl, rfl, he63_, he64_⟩ S68_ H67_
    have S70_ := Same.trans (Same.trans S55_ (Same.drew _)) S68_
    refine ⟨⟨Holds.rd H67_ 5 rfl, (Holds.ro_at H67_ 0 rfl)⟩, ?_⟩
    refine A_ready (i := 4) (rs := []) (by kernel_rfl) ?_
    refine AllR.cons ?_ AllR.nil
    refine A_op (ls' := #[true, true, true, true, true, true, true, false, false, false]) rfl (by kernel_rfl) (T_append rfl rfl Try.underlying30 z44 rfl (by decide) H67_ 6 rfl (Holds.sl_src H67_ 1 rfl Try.underlying30 (ones_of (by repeat (first | assumption | rfl | apply ones_app)))) (by first | omega | (simp only [List.length_append, List.length_cons, List.length_nil]; omega)) ?_)
    intro v71_ w72_ S74_ H73_
    have S75_ := Same.trans S70_ S74_
    refine ⟨⟨Holds.rd H73_ 5 rfl, (Holds.ro_at H73_ 0 rfl)⟩, ?_⟩
    refine A_ready (i := 7) (rs := []) (by kernel_rfl) ?_
    refine AllR.cons ?_ AllR.nil
    refine A_op (ls' := #[true, true, true, true, true, true, true, true, false, false]) rfl (by kernel_rfl) (T_call (al := [x14_.q.else_]) (pre := []) rfl rfl cb13 (ih R x14_.q.else_ x14_.ee (hra17_.e) (hra17_.ee) (by omega) (by omega) (by omega)) H73_ ?_)
    rintro v76_ p84_ w81_ ⟨_, m77_, xs78_, rfl, rfl, he79_, he80_⟩ S83_ H82_
    replace H82_ : Holds w81_ (ro R :: sl 44 5 v76_ m77_ xs78_ :: sl 44 5 v60_ m61_ xs62_ :: cl b46_ 44 [(Value.string x14_.q.key), (Value.string x14_.q.end_), (Value.bool (x14_.q.end_.toList == (ByteArray.mk #[]).toList)), (Value.int .i64 0), (Value.int .i64 0)] :: cl b36_ 44 [(Value.string x14_.q.key), (Value.string x14_.q.end_), (Value.bool (x14_.q.end_.toList == (ByteArray.mk #[]).toList)), (Value.int .i64 0), (Value.int .i64 0)] :: cl b31_ 25 [(Value.int .i64 x14_.q.kind), (Value.string x14_.q.key), (Value.string x14_.q.end_), (Value.string x14_.q.value), (Value.int .i64 x14_.q.lease), (Value.int .i64 x14_.q.rev), (Value.int .i64 x14_.q.limit), (Value.int .i64 x14_.q.sortOrder), (Value.int .i64 x14_.q.sortTarget), (Value.int .i64 x14_.q.minMod), (Value.int .i64 x14_.q.maxMod), (Value.int .i64 x14_.q.minCreate), (Value.int .i64 x14_.q.maxCreate), (Value.bool x14_.q.keysOnly), (Value.bool x14_.q.countOnly), (Value.bool x14_.q.prev), (Value.bool x14_.q.ignoreValue), (Value.bool x14_.q.ignoreLease), x14_.q.cmps, x14_.q.then_, x14_.q.else_] :: cl b18_ 25 [(Value.int .i64 x14_.q.kind), (Value.string x14_.q.key), (Value.string x14_.q.end_), (Value.string x14_.q.value), (Value.int .i64 x14_.q.lease), (Value.int .i64 x14_.q.rev), (Value.int .i64 x14_.q.limit), (Value.int .i64 x14_.q.sortOrder), (Value.int .i64 x14_.q.sortTarget), (Value.int .i64 x14_.q.minMod), (Value.int .i64 x14_.q.maxMod), (Value.int .i64 x14_.q.minCreate), (Value.int .i64 x14_.q.maxCreate), (Value.bool x14_.q.keysOnly), (Value.bool x14_.q.countOnly), (Value.bool x14_.q.prev), (Value.bool x14_.q.ignoreValue), (Value.bool x14_.q.ignoreLease), x14_.q.cmps, x14_.q.then_, x14_.q.else_] :: sl 44 5 v71_ (m1 + 1 + m61_) ((xs1 ++ [(Value.string x14_.q.key), (Value.string x14_.q.end_), (Value.bool (x14_.q.end_.toList == (ByteArray.mk #[]).toList)), (Value.int .i64 0), (Value.int .i64 0)]) ++ xs62_) :: F) := H82_
    have S85_ := Same.trans S75_ S83_
    refine ⟨⟨Holds.rd H82_ 6 rfl, (Holds.ro_at H82_ 0 rfl)⟩, ?_⟩
    refine A_ready (i := 8) (rs := []) (by kernel_rfl) ?_
    refine AllR.cons ?_ AllR.nil
    refine A_op (ls' := #[true, true, true, true, true, true, true, true, true, false]) rfl (by kernel_rfl) (T_append rfl rfl Try.underlying30 z44 rfl (by decide) H82_ 7 rfl (Holds.sl_src H82_ 1 rfl Try.underlying30 (ones_of (by repeat (first | assumption | rfl | apply ones_app)))) (by first | omega | (simp only [List.length_append, List.length_cons, List.length_nil]; omega)) ?_)
    intro v86_ w87_ S89_ H88_
    have S90_ := Same.trans S85_ S89_
    refine ⟨⟨Holds.rd H88_ 6 rfl, (Holds.ro_at H88_ 0 rfl)⟩, ?_⟩
    have hq91_ := And.intro (Holds.rd H88_ 6 rfl) ((Holds.ro_at H88_ 0 rfl))
    refine A_tk 9 (v := v86_) rfl (by kernel_rfl) (fun w hS => x_assign rfl) hq91_ ?_
    refine A_done (by kernel_rfl) ?_
    refine (X_blkN (X_then (hK12_ _ _ ?_)))
    clear hK12_
    refine C_reg ?_
    refine S_list (T_val (v := (Value.int .i64 ((k : Int) + 1))) (x_bin rfl rfl (ib_add (IntWalk.i64_in _ (by omega)))) ?_)
    refine S_list (T_val (v := (Value.int .i64 ((k : Int) + 1))) (x_move rfl) ?_)
    refine wpList_nil ?_
    refine (X_then ?_)
    have H92_ : Holds w87_ (sl 44 5 v86_ (m1 + 1 + m61_ + m77_) (((xs1 ++ [(Value.string x14_.q.key), (Value.string x14_.q.end_), (Value.bool (x14_.q.end_.toList == (ByteArray.mk #[]).toList)), (Value.int .i64 0), (Value.int .i64 0)]) ++ xs62_) ++ xs78_) :: ro R :: F) := (Holds.pkF H88_ [7, 0] 6 :)
    exact ⟨⟨k + 1, m1 + 1 + m61_ + m77_, v86_, ((xs1 ++ [(Value.string x14_.q.key), (Value.string x14_.q.end_), (Value.bool (x14_.q.end_.toList == (ByteArray.mk #[]).toList)), (Value.int .i64 0), (Value.int .i64 0)]) ++ xs62_) ++ xs78_⟩, ⟨_, congrArg (fun e => mkA 34 e []) (ch (ch (ch (ch (ch rfl rfl) rfl) rfl) rfl) (congrArg (Value.int .i64) ((by first | rfl | omega | (simp; done) | (simp; omega)) : (k : Int) + 1 = ((k + 1 : Nat) : Int)))), H92_, S90_, (by first | assumption | omega | exact rfl), (by omega), (by repeat (first | assumption | rfl | apply ones_app))⟩, by first | omega | (dsimp only; omega) | (simp; omega)⟩
   ·have c57_fp : ¬ (x14_.q.kind = 4) := of_decide_eq_false c57_f
    refine C_skip (X_blkN (X_then (hK12_ _ _ ?_)))
    clear hK12_
    refine C_reg ?_
    refine S_list (T_val (v := (Value.int .i64 ((k : Int) + 1))) (x_bin rfl rfl (ib_add (IntWalk.i64_in _ (by omega)))) ?_)
    refine S_list (T_val (v := (Value.int .i64 ((k : Int) + 1))) (x_move rfl) ?_)
    refine wpList_nil ?_
    refine (X_then ?_)
    have H93_ : Holds w52_ (sl 44 5 v51_ (m1 + 1) (xs1 ++ [(Value.string x14_.q.key), (Value.string x14_.q.end_), (Value.bool (x14_.q.end_.toList == (ByteArray.mk #[]).toList)), (Value.int .i64 0), (Value.int .i64 0)]) :: ro R :: F) := (Holds.pkF H53_ [4, 4] 4 :)
    exact ⟨⟨k + 1, m1 + 1, v51_, xs1 ++ [(Value.string x14_.q.key), (Value.string x14_.q.end_), (Value.bool (x14_.q.end_.toList == (ByteArray.mk #[]).toList)), (Value.int .i64 0), (Value.int .i64 0)]⟩, ⟨_, congrArg (fun e => mkA 34 e []) (ch (ch (ch (ch (ch rfl rfl) rfl) rfl) rfl) (congrArg (Value.int .i64) ((by first | rfl | omega | (simp; done) | (simp; omega)) : (k : Int) + 1 = ((k + 1 : Nat) : Int)))), H93_, S55_, (by first | assumption | omega | exact rfl), (by omega), (by repeat (first | assumption | rfl | apply ones_app))⟩, by first | omega | (dsimp only; omega) | (simp; omega)⟩
  ·have c29_fp : ¬ (x14_.q.kind = 3) := of_decide_eq_false c29_f
   refine C_skip (X_then (hK27_ _ _ ?_))
   clear hK27_
   refine C_seq (fun K94_ hK94_ => ?_)
   refine C_reg ?_
   refine S_list (T_val (v := (Value.pointer (some ⟨b18_, 0, none⟩))) (by kernel_rfl) ?_)
   refine S_list (T_val (v := (Value.int .i64 x14_.q.kind)) (x_load1 rfl Try.underlying3 rfl ((Holds.rd H24_ 0 rfl) 0 (Value.int .i64 x14_.q.kind) rfl)) ?_)
   refine S_list (T_val (v := (Value.bool (decide (x14_.q.kind = 4)))) (x_bin rfl rfl rfl) ?_)
   refine wpList_nil ?_
   refine (X_then (hK94_ _ _ ?_))
   clear hK94_
   refine C_cond (b := decide (x14_.q.kind = 4)) rfl (fun c95_t => ?_) (fun c95_f => ?_)
   ·have c95_tp : x14_.q.kind = 4 := of_decide_eq_true c95_t
    refine A_start (S := fun w => Rd b18_ [(Value.int .i64 x14_.q.kind), (Value.string x14_.q.key), (Value.string x14_.q.end_), (Value.string x14_.q.value), (Value.int .i64 x14_.q.lease), (Value.int .i64 x14_.q.rev), (Value.int .i64 x14_.q.limit), (Value.int .i64 x14_.q.sortOrder), (Value.int .i64 x14_.q.sortTarget), (Value.int .i64 x14_.q.minMod), (Value.int .i64 x14_.q.maxMod), (Value.int .i64 x14_.q.minCreate), (Value.int .i64 x14_.q.maxCreate), (Value.bool x14_.q.keysOnly), (Value.bool x14_.q.countOnly), (Value.bool x14_.q.prev), (Value.bool x14_.q.ignoreValue), (Value.bool x14_.q.ignoreLease), x14_.q.cmps, x14_.q.then_, x14_.q.else_] w ∧ Sub R (hp w)) (N := 10) foll rfl rfl ?_
    have H96_ := Holds.drew_ H24_
    have hq97_ := And.intro (Holds.rd H96_ 0 rfl) ((Holds.ro_at H96_ 2 rfl))
    refine A_tk 0 (v := u1) rfl (by kernel_rfl) (fun w hS => x_move rfl) hq97_ ?_
    refine A_tk 1 (v := (Value.pointer (some ⟨b18_, 19, none⟩))) rfl (by kernel_rfl) (fun w hS => by kernel_rfl) hq97_ ?_
    refine A_tk 2 (v := x14_.q.then_) rfl (by kernel_rfl) (fun w hS => x_load1 rfl Try.underlying23 rfl (hS.1 19 x14_.q.then_ rfl)) hq97_ ?_
    refine A_tk 5 (v := (Value.pointer (some ⟨b18_, 20, none⟩))) rfl (by kernel_rfl) (fun w hS => by kernel_rfl) hq97_ ?_
    refine A_tk 6 (v := x14_.q.else_) rfl (by kernel_rfl) (fun w hS => x_load1 rfl Try.underlying23 rfl (hS.1 20 x14_.q.else_ rfl)) hq97_ ?_
    refine A_ready (i := 3) (rs := []) (by kernel_rfl) ?_
    refine AllR.cons ?_ AllR.nil
    have H103_ := ((Holds.bring H96_ 2 rfl) :)
    refine A_op (ls' := #[true, true, true, true, false, true, true, false, false, false]) rfl (by kernel_rfl) (T_call (al := [x14_.q.then_]) (pre := []) rfl rfl cb13 (ih R x14_.q.then_ x14_.tt (hra17_.t) (hra17_.tt) (by omega) (by omega) (by omega)) H103_ ?_)
    rintro v98_ p107_ w104_ ⟨_, m99_, xs100_, rfl, rfl, he101_, he102_⟩ S106_ H105_
    have S108_ := Same.trans (Same.trans S26_ (Same.drew _)) S106_
    refine ⟨⟨Holds.rd H105_ 2 rfl, (Holds.ro_at H105_ 0 rfl)⟩, ?_⟩
    refine A_ready (i := 4) (rs := []) (by kernel_rfl) ?_
    refine AllR.cons ?_ AllR.nil
    refine A_op (ls' := #[true, true, true, true, true, true, true, false, false, false]) rfl (by kernel_rfl) (T_append rfl rfl Try.underlying30 z44 rfl (by decide) H105_ 3 rfl (Holds.sl_src H105_ 1 rfl Try.underlying30 (ones_of (by repeat (first | assumption | rfl | apply ones_app)))) (by first | omega | (simp only [List.length_append, List.length_cons, List.length_nil]; omega)) ?_)
    intro v109_ w110_ S112_ H111_
    replace H111_ : Holds w110_ (ro R :: sl 44 5 v98_ m99_ xs100_ :: cl b18_ 25 [(Value.int .i64 x14_.q.kind), (Value.string x14_.q.key), (Value.string x14_.q.end_), (Value.string x14_.q.value), (Value.int .i64 x14_.q.lease), (Value.int .i64 x14_.q.rev), (Value.int .i64 x14_.q.limit), (Value.int .i64 x14_.q.sortOrder), (Value.int .i64 x14_.q.sortTarget), (Value.int .i64 x14_.q.minMod), (Value.int .i64 x14_.q.maxMod), (Value.int .i64 x14_.q.minCreate), (Value.int .i64 x14_.q.maxCreate), (Value.bool x14_.q.keysOnly), (Value.bool x14_.q.countOnly), (Value.bool x14_.q.prev), (Value.bool x14_.q.ignoreValue), (Value.bool x14_.q.ignoreLease), x14_.q.cmps, x14_.q.then_, x14_.q.else_] :: sl 44 5 v109_ (m1 + m99_) (xs1 ++ xs100_) :: F) := H111_
    have S113_ := Same.trans S108_ S112_
    refine ⟨⟨Holds.rd H111_ 2 rfl, (Holds.ro_at H111_ 0 rfl)⟩, ?_⟩
    refine A_ready (i := 7) (rs := []) (by kernel_rfl) ?_
    refine AllR.cons ?_ AllR.nil
    refine A_op (ls' := #[true, true, true, true, true, true, true, true, false, false]) rfl (by kernel_rfl) (T_call (al := [x14_.q.else_]) (pre := []) rfl rfl cb13 (ih R x14_.q.else_ x14_.ee (hra17_.e) (hra17_.ee) (by omega) (by omega) (by omega)) H111_ ?_)
    rintro v114_ p122_ w119_ ⟨_, m115_, xs116_, rfl, rfl, he117_, he118_⟩ S121_ H120_
    have S123_ := Same.trans S113_ S121_
    refine ⟨⟨Holds.rd H120_ 3 rfl, (Holds.ro_at H120_ 0 rfl)⟩, ?_⟩
    refine A_ready (i := 8) (rs := []) (by kernel_rfl) ?_
    refine AllR.cons ?_ AllR.nil
    refine A_op (ls' := #[true, true, true, true, true, true, true, true, true, false]) rfl (by kernel_rfl) (T_append rfl rfl Try.underlying30 z44 rfl (by decide) H120_ 4 rfl (Holds.sl_src H120_ 1 rfl Try.underlying30 (ones_of (by repeat (first | assumption | rfl | apply ones_app)))) (by first | omega | (simp only [List.length_append, List.length_cons, List.length_nil]; omega)) ?_)
    intro v124_ w125_ S127_ H126_
    have S128_ := Same.trans S123_ S127_
    refine ⟨⟨Holds.rd H126_ 3 rfl, (Holds.ro_at H126_ 0 rfl)⟩, ?_⟩
    have hq129_ := And.intro (Holds.rd H126_ 3 rfl) ((Holds.ro_at H126_ 0 rfl))
    refine A_tk 9 (v := v124_) rfl (by kernel_rfl) (fun w hS => x_assign rfl) hq129_ ?_
    refine A_done (by kernel_rfl) ?_
    refine (X_blkN (X_then (hK12_ _ _ ?_)))
    clear hK12_
    refine C_reg ?_
    refine S_list (T_val (v := (Value.int .i64 ((k : Int) + 1))) (x_bin rfl rfl (ib_add (IntWalk.i64_in _ (by omega)))) ?_)
    refine S_list (T_val (v := (Value.int .i64 ((k : Int) + 1))) (x_move rfl) ?_)
    refine wpList_nil ?_
    refine (X_then ?_)
    have H130_ : Holds w125_ (sl 44 5 v124_ (m1 + m99_ + m115_) ((xs1 ++ xs100_) ++ xs116_) :: ro R :: F) := (Holds.pkF H126_ [4, 0] 3 :)
    exact ⟨⟨k + 1, m1 + m99_ + m115_, v124_, (xs1 ++ xs100_) ++ xs116_⟩, ⟨_, congrArg (fun e => mkA 34 e []) (ch (ch (ch (ch (ch rfl rfl) rfl) rfl) rfl) (congrArg (Value.int .i64) ((by first | rfl | omega | (simp; done) | (simp; omega)) : (k : Int) + 1 = ((k + 1 : Nat) : Int)))), H130_, S128_, (by first | assumption | omega | exact rfl), (by omega), (by repeat (first | assumption | rfl | apply ones_app))⟩, by first | omega | (dsimp only; omega) | (simp; omega)⟩
   ·have c95_fp : ¬ (x14_.q.kind = 4) := of_decide_eq_false c95_f
    refine C_skip (X_blkN (X_then (hK12_ _ _ ?_)))
    clear hK12_
    refine C_reg ?_
    refine S_list (T_val (v := (Value.int .i64 ((k : Int) + 1))) (x_bin rfl rfl (ib_add (IntWalk.i64_in _ (by omega)))) ?_)
    refine S_list (T_val (v := (Value.int .i64 ((k : Int) + 1))) (x_move rfl) ?_)
    refine wpList_nil ?_
    refine (X_then ?_)
    have H131_ : Holds w23_ (sl 44 5 u1 m1 xs1 :: ro R :: F) := (Holds.pkF H24_ [1, 1] 1 :)
    exact ⟨⟨k + 1, m1, u1, xs1⟩, ⟨_, congrArg (fun e => mkA 34 e []) (ch (ch (ch (ch (ch rfl rfl) rfl) rfl) rfl) (congrArg (Value.int .i64) ((by first | rfl | omega | (simp; done) | (simp; omega)) : (k : Int) + 1 = ((k + 1 : Nat) : Int)))), H131_, S26_, (by first | assumption | omega | exact rfl), (by omega), (by repeat (first | assumption | rfl | apply ones_app))⟩, by first | omega | (dsimp only; omega) | (simp; omega)⟩
 ·have c11_fp : ¬ ((k : Int) < ((List.length L) : Int)) := of_decide_eq_false c11_f
  refine C_exit (X_thenX (X_thenX (X_blkHit ?_)))
  refine (X_then (hK3_ _ _ ?_))
  clear hK3_
  refine C_seq (fun K132_ hK132_ => ?_)
  refine C_reg ?_
  refine S_list (T_val (v := u1) (x_move rfl) ?_)
  refine S_list (T_val (v := u1) (x_assign rfl) ?_)
  refine wpList_nil ?_
  refine (X_then (hK132_ _ _ ?_))
  clear hK132_
  refine C_ret ?_
  refine R_any (v := u1) (run_results1 rfl rfl) ?_
  have H133_ : Holds w6_ (ro R :: sl 44 5 u1 m1 xs1 :: F) := (Holds.pkF H7_ [1, 0] 0 :)
  exact ⟨_, _, rfl, ⟨u1, m1, xs1, rfl, rfl, (by rw [cnt_end (by omega)] at hin; omega), (by repeat (first | assumption | rfl | apply ones_app))⟩, S8_, H133_⟩

theorem ckDeletes (R : HP) (v : Value) (L : List RT) (hL : RS R 21 v (List.length L) (L.flatMap RT.cells)) (hR : RAts R L) (hl : L.length ≤ 1000000000000000) (hm : cntL 3 L ≤ 1000) : Tri Try.prog 13 #[v] R [] (fun v__ post__ => ∃ (u' : Value) (m' : Nat) (xs' : List Value), v__ = u' ∧ post__ = [sl 44 5 u' m' xs'] ∧ (m' = cntL 3 L) ∧ (xs'.all (fun u => u.oneCell') = true)) := by
  have key : ∀ (n__ : Nat) (R : HP) (v : Value) (L : List RT) (hL : RS R 21 v (List.length L) (L.flatMap RT.cells)) (hR : RAts R L) (hl : L.length ≤ 1000000000000000) (hm : cntL 3 L ≤ 1000) (hn__ : lsz L = n__), Tri Try.prog 13 #[v] R [] (fun v__ post__ => ∃ (u' : Value) (m' : Nat) (xs' : List Value), v__ = u' ∧ post__ = [sl 44 5 u' m' xs'] ∧ (m' = cntL 3 L) ∧ (xs'.all (fun u => u.oneCell') = true)) := by
    intro n__
    induction n__ using Nat.strongRecOn with
    | ind n__ ih => intro R v L hL hR hl hm hn__; exact ckDeletes_step R v L n__ hL hR hl hm (Nat.le_of_eq hn__) (fun R v L hL hR hl hm hms => ih _ hms R v L hL hR hl hm rfl)
  exact key _ R v L hL hR hl hm rfl
end Go.Proofs.Ytlnihndjepjagaa
