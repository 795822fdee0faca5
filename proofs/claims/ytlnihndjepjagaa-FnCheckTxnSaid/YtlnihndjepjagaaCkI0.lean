/- Operations as the server reads them. -/
import Derived.Test.YtlnihndjepjagaaCkH0
set_option linter.unusedVariables false
set_option linter.unusedSimpArgs false
namespace Go.Proofs.Ytlnihndjepjagaa
open Go Go.RowKit Gw

set_option maxHeartbeats 2000000 in
theorem ckOpsIn_step (R : HP) (v : Value) (L : List RT) (n__ : Nat) (hL : RS R 21 v (List.length L) (L.flatMap RT.cells)) (hR : RAts R L) (hl : L.length ≤ 200) (hP : ∀ y ∈ L, Pln y) (hn__ : (lsz L) ≤ n__) (ih : ∀ (R : HP) (v : Value) (L : List RT) (hL : RS R 21 v (List.length L) (L.flatMap RT.cells)) (hR : RAts R L) (hl : L.length ≤ 200) (hP : ∀ y ∈ L, Pln y) (hms : (lsz L) < n__), TriG Try.prog 50 #[v] R [] (fun R' v__ post__ => ∃ (v' : Value) (T : List Nat), v__ = v' ∧ post__ = [] ∧ (RS R' 1 v' (List.length T) (T.map pv)) ∧ (All2 (OpAt R') T L))) :
    TriG Try.prog 50 #[v] R [] (fun R' v__ post__ => ∃ (v' : Value) (T : List Nat), v__ = v' ∧ post__ = [] ∧ (RS R' 1 v' (List.length T) (T.map pv)) ∧ (All2 (OpAt R') T L)) := by
 refine TriG.into (n := 77) (al := [v]) Try.func50 rfl Try.ntmps50 rfl rfl fun w F H => ?_
 refine C_seq (fun K1_ hK1_ => ?_)
 refine C_reg ?_
 refine S_list (T_val (v := (Value.slice none 0 0)) (x_assign rfl) ?_)
 refine wpList_nil ?_
 refine (X_then (hK1_ _ _ ?_))
 clear hK1_
 refine C_seq (fun K2_ hK2_ => ?_)
 refine C_reg ?_
 refine S_list (T_val (v := (Value.slice none 0 0)) (x_assign rfl) ?_)
 refine wpList_nil ?_
 refine (X_then (hK2_ _ _ ?_))
 clear hK2_
 refine C_seq (fun K3_ hK3_ => ?_)
 refine C_seq (fun K4_ hK4_ => ?_)
 refine C_reg ?_
 refine S_list (T_val (v := (Value.int .i64 0)) (x_assign rfl) ?_)
 refine wpList_nil ?_
 refine (X_then (hK4_ _ _ ?_))
 clear hK4_
 refine C_block ?_
 have H5_ : Holds w (sl 149 1 (Value.slice none 0 0) (List.length ([] : List Nat)) (([] : List Nat).map pv) :: ro R :: F) := Holds.add_nil H 149 1
 refine C_loop (γ := HP × Nat × Value × (List Nat)) (fun x__ a__ w1__ => match x__ with | ⟨R1, k, cv, C⟩ => ∃ h : Env, a__ = mkA 77 (upd (upd (upd (upd h 0 v) 2 (Value.slice none 0 0)) 3 cv) 4 (Value.int .i64 (k : Int))) [] ∧ Holds w1__ (sl 149 1 cv (List.length C) (C.map pv) :: ro R1 :: F) ∧ Same w w1__ ∧ (Sub R R1) ∧ (k ≤ L.length) ∧ (C.length = k) ∧ (All2 (OpAt R1) C (L.take k))) (fun x__ => match x__ with | ⟨R1, k, cv, C⟩ => L.length - k) (⟨R, 0, (Value.slice none 0 0), ([] : List Nat)⟩) ⟨_, congrArg (fun e => mkA 77 e []) (ch (ch (ch (ch rfl rfl) rfl) (rfl : (Value.slice none 0 0) = ((Value.slice none 0 0)))) (congrArg (Value.int .i64) ((by first | rfl | omega | (simp; done) | (simp; omega)) : 0 = (0 : Int)))), H5_, (Same.refl w), (Sub.rfl' _), (by first | assumption | omega | exact rfl), (rfl), (All2.nil)⟩ ?_
 rintro ⟨R1, k, cv, C⟩ _ w6_ ⟨h, rfl, H7_, S8_, hsR1, hk, hCl, hC⟩
 refine C_seq (fun K9_ hK9_ => ?_)
 refine C_seq (fun K10_ hK10_ => ?_)
 refine C_reg ?_
 refine S_list (T_val (v := (Value.int .i64 (k : Int))) (x_move rfl) ?_)
 refine S_list (T_val (v := v) (x_move rfl) ?_)
 refine S_list (T_val (v := (Value.int .i64 ((List.length L) : Int))) (x_lenRS rfl (RS.mono hL hsR1) Try.underlying23) ?_)
 refine S_list (T_val (v := (Value.bool (decide ((k : Int) < ((List.length L) : Int))))) (x_bin rfl rfl rfl) ?_)
 refine wpList_nil ?_
 refine (X_then (hK10_ _ _ ?_))
 clear hK10_
 refine C_cond (b := decide ((k : Int) < ((List.length L) : Int))) rfl (fun c11_t => ?_) (fun c11_f => ?_)
 ·have c11_tp : (k : Int) < ((List.length L) : Int) := of_decide_eq_true c11_t
  refine C_skip (X_then (hK9_ _ _ ?_))
  clear hK9_
  refine C_seq (fun K12_ hK12_ => ?_)
  refine C_block ?_
  refine C_seq (fun K13_ hK13_ => ?_)
  refine C_reg ?_
  refine S_list (T_val (v := v) (x_move rfl) ?_)
  refine S_list (T_val (v := (Value.int .i64 (k : Int))) (x_move rfl) ?_)
  obtain ⟨x14_, hx15_, hm16_⟩ := elem_at L k (by omega)
  have hp17_ := hP x14_ hm16_
  have hk_ := (hP x14_ hm16_).k
  have := RT.sz_mem hm16_
  refine S_list (T_val (v := (Value.pointer (some ⟨(sb v), so v + (k * 21 + 0), none⟩))) (x_idxRS (v := v) rfl (RS.mono hL hsR1) rfl Try.underlying23 z25 (by omega) (by omega) (by omega : _ = k) rfl) ?_)
  refine S_list (T_val (v := (Value.pointer (some ⟨(sb v), so v + (k * 21 + 0), none⟩))) (by kernel_rfl) ?_)
  refine S_list (T_val (v := (Value.int .i64 x14_.q.kind)) (x_load1 rfl Try.underlying3 rfl (RC.cell (RS.rc (RS.mono hL hsR1)) (Holds.ro_at H7_ 1 rfl) (j := k * 21 + 0) (u := (Value.int .i64 x14_.q.kind)) (fm_cell RT.len hx15_ (i := 0) rfl))) ?_)
  refine wpList_nil ?_
  refine (X_then (hK13_ _ _ ?_))
  clear hK13_
  refine C_block ?_
  refine C_seq (fun K18_ hK18_ => ?_)
  refine C_reg ?_
  refine S_list (T_val (v := (Value.bool (decide (x14_.q.kind = 1)))) (x_bin rfl rfl rfl) ?_)
  refine S_list (T_val (v := (Value.bool (decide (x14_.q.kind = 1)))) (x_assign rfl) ?_)
  refine wpList_nil ?_
  refine (X_then (hK18_ _ _ ?_))
  clear hK18_
  refine C_cond (b := decide (x14_.q.kind = 1)) rfl (fun c19_t => ?_) (fun c19_f => ?_)
  ·have c19_tp : x14_.q.kind = 1 := of_decide_eq_true c19_t
   refine C_reg ?_
   refine S_list (T_val (v := cv) (x_move rfl) ?_)
   refine S_list (T_val (v := v) (x_move rfl) ?_)
   refine S_list (T_val (v := (Value.int .i64 (k : Int))) (x_move rfl) ?_)
   refine S_list (T_val (v := (Value.pointer (some ⟨(sb v), so v + (k * 21 + 0), none⟩))) (x_idxRS (v := v) rfl (RS.mono hL hsR1) rfl Try.underlying23 z25 (by omega) (by omega) (by omega : _ = k) rfl) ?_)
   refine S_list (T_val (v := (Value.agg #[(Value.int .i64 x14_.q.kind), (Value.string x14_.q.key), (Value.string x14_.q.end_), (Value.string x14_.q.value), (Value.int .i64 x14_.q.lease), (Value.int .i64 x14_.q.rev), (Value.int .i64 x14_.q.limit), (Value.int .i64 x14_.q.sortOrder), (Value.int .i64 x14_.q.sortTarget), (Value.int .i64 x14_.q.minMod), (Value.int .i64 x14_.q.maxMod), (Value.int .i64 x14_.q.minCreate), (Value.int .i64 x14_.q.maxCreate), (Value.bool x14_.q.keysOnly), (Value.bool x14_.q.countOnly), (Value.bool x14_.q.prev), (Value.bool x14_.q.ignoreValue), (Value.bool x14_.q.ignoreLease), x14_.q.cmps, x14_.q.then_, x14_.q.else_])) (x_loadN (vs := [(Value.int .i64 x14_.q.kind), (Value.string x14_.q.key), (Value.string x14_.q.end_), (Value.string x14_.q.value), (Value.int .i64 x14_.q.lease), (Value.int .i64 x14_.q.rev), (Value.int .i64 x14_.q.limit), (Value.int .i64 x14_.q.sortOrder), (Value.int .i64 x14_.q.sortTarget), (Value.int .i64 x14_.q.minMod), (Value.int .i64 x14_.q.maxMod), (Value.int .i64 x14_.q.minCreate), (Value.int .i64 x14_.q.maxCreate), (Value.bool x14_.q.keysOnly), (Value.bool x14_.q.countOnly), (Value.bool x14_.q.prev), (Value.bool x14_.q.ignoreValue), (Value.bool x14_.q.ignoreLease), x14_.q.cmps, x14_.q.then_, x14_.q.else_]) rfl Try.underlying25 rfl z25 rfl (RC.cells (RS.rc (RS.mono hL hsR1)) (Holds.ro_at H7_ 1 rfl) (k * 21 + 0) (fm_cells RT.len hx15_ (i := 0) rfl))) ?_)
   have H25_ := ((Holds.bring H7_ 1 rfl) :)
   refine S_list (T_callG (al := [(Value.agg #[(Value.int .i64 x14_.q.kind), (Value.string x14_.q.key), (Value.string x14_.q.end_), (Value.string x14_.q.value), (Value.int .i64 x14_.q.lease), (Value.int .i64 x14_.q.rev), (Value.int .i64 x14_.q.limit), (Value.int .i64 x14_.q.sortOrder), (Value.int .i64 x14_.q.sortTarget), (Value.int .i64 x14_.q.minMod), (Value.int .i64 x14_.q.maxMod), (Value.int .i64 x14_.q.minCreate), (Value.int .i64 x14_.q.maxCreate), (Value.bool x14_.q.keysOnly), (Value.bool x14_.q.countOnly), (Value.bool x14_.q.prev), (Value.bool x14_.q.ignoreValue), (Value.bool x14_.q.ignoreLease), x14_.q.cmps, x14_.q.then_, x14_.q.else_])]) (pre := []) rfl rfl cb42 (ckRangeIn R1 x14_) H25_ ?_)
   rintro R21_ v22_ p29_ w26_ hs20_ ⟨b23_, rfl, rfl, he24_⟩ S28_ H27_
   replace H27_ : Holds w26_ (ro R21_ :: sl 149 1 cv (List.length C) (C.map pv) :: F) := H27_
   have S30_ := Same.trans S8_ S28_
   have hz_R_R21_ := Sub.trans' hsR1 hs20_
   refine S_list (T_val (v := (Value.agg #[(Value.pointer (some ⟨b23_, 0, none⟩))])) (by kernel_rfl) ?_)
   refine S_list (T_box (v := (Value.agg #[(Value.pointer (some ⟨b23_, 0, none⟩))])) rfl H27_ ?_)
   intro b31_ w32_ S34_ H33_
   have S35_ := Same.trans S30_ S34_
   refine S_list (T_val (v := (Value.iface 150 (Value.pointer (some ⟨b31_, 0, none⟩)))) (by kernel_rfl) ?_)
   refine S_list (T_val (v := (Value.agg #[(Value.iface 150 (Value.pointer (some ⟨b31_, 0, none⟩)))])) (by kernel_rfl) ?_)
   refine S_list (T_box (v := (Value.agg #[(Value.iface 150 (Value.pointer (some ⟨b31_, 0, none⟩)))])) rfl H33_ ?_)
   intro b36_ w37_ S39_ H38_
   have S40_ := Same.trans S35_ S39_
   refine S_list (T_new (obj := .cells #[(Value.pointer (some ⟨b36_, 0, none⟩))] 149) (f := fun b__ => .slice (some ⟨b__, 0, none⟩) 1 1) (A := fun b__ => cl b__ 149 [(Value.pointer (some ⟨b36_, 0, none⟩))]) (by kernel_rfl) (fun l h => h.alloc _ _) H38_ ?_)
   intro b41_ w42_ S44_ H43_
   replace H43_ : Holds w42_ (cl b41_ 149 [(Value.pointer (some ⟨b36_, 0, none⟩))] :: cl b36_ 154 [(Value.iface 150 (Value.pointer (some ⟨b31_, 0, none⟩)))] :: cl b31_ 152 [(Value.pointer (some ⟨b23_, 0, none⟩))] :: ro R21_ :: sl 149 1 cv (List.length C) (C.map pv) :: F) := H43_
   have S45_ := Same.trans S40_ S44_
   refine S_list (T_append rfl rfl Try.underlying104 z149 rfl (by decide) H43_ 4 rfl (Holds.cl_src H43_ 0 rfl Try.underlying104 (by simp [Value.oneCell']) rfl) (by first | omega | (simp only [List.length_append, List.length_cons, List.length_nil]; omega)) ?_)
   intro v46_ w47_ S49_ H48_
   have S50_ := Same.trans S45_ S49_
   refine S_list (T_val (v := v46_) (x_assign rfl) ?_)
   refine wpList_nil ?_
   refine (X_blkN (X_blkN (X_then (hK12_ _ _ ?_))))
   clear hK12_
   refine C_reg ?_
   refine S_list (T_val (v := (Value.int .i64 (k : Int))) (x_move rfl) ?_)
   refine S_list (T_val (v := (Value.int .i64 ((k : Int) + 1))) (x_bin rfl rfl (ib_add (IntWalk.i64_in _ (by omega)))) ?_)
   refine S_list (T_val (v := (Value.int .i64 ((k : Int) + 1))) (x_assign rfl) ?_)
   refine wpList_nil ?_
   refine (X_then ?_)
   have H51_ := ((Holds.bring (Holds.bring H48_ 2 rfl) 3 rfl) :)
   obtain ⟨R52_, hs53_, ⟨R54_, ha55_, hs56_⟩, H57_⟩ := Holds.gift H51_
   replace H57_ : Holds w47_ (ro R52_ :: cl b41_ 149 [(Value.pointer (some ⟨b36_, 0, none⟩))] :: cl b36_ 154 [(Value.iface 150 (Value.pointer (some ⟨b31_, 0, none⟩)))] :: sl 149 1 v46_ ((List.length C) + 1) ((C.map pv) ++ [(Value.pointer (some ⟨b36_, 0, none⟩))]) :: F) := H57_
   have hz_R_R52_ := Sub.trans' hz_R_R21_ hs53_
   have hz_R1_R52_ := Sub.trans' hs20_ hs53_
   have hr58_ : RC R52_ b31_ 0 [(Value.pointer (some ⟨b23_, 0, none⟩))] := (cl_RC ha55_ (Sub.rfl' _)).mono hs56_
   have H59_ := ((Holds.bring (Holds.bring H57_ 2 rfl) 1 rfl) :)
   obtain ⟨R60_, hs61_, ⟨R62_, ha63_, hs64_⟩, H65_⟩ := Holds.gift H59_
   have hz_R_R60_ := Sub.trans' hz_R_R52_ hs61_
   have hz_R1_R60_ := Sub.trans' hz_R1_R52_ hs61_
   have hz_R21__R60_ := Sub.trans' hs53_ hs61_
   have hr66_ : RC R60_ b36_ 0 [(Value.iface 150 (Value.pointer (some ⟨b31_, 0, none⟩)))] := (cl_RC ha63_ (Sub.rfl' _)).mono hs64_
   have hop67_ : OpAt R60_ b36_ x14_ := OpAt.rng _ b31_ b23_ _ (by omega) hr66_ (hr58_.mono hs61_) (he24_.mono hz_R21__R60_)
   have H68_ := Holds.resl H65_ 2 rfl (by rw [List.map_append]; rfl : (C.map pv) ++ [(Value.pointer (some ⟨b36_, 0, none⟩))] = (C ++ [b36_]).map pv) (by rw [List.length_append]; rfl : (List.length C) + 1 = (List.length (C ++ [b36_])))
   have H69_ : Holds w47_ (sl 149 1 v46_ (List.length (C ++ [b36_])) ((C ++ [b36_]).map pv) :: ro R60_ :: F) := (Holds.pkF H68_ [2, 0] 1 :)
   exact ⟨⟨R60_, k + 1, v46_, (C ++ [b36_])⟩, ⟨_, congrArg (fun e => mkA 77 e []) (ch (ch (ch (ch rfl rfl) rfl) rfl) (congrArg (Value.int .i64) ((by first | rfl | omega | (simp; done) | (simp; omega)) : (k : Int) + 1 = ((k + 1 : Nat) : Int)))), H69_, S50_, (hz_R_R60_), (by first | assumption | omega | exact rfl), (by rw [List.length_append, hCl]; rfl), (All2.snoc (OpAt.all hz_R1_R60_ hC) hx15_ hop67_)⟩, by first | omega | (dsimp only; omega) | (simp; omega)⟩
  ·have c19_fp : ¬ (x14_.q.kind = 1) := of_decide_eq_false c19_f
   refine C_seq (fun K70_ hK70_ => ?_)
   refine C_reg ?_
   refine S_list (T_val (v := (Value.bool (decide (x14_.q.kind = 2)))) (x_bin rfl rfl rfl) ?_)
   refine S_list (T_val (v := (Value.bool (decide (x14_.q.kind = 2)))) (x_assign rfl) ?_)
   refine wpList_nil ?_
   refine (X_then (hK70_ _ _ ?_))
   clear hK70_
   refine C_cond (b := decide (x14_.q.kind = 2)) rfl (fun c71_t => ?_) (fun c71_f => ?_)
   ·have c71_tp : x14_.q.kind = 2 := of_decide_eq_true c71_t
    omega
   ·have c71_fp : ¬ (x14_.q.kind = 2) := of_decide_eq_false c71_f
    refine C_seq (fun K72_ hK72_ => ?_)
    refine C_reg ?_
    refine S_list (T_val (v := (Value.bool (decide (x14_.q.kind = 3)))) (x_bin rfl rfl rfl) ?_)
    refine S_list (T_val (v := (Value.bool (decide (x14_.q.kind = 3)))) (x_assign rfl) ?_)
    refine wpList_nil ?_
    refine (X_then (hK72_ _ _ ?_))
    clear hK72_
    refine C_cond (b := decide (x14_.q.kind = 3)) rfl (fun c73_t => ?_) (fun c73_f => ?_)
    ·have c73_tp : x14_.q.kind = 3 := of_decide_eq_true c73_t
     omega
    ·have c73_fp : ¬ (x14_.q.kind = 3) := of_decide_eq_false c73_f
     refine C_seq (fun K74_ hK74_ => ?_)
     refine C_reg ?_
     refine S_list (T_val (v := (Value.bool (decide (x14_.q.kind = 4)))) (x_bin rfl rfl rfl) ?_)
     refine S_list (T_val (v := (Value.bool (decide (x14_.q.kind = 4)))) (x_assign rfl) ?_)
     refine wpList_nil ?_
     refine (X_then (hK74_ _ _ ?_))
     clear hK74_
     refine C_cond (b := decide (x14_.q.kind = 4)) rfl (fun c75_t => ?_) (fun c75_f => ?_)
     ·have c75_tp : x14_.q.kind = 4 := of_decide_eq_true c75_t
      refine C_reg ?_
      refine S_list (T_val (v := cv) (x_move rfl) ?_)
      refine S_list (T_val (v := v) (x_move rfl) ?_)
      refine S_list (T_val (v := (Value.int .i64 (k : Int))) (x_move rfl) ?_)
      refine S_list (T_val (v := (Value.pointer (some ⟨(sb v), so v + (k * 21 + 0), none⟩))) (x_idxRS (v := v) rfl (RS.mono hL hsR1) rfl Try.underlying23 z25 (by omega) (by omega) (by omega : _ = k) rfl) ?_)
      refine S_list (T_val (v := (Value.agg #[(Value.int .i64 x14_.q.kind), (Value.string x14_.q.key), (Value.string x14_.q.end_), (Value.string x14_.q.value), (Value.int .i64 x14_.q.lease), (Value.int .i64 x14_.q.rev), (Value.int .i64 x14_.q.limit), (Value.int .i64 x14_.q.sortOrder), (Value.int .i64 x14_.q.sortTarget), (Value.int .i64 x14_.q.minMod), (Value.int .i64 x14_.q.maxMod), (Value.int .i64 x14_.q.minCreate), (Value.int .i64 x14_.q.maxCreate), (Value.bool x14_.q.keysOnly), (Value.bool x14_.q.countOnly), (Value.bool x14_.q.prev), (Value.bool x14_.q.ignoreValue), (Value.bool x14_.q.ignoreLease), x14_.q.cmps, x14_.q.then_, x14_.q.else_])) (x_loadN (vs := [(Value.int .i64 x14_.q.kind), (Value.string x14_.q.key), (Value.string x14_.q.end_), (Value.string x14_.q.value), (Value.int .i64 x14_.q.lease), (Value.int .i64 x14_.q.rev), (Value.int .i64 x14_.q.limit), (Value.int .i64 x14_.q.sortOrder), (Value.int .i64 x14_.q.sortTarget), (Value.int .i64 x14_.q.minMod), (Value.int .i64 x14_.q.maxMod), (Value.int .i64 x14_.q.minCreate), (Value.int .i64 x14_.q.maxCreate), (Value.bool x14_.q.keysOnly), (Value.bool x14_.q.countOnly), (Value.bool x14_.q.prev), (Value.bool x14_.q.ignoreValue), (Value.bool x14_.q.ignoreLease), x14_.q.cmps, x14_.q.then_, x14_.q.else_]) rfl Try.underlying25 rfl z25 rfl (RC.cells (RS.rc (RS.mono hL hsR1)) (Holds.ro_at H7_ 1 rfl) (k * 21 + 0) (fm_cells RT.len hx15_ (i := 0) rfl))) ?_)
      have H81_ := ((Holds.bring H7_ 1 rfl) :)
      refine S_list (T_callG (al := [(Value.agg #[(Value.int .i64 x14_.q.kind), (Value.string x14_.q.key), (Value.string x14_.q.end_), (Value.string x14_.q.value), (Value.int .i64 x14_.q.lease), (Value.int .i64 x14_.q.rev), (Value.int .i64 x14_.q.limit), (Value.int .i64 x14_.q.sortOrder), (Value.int .i64 x14_.q.sortTarget), (Value.int .i64 x14_.q.minMod), (Value.int .i64 x14_.q.maxMod), (Value.int .i64 x14_.q.minCreate), (Value.int .i64 x14_.q.maxCreate), (Value.bool x14_.q.keysOnly), (Value.bool x14_.q.countOnly), (Value.bool x14_.q.prev), (Value.bool x14_.q.ignoreValue), (Value.bool x14_.q.ignoreLease), x14_.q.cmps, x14_.q.then_, x14_.q.else_])]) (pre := []) rfl rfl cb48 (ckTxnIn R1 x14_ n__ (((hR x14_ hm16_).mono hsR1)) (hP x14_ hm16_) (by omega) (by omega) (ih)) H81_ ?_)
      rintro R77_ v78_ p85_ w82_ hs76_ ⟨b79_, rfl, rfl, he80_⟩ S84_ H83_
      have S86_ := Same.trans S8_ S84_
      have hz_R_R77_ := Sub.trans' hsR1 hs76_
      refine S_list (T_val (v := (Value.agg #[(Value.pointer (some ⟨b79_, 0, none⟩))])) (by kernel_rfl) ?_)
      refine S_list (T_box (v := (Value.agg #[(Value.pointer (some ⟨b79_, 0, none⟩))])) rfl H83_ ?_)
      intro b87_ w88_ S90_ H89_
      replace H89_ : Holds w88_ (cl b87_ 163 [(Value.pointer (some ⟨b79_, 0, none⟩))] :: ro R77_ :: sl 149 1 cv (List.length C) (C.map pv) :: F) := H89_
      have S91_ := Same.trans S86_ S90_
      refine S_list (T_val (v := (Value.iface 161 (Value.pointer (some ⟨b87_, 0, none⟩)))) (by kernel_rfl) ?_)
      refine S_list (T_val (v := (Value.agg #[(Value.iface 161 (Value.pointer (some ⟨b87_, 0, none⟩)))])) (by kernel_rfl) ?_)
      refine S_list (T_box (v := (Value.agg #[(Value.iface 161 (Value.pointer (some ⟨b87_, 0, none⟩)))])) rfl H89_ ?_)
      intro b92_ w93_ S95_ H94_
      have S96_ := Same.trans S91_ S95_
      refine S_list (T_new (obj := .cells #[(Value.pointer (some ⟨b92_, 0, none⟩))] 149) (f := fun b__ => .slice (some ⟨b__, 0, none⟩) 1 1) (A := fun b__ => cl b__ 149 [(Value.pointer (some ⟨b92_, 0, none⟩))]) (by kernel_rfl) (fun l h => h.alloc _ _) H94_ ?_)
      intro b97_ w98_ S100_ H99_
      have S101_ := Same.trans S96_ S100_
      refine S_list (T_append rfl rfl Try.underlying104 z149 rfl (by decide) H99_ 4 rfl (Holds.cl_src H99_ 0 rfl Try.underlying104 (by simp [Value.oneCell']) rfl) (by first | omega | (simp only [List.length_append, List.length_cons, List.length_nil]; omega)) ?_)
      intro v102_ w103_ S105_ H104_
      replace H104_ : Holds w103_ (cl b97_ 149 [(Value.pointer (some ⟨b92_, 0, none⟩))] :: cl b92_ 154 [(Value.iface 161 (Value.pointer (some ⟨b87_, 0, none⟩)))] :: cl b87_ 163 [(Value.pointer (some ⟨b79_, 0, none⟩))] :: ro R77_ :: sl 149 1 v102_ ((List.length C) + 1) ((C.map pv) ++ [(Value.pointer (some ⟨b92_, 0, none⟩))]) :: F) := H104_
      have S106_ := Same.trans S101_ S105_
      refine S_list (T_val (v := v102_) (x_assign rfl) ?_)
      refine wpList_nil ?_
      refine (X_blkN (X_blkN (X_then (hK12_ _ _ ?_))))
      clear hK12_
      refine C_reg ?_
      refine S_list (T_val (v := (Value.int .i64 (k : Int))) (x_move rfl) ?_)
      refine S_list (T_val (v := (Value.int .i64 ((k : Int) + 1))) (x_bin rfl rfl (ib_add (IntWalk.i64_in _ (by omega)))) ?_)
      refine S_list (T_val (v := (Value.int .i64 ((k : Int) + 1))) (x_assign rfl) ?_)
      refine wpList_nil ?_
      refine (X_then ?_)
      have H107_ := ((Holds.bring (Holds.bring H104_ 2 rfl) 3 rfl) :)
      obtain ⟨R108_, hs109_, ⟨R110_, ha111_, hs112_⟩, H113_⟩ := Holds.gift H107_
      have hz_R_R108_ := Sub.trans' hz_R_R77_ hs109_
      have hz_R1_R108_ := Sub.trans' hs76_ hs109_
      have hr114_ : RC R108_ b87_ 0 [(Value.pointer (some ⟨b79_, 0, none⟩))] := (cl_RC ha111_ (Sub.rfl' _)).mono hs112_
      have H115_ := ((Holds.bring (Holds.bring H113_ 2 rfl) 1 rfl) :)
      replace H115_ : Holds w103_ (ro R108_ :: cl b92_ 154 [(Value.iface 161 (Value.pointer (some ⟨b87_, 0, none⟩)))] :: cl b97_ 149 [(Value.pointer (some ⟨b92_, 0, none⟩))] :: sl 149 1 v102_ ((List.length C) + 1) ((C.map pv) ++ [(Value.pointer (some ⟨b92_, 0, none⟩))]) :: F) := H115_
      obtain ⟨R116_, hs117_, ⟨R118_, ha119_, hs120_⟩, H121_⟩ := Holds.gift H115_
      have hz_R_R116_ := Sub.trans' hz_R_R108_ hs117_
      have hz_R1_R116_ := Sub.trans' hz_R1_R108_ hs117_
      have hz_R77__R116_ := Sub.trans' hs109_ hs117_
      have hr122_ : RC R116_ b92_ 0 [(Value.iface 161 (Value.pointer (some ⟨b87_, 0, none⟩)))] := (cl_RC ha119_ (Sub.rfl' _)).mono hs120_
      have hop123_ : OpAt R116_ b92_ x14_ := OpAt.of_txn (b1 := b87_) (b2 := b79_) (by omega) hr122_ (hr114_.mono hs117_) (he80_.mono hz_R77__R116_)
      have H124_ := Holds.resl H121_ 2 rfl (by rw [List.map_append]; rfl : (C.map pv) ++ [(Value.pointer (some ⟨b92_, 0, none⟩))] = (C ++ [b92_]).map pv) (by rw [List.length_append]; rfl : (List.length C) + 1 = (List.length (C ++ [b92_])))
      have H125_ : Holds w103_ (sl 149 1 v102_ (List.length (C ++ [b92_])) ((C ++ [b92_]).map pv) :: ro R116_ :: F) := (Holds.pkF H124_ [2, 0] 1 :)
      exact ⟨⟨R116_, k + 1, v102_, (C ++ [b92_])⟩, ⟨_, congrArg (fun e => mkA 77 e []) (ch (ch (ch (ch rfl rfl) rfl) rfl) (congrArg (Value.int .i64) ((by first | rfl | omega | (simp; done) | (simp; omega)) : (k : Int) + 1 = ((k + 1 : Nat) : Int)))), H125_, S106_, (hz_R_R116_), (by first | assumption | omega | exact rfl), (by rw [List.length_append, hCl]; rfl), (All2.snoc (OpAt.all hz_R1_R116_ hC) hx15_ hop123_)⟩, by first | omega | (dsimp only; omega) | (simp; omega)⟩
     ·have c75_fp : ¬ (x14_.q.kind = 4) := of_decide_eq_false c75_f
      omega
 ·have c11_fp : ¬ ((k : Int) < ((List.length L) : Int)) := of_decide_eq_false c11_f
  refine C_exit (X_thenX (X_thenX (X_blkHit ?_)))
  refine (X_then (hK3_ _ _ ?_))
  clear hK3_
  refine C_seq (fun K126_ hK126_ => ?_)
  refine C_reg ?_
  refine S_list (T_val (v := cv) (x_move rfl) ?_)
  refine S_list (T_val (v := cv) (x_assign rfl) ?_)
  refine wpList_nil ?_
  refine (X_then (hK126_ _ _ ?_))
  clear hK126_
  refine C_ret ?_
  refine R_any (v := cv) (run_results1 rfl rfl) ?_
  have H127_ := ((Holds.bring H7_ 1 rfl) :)
  obtain ⟨R128_, hs129_, ⟨R130_, ha131_, hs132_⟩, H133_⟩ := Holds.gift H127_
  have hz_R_R128_ := Sub.trans' hsR1 hs129_
  have hr134_ : RS R128_ 1 cv (List.length C) (C.map pv) := (sl_RS ha131_ (Sub.rfl' _)).mono hs132_
  exact ⟨R128_, _, _, rfl, hz_R_R128_, ⟨cv, C, rfl, rfl, (hr134_), (by rw [List.take_of_length_le (by omega)] at hC; exact OpAt.all hs129_ hC)⟩, S8_, H133_⟩

theorem ckOpsIn (R : HP) (v : Value) (L : List RT) (hL : RS R 21 v (List.length L) (L.flatMap RT.cells)) (hR : RAts R L) (hl : L.length ≤ 200) (hP : ∀ y ∈ L, Pln y) : TriG Try.prog 50 #[v] R [] (fun R' v__ post__ => ∃ (v' : Value) (T : List Nat), v__ = v' ∧ post__ = [] ∧ (RS R' 1 v' (List.length T) (T.map pv)) ∧ (All2 (OpAt R') T L)) := by
  have key : ∀ (n__ : Nat) (R : HP) (v : Value) (L : List RT) (hL : RS R 21 v (List.length L) (L.flatMap RT.cells)) (hR : RAts R L) (hl : L.length ≤ 200) (hP : ∀ y ∈ L, Pln y) (hn__ : lsz L = n__), TriG Try.prog 50 #[v] R [] (fun R' v__ post__ => ∃ (v' : Value) (T : List Nat), v__ = v' ∧ post__ = [] ∧ (RS R' 1 v' (List.length T) (T.map pv)) ∧ (All2 (OpAt R') T L)) := by
    intro n__
    induction n__ using Nat.strongRecOn with
    | ind n__ ih => intro R v L hL hR hl hP hn__; exact ckOpsIn_step R v L n__ hL hR hl hP (Nat.le_of_eq hn__) (fun R v L hL hR hl hP hms => ih _ hms R v L hL hR hl hP rfl)
  exact key _ R v L hL hR hl hP rfl
end Go.Proofs.Ytlnihndjepjagaa
