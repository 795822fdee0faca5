/- Revisions are brought in. -/
import Derived.Test.YtgeggiebefonhaaHbF0
set_option linter.unusedVariables false
set_option linter.unusedSimpArgs false
namespace Go.Proofs.Ytgeggiebefonhaa
open Go Go.RowKit Gw

set_option maxHeartbeats 400000 in
theorem hRevsIn (R : HP) (v : Value) (K : List RV) (hK : RS R 2 v K.length (K.flatMap RV.cells)) (hl : K.length ≤ 1000) :
    Tri Try.prog 42 #[v] R [] (fun v__ post__ => ∃ (v' : Value), v__ = v' ∧ post__ = [sl 146 2 v' (List.length K) (K.flatMap RV.cells)]) := by
  refine Tri.into (n := 20) (al := [v]) Try.func42 rfl Try.ntmps42 rfl rfl fun w F H => ?_
  replace H : Holds w (ro R :: F) := H
  refine C_seq (fun K1_ hK1_ => ?_)
  refine C_reg ?_
  refine S_list (T_val (v := (Value.slice none 0 0)) (x_assign rfl) ?_)
  refine wpList_nil ?_
  refine (X_then (hK1_ _ _ ?_))
  clear hK1_
  refine C_seq (fun K2_ hK2_ => ?_)
  refine C_reg ?_
  refine S_list (T_val (v := (Value.slice none 0 0)) (x_assign rfl) ?_)
  refine wpList_nil ?_
  refine (X_then (hK2_ _ _ ?_))
  clear hK2_
  refine C_seq (fun K3_ hK3_ => ?_)
  refine C_seq (fun K4_ hK4_ => ?_)
  refine C_reg ?_
  refine S_list (T_val (v := (Value.int .i64 0)) (x_assign rfl) ?_)
  refine wpList_nil ?_
  refine (X_then (hK4_ _ _ ?_))
  clear hK4_
  refine C_block ?_
  have H5_ : Holds w (sl 146 2 (Value.slice none 0 0) (List.length (List.take 0 K)) ((List.take 0 K).flatMap RV.cells) :: ro R :: F) := Holds.add_nil H 146 2
  refine C_loop (γ := Nat × Value) (fun x__ a__ w1__ => match x__ with | ⟨k, v1⟩ => ∃ h : Env, a__ = mkA 20 (upd (upd (upd (upd h 0 v) 2 (Value.slice none 0 0)) 3 v1) 4 (Value.int .i64 (k : Int))) [] ∧ Holds w1__ (sl 146 2 v1 (List.length (List.take k K)) ((List.take k K).flatMap RV.cells) :: ro R :: F) ∧ Same w w1__ ∧ (k ≤ K.length)) (fun x__ => match x__ with | ⟨k, v1⟩ => K.length - k) (⟨0, (Value.slice none 0 0)⟩) ⟨_, congrArg (fun e => mkA 20 e []) (ch (ch (ch (ch rfl rfl) rfl) (rfl : (Value.slice none 0 0) = ((Value.slice none 0 0)))) (congrArg (Value.int .i64) ((by first | rfl | omega | (simp; done) | (simp; omega)) : 0 = (0 : Int)))), H5_, (Same.refl w), (by first | assumption | omega | exact rfl)⟩ ?_
  rintro ⟨k, v1⟩ _ w6_ ⟨h, rfl, H7_, S8_, hk⟩
  refine C_seq (fun K9_ hK9_ => ?_)
  refine C_seq (fun K10_ hK10_ => ?_)
  refine C_reg ?_
  refine S_list (T_val (v := (Value.int .i64 (k : Int))) (x_move rfl) ?_)
  refine S_list (T_val (v := v) (x_move rfl) ?_)
  refine S_list (T_val (v := (Value.int .i64 (K.length : Int))) (x_lenRS rfl hK Try.underlying33) ?_)
  refine S_list (T_val (v := (Value.bool (decide ((k : Int) < (K.length : Int))))) (x_bin rfl rfl rfl) ?_)
  refine wpList_nil ?_
  refine (X_then (hK10_ _ _ ?_))
  clear hK10_
  refine C_cond (b := decide ((k : Int) < (K.length : Int))) rfl (fun c11_t => ?_) (fun c11_f => ?_)
  · have c11_tp : (k : Int) < (K.length : Int) := of_decide_eq_true c11_t
    refine C_skip (X_then (hK9_ _ _ ?_))
    clear hK9_
    refine C_seq (fun K12_ hK12_ => ?_)
    refine C_block ?_
    refine C_reg ?_
    refine S_list (T_val (v := v1) (x_move rfl) ?_)
    refine S_list (T_val (v := v) (x_move rfl) ?_)
    refine S_list (T_val (v := (Value.int .i64 (k : Int))) (x_move rfl) ?_)
    obtain ⟨x13_, hx14_, hm15_⟩ := elem_at K k (by omega)
    refine S_list (T_val (v := (Value.pointer (some ⟨(sb v), so v + (k * 2 + 0), none⟩))) (x_idxRS (v := v) rfl hK rfl Try.underlying33 z38 (by omega) (by omega) (by omega : _ = k) rfl) ?_)
    refine S_list (T_val (v := (Value.agg #[(Value.int .i64 x13_.main), (Value.int .i64 x13_.sub)])) (x_loadN (vs := [(Value.int .i64 x13_.main), (Value.int .i64 x13_.sub)]) rfl Try.underlying38 rfl z38 rfl (RC.cells (RS.rc hK) (Holds.ro_at H7_ 1 rfl) (k * 2 + 0) (fm_cells RV.len hx14_ (i := 0) rfl))) ?_)
    refine S_list (T_callW (al := [(Value.agg #[(Value.int .i64 x13_.main), (Value.int .i64 x13_.sub)])]) rfl rfl cb71 (Calls.into (n := 8) (al := [(Value.agg #[(Value.int .i64 x13_.main), (Value.int .i64 x13_.sub)])]) Try.func71 rfl Try.ntmps71 rfl rfl ?_))
    refine C_seq (fun K16_ hK16_ => ?_)
    refine C_reg ?_
    refine S_list (T_box (v := (Value.agg #[(Value.int .i64 x13_.main), (Value.int .i64 x13_.sub)])) rfl H7_ ?_)
    intro b17_ w18_ S20_ H19_
    replace H19_ : Holds w18_ (cl b17_ 38 [(Value.int .i64 x13_.main), (Value.int .i64 x13_.sub)] :: sl 146 2 v1 (List.length (List.take k K)) ((List.take k K).flatMap RV.cells) :: ro R :: F) := H19_
    have S21_ := Same.trans S8_ S20_
    refine S_list (T_alloc z146 H19_ ?_)
    intro b22_ w23_ S25_ H24_
    replace H24_ : Holds w23_ (cl b22_ 146 [(Value.int .i64 0), (Value.int .i64 0)] :: cl b17_ 38 [(Value.int .i64 x13_.main), (Value.int .i64 x13_.sub)] :: sl 146 2 v1 (List.length (List.take k K)) ((List.take k K).flatMap RV.cells) :: ro R :: F) := H24_
    have S26_ := Same.trans S21_ S25_
    refine wpList_nil ?_
    refine (X_then (hK16_ _ _ ?_))
    clear hK16_
    refine C_seq (fun K27_ hK27_ => ?_)
    refine C_reg ?_
    refine S_list (T_val (v := (Value.pointer (some ⟨b17_, 0, none⟩))) (by kernel_rfl) ?_)
    refine S_list (T_val (v := (Value.int .i64 x13_.main)) (x_load1 rfl Try.underlying2 rfl ((Holds.rd H24_ 1 rfl) 0 (Value.int .i64 x13_.main) rfl)) ?_)
    refine S_list (T_val (v := (Value.pointer (some ⟨b17_, 1, none⟩))) (by kernel_rfl) ?_)
    refine S_list (T_val (v := (Value.int .i64 x13_.sub)) (x_load1 rfl Try.underlying2 rfl ((Holds.rd H24_ 1 rfl) 1 (Value.int .i64 x13_.sub) rfl)) ?_)
    refine S_list (T_val (v := (Value.agg #[(Value.int .i64 x13_.main), (Value.int .i64 x13_.sub)])) (by kernel_rfl) ?_)
    refine S_list0 (T_storeN (vs := [(Value.int .i64 x13_.main), (Value.int .i64 x13_.sub)]) rfl rfl z146 rfl (by simp [Value.oneCell']) H24_ 0 rfl (Nat.le_of_ble_eq_true (by rfl)) ?_)
    intro w28_ S30_ H29_
    replace H29_ : Holds w28_ (cl b22_ 146 [(Value.int .i64 x13_.main), (Value.int .i64 x13_.sub)] :: cl b17_ 38 [(Value.int .i64 x13_.main), (Value.int .i64 x13_.sub)] :: sl 146 2 v1 (List.length (List.take k K)) ((List.take k K).flatMap RV.cells) :: ro R :: F) := H29_
    have S31_ := Same.trans S26_ S30_
    refine wpList_nil ?_
    refine (X_then (hK27_ _ _ ?_))
    clear hK27_
    refine C_ret ?_
    refine R_any (v := (Value.agg #[(Value.int .i64 x13_.main), (Value.int .i64 x13_.sub)])) (run_results1 rfl ⟨_, rfl, load_resN Try.underlying146 rfl z146 rfl (vs := [(Value.int .i64 x13_.main), (Value.int .i64 x13_.sub)]) (Holds.cl_cells H29_ 0 rfl 0 rfl)⟩) ⟨_, rfl, ?_⟩
    refine S_list (T_new (obj := .cells #[(Value.int .i64 x13_.main), (Value.int .i64 x13_.sub)] 146) (f := fun b__ => .slice (some ⟨b__, 0, none⟩) 1 1) (A := fun b__ => cl b__ 146 [(Value.int .i64 x13_.main), (Value.int .i64 x13_.sub)]) (by kernel_rfl) (fun l h => h.alloc _ _) H29_ ?_)
    intro b32_ w33_ S35_ H34_
    replace H34_ : Holds w33_ (cl b32_ 146 [(Value.int .i64 x13_.main), (Value.int .i64 x13_.sub)] :: cl b22_ 146 [(Value.int .i64 x13_.main), (Value.int .i64 x13_.sub)] :: cl b17_ 38 [(Value.int .i64 x13_.main), (Value.int .i64 x13_.sub)] :: sl 146 2 v1 (List.length (List.take k K)) ((List.take k K).flatMap RV.cells) :: ro R :: F) := H34_
    have S36_ := Same.trans S31_ S35_
    refine S_list (T_append rfl rfl Try.underlying90 z146 rfl (by decide) H34_ 3 rfl (Holds.cl_src H34_ 0 rfl Try.underlying90 (by simp [Value.oneCell']) rfl) (by rw [List.length_take]; omega) ?_)
    intro v37_ w38_ S40_ H39_
    replace H39_ : Holds w38_ (cl b32_ 146 [(Value.int .i64 x13_.main), (Value.int .i64 x13_.sub)] :: cl b22_ 146 [(Value.int .i64 x13_.main), (Value.int .i64 x13_.sub)] :: cl b17_ 38 [(Value.int .i64 x13_.main), (Value.int .i64 x13_.sub)] :: sl 146 2 v37_ ((List.length (List.take k K)) + 1) (((List.take k K).flatMap RV.cells) ++ [(Value.int .i64 x13_.main), (Value.int .i64 x13_.sub)]) :: ro R :: F) := H39_
    have S41_ := Same.trans S36_ S40_
    refine S_list (T_val (v := v37_) (x_assign rfl) ?_)
    refine wpList_nil ?_
    refine (X_blkN (X_then (hK12_ _ _ ?_)))
    clear hK12_
    refine C_reg ?_
    refine S_list (T_val (v := (Value.int .i64 (k : Int))) (x_move rfl) ?_)
    refine S_list (T_val (v := (Value.int .i64 ((k : Int) + 1))) (x_bin rfl rfl (ib_add (IntWalk.i64_in _ (by omega)))) ?_)
    refine S_list (T_val (v := (Value.int .i64 ((k : Int) + 1))) (x_assign rfl) ?_)
    refine wpList_nil ?_
    refine (X_then ?_)
    have H42_ : Holds w38_ (cl b32_ 146 [(Value.int .i64 x13_.main), (Value.int .i64 x13_.sub)] :: cl b22_ 146 [(Value.int .i64 x13_.main), (Value.int .i64 x13_.sub)] :: cl b17_ 38 [(Value.int .i64 x13_.main), (Value.int .i64 x13_.sub)] :: sl 146 2 v37_ (List.length (List.take (k + 1) K)) ((List.take (k + 1) K).flatMap RV.cells) :: ro R :: F) := cast2 (P := fun (c__ : List Value) (k__ : Nat) => Holds w38_ (cl b32_ 146 [(Value.int .i64 x13_.main), (Value.int .i64 x13_.sub)] :: cl b22_ 146 [(Value.int .i64 x13_.main), (Value.int .i64 x13_.sub)] :: cl b17_ 38 [(Value.int .i64 x13_.main), (Value.int .i64 x13_.sub)] :: sl 146 2 v37_ k__ c__ :: ro R :: F)) ((by rw [take_snoc hx14_]; simp [RV.cells]) : ((List.take k K).flatMap RV.cells) ++ [(Value.int .i64 x13_.main), (Value.int .i64 x13_.sub)] = (List.take (k + 1) K).flatMap RV.cells) ((by rw [take_snoc hx14_]; simp [RV.cells]) : (List.length (List.take k K)) + 1 = (List.length (List.take (k + 1) K))) H39_
    have H43_ : Holds w38_ (sl 146 2 v37_ (List.length (List.take (k + 1) K)) ((List.take (k + 1) K).flatMap RV.cells) :: ro R :: F) := (Holds.erase (Holds.erase (Holds.erase (Holds.bring (Holds.bring H42_ 4 rfl) 4 rfl) 2) 2) 2)
    exact ⟨⟨k + 1, v37_⟩, ⟨_, congrArg (fun e => mkA 20 e []) (ch (ch (ch (ch rfl rfl) rfl) rfl) (congrArg (Value.int .i64) ((by first | rfl | omega | (simp; done) | (simp; omega)) : (k : Int) + 1 = ((k + 1 : Nat) : Int)))), H43_, S41_, (by first | assumption | omega | exact rfl)⟩, by first | omega | (dsimp only; omega) | (simp; omega)⟩
  · have c11_fp : ¬ ((k : Int) < (K.length : Int)) := of_decide_eq_false c11_f
    refine C_exit (X_thenX (X_thenX (X_blkHit ?_)))
    refine (X_then (hK3_ _ _ ?_))
    clear hK3_
    refine C_seq (fun K44_ hK44_ => ?_)
    refine C_reg ?_
    refine S_list (T_val (v := v1) (x_move rfl) ?_)
    refine S_list (T_val (v := v1) (x_assign rfl) ?_)
    refine wpList_nil ?_
    refine (X_then (hK44_ _ _ ?_))
    clear hK44_
    refine C_ret ?_
    refine R_any (v := v1) (run_results1 rfl rfl) ?_
    have H45_ : Holds w6_ (sl 146 2 v1 (List.length K) (K.flatMap RV.cells) :: ro R :: F) := cast2 (P := fun (c__ : List Value) (k__ : Nat) => Holds w6_ (sl 146 2 v1 k__ c__ :: ro R :: F)) ((by rw [List.take_of_length_le (by omega)]) : (List.take k K).flatMap RV.cells = K.flatMap RV.cells) ((by rw [List.take_of_length_le (by omega)]) : (List.length (List.take k K)) = (List.length K)) H7_
    have H46_ : Holds w6_ (ro R :: sl 146 2 v1 (List.length K) (K.flatMap RV.cells) :: F) := (Holds.bring (Holds.bring H45_ 0 rfl) 1 rfl)
    exact ⟨_, [sl 146 2 v1 (List.length K) (K.flatMap RV.cells)], rfl, ⟨v1, rfl, rfl⟩, S8_, H46_⟩
end Go.Proofs.Ytgeggiebefonhaa
