/- The guard of the statements of logs. -/
import Derived.Test.YtgeggiebefonhaaWbC0
set_option linter.unusedVariables false
set_option linter.unusedSimpArgs false
namespace Go.Proofs.Ytgeggiebefonhaa
open Go Go.RowKit Gw

set_option maxHeartbeats 400000 in
theorem lGood (R : HP) (rv : Value) (L : List WR) (off : Int) (hL : RS R 6 rv L.length (L.flatMap WR.cells)) :
    Tri Try.prog 18 #[rv, (Value.int .i64 off)] R [] (fun v__ post__ => ∃ (b : Bool), v__ = (Value.bool b) ∧ post__ = [] ∧ (b = true → L.length ≤ 60 ∧ 0 ≤ off ∧ off ≤ 1048576 ∧ ∀ x ∈ L, Good x)) := by
  refine Tri.into (n := 53) (al := [rv, (Value.int .i64 off)]) Try.func18 rfl Try.ntmps18 rfl rfl fun w F H => ?_
  replace H : Holds w (ro R :: F) := H
  refine C_seq (fun K1_ hK1_ => ?_)
  refine C_reg ?_
  refine S_list (T_val (v := (Value.bool false)) (x_assign rfl) ?_)
  refine wpList_nil ?_
  refine (X_then (hK1_ _ _ ?_))
  clear hK1_
  refine C_seq (fun K2_ hK2_ => ?_)
  refine C_seq (fun K3_ hK3_ => ?_)
  refine C_reg ?_
  refine S_list (T_val (v := rv) (x_move rfl) ?_)
  refine S_list (T_val (v := (Value.int .i64 (L.length : Int))) (x_lenRS rfl hL Try.underlying49) ?_)
  refine S_list (T_val (v := (Value.bool (decide (60 < (L.length : Int))))) (x_bin rfl rfl rfl) ?_)
  refine S_list (T_val (v := (Value.bool (decide (60 < (L.length : Int))))) (x_move rfl) ?_)
  rcases Bool.eq_false_or_eq_true (decide (60 < (L.length : Int))) with c4_t | c4_f
  · have c4_tp : 60 < (L.length : Int) := of_decide_eq_true c4_t
    refine S_no (j := 3) (dj := 10) (b := true) rfl rfl (congrArg Value.bool c4_t) (by decide) ?_
    refine S_no (j := 3) (dj := 10) (b := true) rfl rfl (congrArg Value.bool c4_t) (by decide) ?_
    refine S_list (T_pickT (v := (Value.bool true)) (congrArg Value.bool c4_t) rfl ?_)
    refine S_list (T_val (v := (Value.bool true)) (x_move rfl) ?_)
    refine S_no (j := 7) (dj := 14) (b := true) rfl rfl rfl (by decide) ?_
    refine S_no (j := 7) (dj := 14) (b := true) rfl rfl rfl (by decide) ?_
    refine S_list (T_pickT (v := (Value.bool true)) rfl rfl ?_)
    refine wpList_nil ?_
    refine (X_then (hK3_ _ _ ?_))
    clear hK3_
    refine C_condT rfl ?_
    refine C_seq (fun K5_ hK5_ => ?_)
    refine C_reg ?_
    refine S_list (T_val (v := (Value.bool false)) (x_assign rfl) ?_)
    refine wpList_nil ?_
    refine (X_then (hK5_ _ _ ?_))
    clear hK5_
    refine C_ret (X_thenR ?_)
    refine R_any (v := (Value.bool false)) (run_results1 rfl rfl) ?_
    exact ⟨_, [], rfl, ⟨false, rfl, rfl, (fun h => by first | (cases h; done) | exact ⟨by omega, by omega, by omega, fun x hx => by obtain ⟨i, hi, e⟩ := List.getElem_of_mem hx; exact hall i x (by omega) (by rw [List.getElem?_eq_getElem hi, e])⟩)⟩, (Same.refl w), H⟩
  · have c4_fp : ¬ (60 < (L.length : Int)) := of_decide_eq_false c4_f
    refine S_yes (j := 3) (dj := 10) (b := false) rfl rfl (congrArg Value.bool c4_f) (T_val (v := (Value.int .i64 off)) (x_move rfl) ?_)
    refine S_yes (j := 3) (dj := 10) (b := false) rfl rfl (congrArg Value.bool c4_f) (T_val (v := (Value.bool (decide (off < 0)))) (x_bin rfl rfl rfl) ?_)
    refine S_list (T_pickF (v := (Value.bool (decide (off < 0)))) (congrArg Value.bool c4_f) rfl ?_)
    refine S_list (T_val (v := (Value.bool (decide (off < 0)))) (x_move rfl) ?_)
    rcases Bool.eq_false_or_eq_true (decide (off < 0)) with c6_t | c6_f
    · have c6_tp : off < 0 := of_decide_eq_true c6_t
      refine S_no (j := 7) (dj := 14) (b := true) rfl rfl (congrArg Value.bool c6_t) (by decide) ?_
      refine S_no (j := 7) (dj := 14) (b := true) rfl rfl (congrArg Value.bool c6_t) (by decide) ?_
      refine S_list (T_pickT (v := (Value.bool true)) (congrArg Value.bool c6_t) rfl ?_)
      refine wpList_nil ?_
      refine (X_then (hK3_ _ _ ?_))
      clear hK3_
      refine C_condT rfl ?_
      refine C_seq (fun K7_ hK7_ => ?_)
      refine C_reg ?_
      refine S_list (T_val (v := (Value.bool false)) (x_assign rfl) ?_)
      refine wpList_nil ?_
      refine (X_then (hK7_ _ _ ?_))
      clear hK7_
      refine C_ret (X_thenR ?_)
      refine R_any (v := (Value.bool false)) (run_results1 rfl rfl) ?_
      exact ⟨_, [], rfl, ⟨false, rfl, rfl, (fun h => by first | (cases h; done) | exact ⟨by omega, by omega, by omega, fun x hx => by obtain ⟨i, hi, e⟩ := List.getElem_of_mem hx; exact hall i x (by omega) (by rw [List.getElem?_eq_getElem hi, e])⟩)⟩, (Same.refl w), H⟩
    · have c6_fp : ¬ (off < 0) := of_decide_eq_false c6_f
      refine S_yes (j := 7) (dj := 14) (b := false) rfl rfl (congrArg Value.bool c6_f) (T_val (v := (Value.int .i64 off)) (x_move rfl) ?_)
      refine S_yes (j := 7) (dj := 14) (b := false) rfl rfl (congrArg Value.bool c6_f) (T_val (v := (Value.bool (decide (1048576 < off)))) (x_bin rfl rfl rfl) ?_)
      refine S_list (T_pickF (v := (Value.bool (decide (1048576 < off)))) (congrArg Value.bool c6_f) rfl ?_)
      refine wpList_nil ?_
      refine (X_then (hK3_ _ _ ?_))
      clear hK3_
      refine C_cond (b := decide (1048576 < off)) rfl (fun c8_t => ?_) (fun c8_f => ?_)
      · have c8_tp : 1048576 < off := of_decide_eq_true c8_t
        refine C_seq (fun K9_ hK9_ => ?_)
        refine C_reg ?_
        refine S_list (T_val (v := (Value.bool false)) (x_assign rfl) ?_)
        refine wpList_nil ?_
        refine (X_then (hK9_ _ _ ?_))
        clear hK9_
        refine C_ret (X_thenR ?_)
        refine R_any (v := (Value.bool false)) (run_results1 rfl rfl) ?_
        exact ⟨_, [], rfl, ⟨false, rfl, rfl, (fun h => by first | (cases h; done) | exact ⟨by omega, by omega, by omega, fun x hx => by obtain ⟨i, hi, e⟩ := List.getElem_of_mem hx; exact hall i x (by omega) (by rw [List.getElem?_eq_getElem hi, e])⟩)⟩, (Same.refl w), H⟩
      · have c8_fp : ¬ (1048576 < off) := of_decide_eq_false c8_f
        refine C_skip (X_then (hK2_ _ _ ?_))
        clear hK2_
        refine C_seq (fun K10_ hK10_ => ?_)
        refine C_seq (fun K11_ hK11_ => ?_)
        refine C_reg ?_
        refine S_list (T_val (v := rv) (x_move rfl) ?_)
        refine S_list (T_val (v := (Value.int .i64 (L.length : Int))) (x_lenRS rfl hL Try.underlying49) ?_)
        refine S_list (T_val (v := (Value.int .i64 0)) (x_move rfl) ?_)
        refine wpList_nil ?_
        refine (X_then (hK11_ _ _ ?_))
        clear hK11_
        refine C_block ?_
        refine C_loop (γ := Nat × Bool) (fun x a w1 => match x with | ⟨k, t4_v⟩ => ∃ h : Env, a = mkA 53 (upd (upd (upd (upd h 4 (Value.bool t4_v)) 18 rv) 19 (Value.int .i64 (L.length : Int))) 20 (Value.int .i64 (k : Int))) [] ∧ Holds w1 (ro R :: F) ∧ Same w w1 ∧ (k ≤ L.length) ∧ (∀ (i : Nat) (x : WR), i < k → L[i]? = some x → Good x)) (fun x => match x with | ⟨k, t4_v⟩ => L.length - k) (⟨0, false⟩) ⟨_, congrArg (fun e => mkA 53 e []) (ch (ch (ch (ch rfl rfl) rfl) rfl) (congrArg (Value.int .i64) ((by first | rfl | omega | (simp; done) | (simp; omega)) : 0 = (0 : Int)))), H, (Same.refl w), (by first | assumption | omega | exact rfl), (fun i x h => by omega)⟩ ?_
        rintro ⟨k, t4_v⟩ _ w12_ ⟨h, rfl, H13_, S14_, hk, hall⟩
        refine C_seq (fun K15_ hK15_ => ?_)
        refine C_reg ?_
        refine S_list (T_val (v := (Value.bool (decide ((k : Int) < (L.length : Int))))) (x_bin rfl rfl rfl) ?_)
        refine wpList_nil ?_
        refine (X_then (hK15_ _ _ ?_))
        clear hK15_
        refine C_seq (fun K16_ hK16_ => ?_)
        refine C_cond (b := decide ((k : Int) < (L.length : Int))) rfl (fun c17_t => ?_) (fun c17_f => ?_)
        · have c17_tp : (k : Int) < (L.length : Int) := of_decide_eq_true c17_t
          refine C_skip (X_then (hK16_ _ _ ?_))
          clear hK16_
          refine C_seq (fun K18_ hK18_ => ?_)
          refine C_block ?_
          refine C_seq (fun K19_ hK19_ => ?_)
          refine C_reg ?_
          obtain ⟨x20_, hx21_, hm22_⟩ := elem_at L k (by omega)
          refine S_list (T_val (v := (Value.pointer (some ⟨(sb rv), so rv + (k * 6 + 0), none⟩))) (x_idxRS (v := rv) rfl hL rfl Try.underlying49 z63 (by omega) (by omega) (by omega : _ = k) rfl) ?_)
          refine S_list (T_val (v := (Value.agg #[(Value.int .i64 x20_.type_), (Value.bool x20_.hasType), (Value.int .u32 x20_.crc), (Value.bool x20_.hasCrc), (Value.string x20_.data), (Value.bool x20_.hasData)])) (x_loadN (vs := [(Value.int .i64 x20_.type_), (Value.bool x20_.hasType), (Value.int .u32 x20_.crc), (Value.bool x20_.hasCrc), (Value.string x20_.data), (Value.bool x20_.hasData)]) rfl Try.underlying63 rfl z63 rfl (RC.cells (RS.rc hL) (Holds.ro_at H13_ 0 rfl) (k * 6 + 0) (fm_cells WR.len hx21_ (i := 0) rfl))) ?_)
          refine S_list (T_alloc z63 H13_ ?_)
          intro b23_ w24_ S26_ H25_
          replace H25_ : Holds w24_ (cl b23_ 63 [(Value.int .i64 0), (Value.bool false), (Value.int .u32 0), (Value.bool false), (Value.string ByteArray.empty), (Value.bool false)] :: ro R :: F) := H25_
          have S27_ := Same.trans S14_ S26_
          refine S_list0 (T_storeN (vs := [(Value.int .i64 x20_.type_), (Value.bool x20_.hasType), (Value.int .u32 x20_.crc), (Value.bool x20_.hasCrc), (Value.string x20_.data), (Value.bool x20_.hasData)]) rfl rfl z63 rfl (by simp [Value.oneCell']) H25_ 0 rfl (Nat.le_of_ble_eq_true (by rfl)) ?_)
          intro w28_ S30_ H29_
          replace H29_ : Holds w28_ (cl b23_ 63 [(Value.int .i64 x20_.type_), (Value.bool x20_.hasType), (Value.int .u32 x20_.crc), (Value.bool x20_.hasCrc), (Value.string x20_.data), (Value.bool x20_.hasData)] :: ro R :: F) := H29_
          have S31_ := Same.trans S27_ S30_
          refine wpList_nil ?_
          refine (X_then (hK19_ _ _ ?_))
          clear hK19_
          refine C_seq (fun K32_ hK32_ => ?_)
          refine C_reg ?_
          refine S_list (T_val (v := (Value.pointer (some ⟨b23_, 1, none⟩))) (by kernel_rfl) ?_)
          refine S_list (T_val (v := (Value.bool x20_.hasType)) (x_load1 rfl Try.underlying4 rfl ((Holds.rd H29_ 0 rfl) 1 (Value.bool x20_.hasType) rfl)) ?_)
          refine S_list (T_val (v := (Value.bool (!x20_.hasType))) (x_not rfl) ?_)
          refine S_list (T_val (v := (Value.bool (!x20_.hasType))) (x_move rfl) ?_)
          rcases Bool.eq_false_or_eq_true (!x20_.hasType) with c33_t | c33_f
          · skip
            refine S_no (j := 3) (dj := 27) (b := true) rfl rfl (congrArg Value.bool c33_t) (by decide) ?_
            refine S_no (j := 3) (dj := 27) (b := true) rfl rfl (congrArg Value.bool c33_t) (by decide) ?_
            refine S_no (j := 3) (dj := 27) (b := true) rfl rfl (congrArg Value.bool c33_t) (by decide) ?_
            refine S_no (j := 3) (dj := 27) (b := true) rfl rfl (congrArg Value.bool c33_t) (by decide) ?_
            refine S_list (T_pickT (v := (Value.bool true)) (congrArg Value.bool c33_t) rfl ?_)
            refine S_list (T_val (v := (Value.bool true)) (x_move rfl) ?_)
            refine S_no (j := 9) (dj := 33) (b := true) rfl rfl rfl (by decide) ?_
            refine S_no (j := 9) (dj := 33) (b := true) rfl rfl rfl (by decide) ?_
            refine S_no (j := 9) (dj := 33) (b := true) rfl rfl rfl (by decide) ?_
            refine S_no (j := 9) (dj := 33) (b := true) rfl rfl rfl (by decide) ?_
            refine S_noU (j := 13) (dj := 37) rfl rfl rfl ?_
            refine S_noU (j := 13) (dj := 37) rfl rfl rfl ?_
            refine S_noU (j := 13) (dj := 37) rfl rfl rfl ?_
            refine S_no (j := 9) (dj := 33) (b := true) rfl rfl rfl (by decide) ?_
            refine S_list (T_pickT (v := (Value.bool true)) rfl rfl ?_)
            refine S_list (T_val (v := (Value.bool true)) (x_move rfl) ?_)
            refine S_no (j := 19) (dj := 43) (b := true) rfl rfl rfl (by decide) ?_
            refine S_no (j := 19) (dj := 43) (b := true) rfl rfl rfl (by decide) ?_
            refine S_no (j := 19) (dj := 43) (b := true) rfl rfl rfl (by decide) ?_
            refine S_no (j := 19) (dj := 43) (b := true) rfl rfl rfl (by decide) ?_
            refine S_noU (j := 23) (dj := 47) rfl rfl rfl ?_
            refine S_noU (j := 23) (dj := 47) rfl rfl rfl ?_
            refine S_no (j := 19) (dj := 43) (b := true) rfl rfl rfl (by decide) ?_
            refine S_list (T_pickT (v := (Value.bool true)) rfl rfl ?_)
            refine wpList_nil ?_
            refine (X_then (hK32_ _ _ ?_))
            clear hK32_
            refine C_condT rfl ?_
            refine C_seq (fun K34_ hK34_ => ?_)
            refine C_reg ?_
            refine S_list (T_val (v := (Value.bool false)) (x_assign rfl) ?_)
            refine wpList_nil ?_
            refine (X_then (hK34_ _ _ ?_))
            clear hK34_
            refine C_ret (X_blkR (X_thenR (X_thenR (X_blkR (X_thenR ?_)))))
            refine R_any (v := (Value.bool false)) (run_results1 rfl rfl) ?_
            have H35_ : Holds w28_ (ro R :: F) := (Holds.erase (Holds.bring H29_ 1 rfl) 1)
            exact ⟨_, [], rfl, ⟨false, rfl, rfl, (fun h => by first | (cases h; done) | exact ⟨by omega, by omega, by omega, fun x hx => by obtain ⟨i, hi, e⟩ := List.getElem_of_mem hx; exact hall i x (by omega) (by rw [List.getElem?_eq_getElem hi, e])⟩)⟩, S31_, H35_⟩
          · skip
            refine S_yes (j := 3) (dj := 27) (b := false) rfl rfl (congrArg Value.bool c33_f) (T_val (v := (Value.pointer (some ⟨b23_, 4, none⟩))) (by kernel_rfl) ?_)
            refine S_yes (j := 3) (dj := 27) (b := false) rfl rfl (congrArg Value.bool c33_f) (T_val (v := (Value.string x20_.data)) (x_load1 rfl Try.underlying9 rfl ((Holds.rd H29_ 0 rfl) 4 (Value.string x20_.data) rfl)) ?_)
            refine S_yes (j := 3) (dj := 27) (b := false) rfl rfl (congrArg Value.bool c33_f) (T_val (v := (Value.int .i64 (x20_.data.size : Int))) (x_lenT rfl Try.underlying9) ?_)
            refine S_yes (j := 3) (dj := 27) (b := false) rfl rfl (congrArg Value.bool c33_f) (T_val (v := (Value.bool (decide (5000 < (x20_.data.size : Int))))) (x_bin rfl rfl rfl) ?_)
            refine S_list (T_pickF (v := (Value.bool (decide (5000 < (x20_.data.size : Int))))) (congrArg Value.bool c33_f) rfl ?_)
            refine S_list (T_val (v := (Value.bool (decide (5000 < (x20_.data.size : Int))))) (x_move rfl) ?_)
            rcases Bool.eq_false_or_eq_true (decide (5000 < (x20_.data.size : Int))) with c36_t | c36_f
            · have c36_tp : 5000 < (x20_.data.size : Int) := of_decide_eq_true c36_t
              refine S_no (j := 9) (dj := 33) (b := true) rfl rfl (congrArg Value.bool c36_t) (by decide) ?_
              refine S_no (j := 9) (dj := 33) (b := true) rfl rfl (congrArg Value.bool c36_t) (by decide) ?_
              refine S_no (j := 9) (dj := 33) (b := true) rfl rfl (congrArg Value.bool c36_t) (by decide) ?_
              refine S_no (j := 9) (dj := 33) (b := true) rfl rfl (congrArg Value.bool c36_t) (by decide) ?_
              refine S_noU (j := 13) (dj := 37) rfl rfl rfl ?_
              refine S_noU (j := 13) (dj := 37) rfl rfl rfl ?_
              refine S_noU (j := 13) (dj := 37) rfl rfl rfl ?_
              refine S_no (j := 9) (dj := 33) (b := true) rfl rfl (congrArg Value.bool c36_t) (by decide) ?_
              refine S_list (T_pickT (v := (Value.bool true)) (congrArg Value.bool c36_t) rfl ?_)
              refine S_list (T_val (v := (Value.bool true)) (x_move rfl) ?_)
              refine S_no (j := 19) (dj := 43) (b := true) rfl rfl rfl (by decide) ?_
              refine S_no (j := 19) (dj := 43) (b := true) rfl rfl rfl (by decide) ?_
              refine S_no (j := 19) (dj := 43) (b := true) rfl rfl rfl (by decide) ?_
              refine S_no (j := 19) (dj := 43) (b := true) rfl rfl rfl (by decide) ?_
              refine S_noU (j := 23) (dj := 47) rfl rfl rfl ?_
              refine S_noU (j := 23) (dj := 47) rfl rfl rfl ?_
              refine S_no (j := 19) (dj := 43) (b := true) rfl rfl rfl (by decide) ?_
              refine S_list (T_pickT (v := (Value.bool true)) rfl rfl ?_)
              refine wpList_nil ?_
              refine (X_then (hK32_ _ _ ?_))
              clear hK32_
              refine C_condT rfl ?_
              refine C_seq (fun K37_ hK37_ => ?_)
              refine C_reg ?_
              refine S_list (T_val (v := (Value.bool false)) (x_assign rfl) ?_)
              refine wpList_nil ?_
              refine (X_then (hK37_ _ _ ?_))
              clear hK37_
              refine C_ret (X_blkR (X_thenR (X_thenR (X_blkR (X_thenR ?_)))))
              refine R_any (v := (Value.bool false)) (run_results1 rfl rfl) ?_
              have H38_ : Holds w28_ (ro R :: F) := (Holds.erase (Holds.bring H29_ 1 rfl) 1)
              exact ⟨_, [], rfl, ⟨false, rfl, rfl, (fun h => by first | (cases h; done) | exact ⟨by omega, by omega, by omega, fun x hx => by obtain ⟨i, hi, e⟩ := List.getElem_of_mem hx; exact hall i x (by omega) (by rw [List.getElem?_eq_getElem hi, e])⟩)⟩, S31_, H38_⟩
            · have c36_fp : ¬ (5000 < (x20_.data.size : Int)) := of_decide_eq_false c36_f
              refine S_yes (j := 9) (dj := 33) (b := false) rfl rfl (congrArg Value.bool c36_f) (T_val (v := (Value.pointer (some ⟨b23_, 5, none⟩))) (by kernel_rfl) ?_)
              refine S_yes (j := 9) (dj := 33) (b := false) rfl rfl (congrArg Value.bool c36_f) (T_val (v := (Value.bool x20_.hasData)) (x_load1 rfl Try.underlying4 rfl ((Holds.rd H29_ 0 rfl) 5 (Value.bool x20_.hasData) rfl)) ?_)
              refine S_yes (j := 9) (dj := 33) (b := false) rfl rfl (congrArg Value.bool c36_f) (T_val (v := (Value.bool (!x20_.hasData))) (x_not rfl) ?_)
              refine S_yes (j := 9) (dj := 33) (b := false) rfl rfl (congrArg Value.bool c36_f) (T_val (v := (Value.bool (!x20_.hasData))) (x_move rfl) ?_)
              rcases Bool.eq_false_or_eq_true (!x20_.hasData) with c39_t | c39_f
              · skip
                refine S_yes (j := 13) (dj := 37) (b := true) rfl rfl (congrArg Value.bool c39_t) (T_val (v := (Value.pointer (some ⟨b23_, 4, none⟩))) (by kernel_rfl) ?_)
                refine S_yes (j := 13) (dj := 37) (b := true) rfl rfl (congrArg Value.bool c39_t) (T_val (v := (Value.string x20_.data)) (x_load1 rfl Try.underlying9 rfl ((Holds.rd H29_ 0 rfl) 4 (Value.string x20_.data) rfl)) ?_)
                refine S_yes (j := 13) (dj := 37) (b := true) rfl rfl (congrArg Value.bool c39_t) (T_val (v := (Value.bool (!(x20_.data.toList == (ByteArray.mk #[]).toList)))) (x_str rfl rfl rfl (by decide)) ?_)
                refine S_yes (j := 9) (dj := 33) (b := false) rfl rfl (congrArg Value.bool c36_f) (T_pickT (v := (Value.bool (!(x20_.data.toList == (ByteArray.mk #[]).toList)))) (congrArg Value.bool c39_t) rfl ?_)
                refine S_list (T_pickF (v := (Value.bool (!(x20_.data.toList == (ByteArray.mk #[]).toList)))) (congrArg Value.bool c36_f) rfl ?_)
                refine S_list (T_val (v := (Value.bool (!(x20_.data.toList == (ByteArray.mk #[]).toList)))) (x_move rfl) ?_)
                rcases Bool.eq_false_or_eq_true (!(x20_.data.toList == (ByteArray.mk #[]).toList)) with c40_t | c40_f
                · skip
                  refine S_no (j := 19) (dj := 43) (b := true) rfl rfl (congrArg Value.bool c40_t) (by decide) ?_
                  refine S_no (j := 19) (dj := 43) (b := true) rfl rfl (congrArg Value.bool c40_t) (by decide) ?_
                  refine S_no (j := 19) (dj := 43) (b := true) rfl rfl (congrArg Value.bool c40_t) (by decide) ?_
                  refine S_no (j := 19) (dj := 43) (b := true) rfl rfl (congrArg Value.bool c40_t) (by decide) ?_
                  refine S_noU (j := 23) (dj := 47) rfl rfl rfl ?_
                  refine S_noU (j := 23) (dj := 47) rfl rfl rfl ?_
                  refine S_no (j := 19) (dj := 43) (b := true) rfl rfl (congrArg Value.bool c40_t) (by decide) ?_
                  refine S_list (T_pickT (v := (Value.bool true)) (congrArg Value.bool c40_t) rfl ?_)
                  refine wpList_nil ?_
                  refine (X_then (hK32_ _ _ ?_))
                  clear hK32_
                  refine C_condT rfl ?_
                  refine C_seq (fun K41_ hK41_ => ?_)
                  refine C_reg ?_
                  refine S_list (T_val (v := (Value.bool false)) (x_assign rfl) ?_)
                  refine wpList_nil ?_
                  refine (X_then (hK41_ _ _ ?_))
                  clear hK41_
                  refine C_ret (X_blkR (X_thenR (X_thenR (X_blkR (X_thenR ?_)))))
                  refine R_any (v := (Value.bool false)) (run_results1 rfl rfl) ?_
                  have H42_ : Holds w28_ (ro R :: F) := (Holds.erase (Holds.bring H29_ 1 rfl) 1)
                  exact ⟨_, [], rfl, ⟨false, rfl, rfl, (fun h => by first | (cases h; done) | exact ⟨by omega, by omega, by omega, fun x hx => by obtain ⟨i, hi, e⟩ := List.getElem_of_mem hx; exact hall i x (by omega) (by rw [List.getElem?_eq_getElem hi, e])⟩)⟩, S31_, H42_⟩
                · skip
                  refine S_yes (j := 19) (dj := 43) (b := false) rfl rfl (congrArg Value.bool c40_f) (T_val (v := (Value.pointer (some ⟨b23_, 0, none⟩))) (by kernel_rfl) ?_)
                  refine S_yes (j := 19) (dj := 43) (b := false) rfl rfl (congrArg Value.bool c40_f) (T_val (v := (Value.int .i64 x20_.type_)) (x_load1 rfl Try.underlying2 rfl ((Holds.rd H29_ 0 rfl) 0 (Value.int .i64 x20_.type_) rfl)) ?_)
                  refine S_yes (j := 19) (dj := 43) (b := false) rfl rfl (congrArg Value.bool c40_f) (T_val (v := (Value.bool (decide (x20_.type_ = 4)))) (x_bin rfl rfl rfl) ?_)
                  refine S_yes (j := 19) (dj := 43) (b := false) rfl rfl (congrArg Value.bool c40_f) (T_val (v := (Value.bool (decide (x20_.type_ = 4)))) (x_move rfl) ?_)
                  rcases Bool.eq_false_or_eq_true (decide (x20_.type_ = 4)) with c43_t | c43_f
                  · have c43_tp : x20_.type_ = 4 := of_decide_eq_true c43_t
                    refine S_yes (j := 23) (dj := 47) (b := true) rfl rfl (congrArg Value.bool c43_t) (T_val (v := (Value.pointer (some ⟨b23_, 5, none⟩))) (by kernel_rfl) ?_)
                    refine S_yes (j := 23) (dj := 47) (b := true) rfl rfl (congrArg Value.bool c43_t) (T_val (v := (Value.bool x20_.hasData)) (x_load1 rfl Try.underlying4 rfl ((Holds.rd H29_ 0 rfl) 5 (Value.bool x20_.hasData) rfl)) ?_)
                    refine S_yes (j := 19) (dj := 43) (b := false) rfl rfl (congrArg Value.bool c40_f) (T_pickT (v := (Value.bool x20_.hasData)) (congrArg Value.bool c43_t) rfl ?_)
                    refine S_list (T_pickF (v := (Value.bool x20_.hasData)) (congrArg Value.bool c40_f) rfl ?_)
                    refine wpList_nil ?_
                    refine (X_then (hK32_ _ _ ?_))
                    clear hK32_
                    refine C_cond (b := x20_.hasData) rfl (fun c44_t => ?_) (fun c44_f => ?_)
                    · skip
                      refine C_seq (fun K45_ hK45_ => ?_)
                      refine C_reg ?_
                      refine S_list (T_val (v := (Value.bool false)) (x_assign rfl) ?_)
                      refine wpList_nil ?_
                      refine (X_then (hK45_ _ _ ?_))
                      clear hK45_
                      refine C_ret (X_blkR (X_thenR (X_thenR (X_blkR (X_thenR ?_)))))
                      refine R_any (v := (Value.bool false)) (run_results1 rfl rfl) ?_
                      have H46_ : Holds w28_ (ro R :: F) := (Holds.erase (Holds.bring H29_ 1 rfl) 1)
                      exact ⟨_, [], rfl, ⟨false, rfl, rfl, (fun h => by first | (cases h; done) | exact ⟨by omega, by omega, by omega, fun x hx => by obtain ⟨i, hi, e⟩ := List.getElem_of_mem hx; exact hall i x (by omega) (by rw [List.getElem?_eq_getElem hi, e])⟩)⟩, S31_, H46_⟩
                    · skip
                      refine C_skip (X_blkN (X_then (hK18_ _ _ ?_)))
                      clear hK18_
                      refine C_reg ?_
                      refine S_list (T_val (v := (Value.int .i64 ((k : Int) + 1))) (x_bin rfl rfl (ib_add (IntWalk.i64_in _ (by omega)))) ?_)
                      refine S_list (T_val (v := (Value.int .i64 ((k : Int) + 1))) (x_move rfl) ?_)
                      refine wpList_nil ?_
                      refine (X_then ?_)
                      have H47_ : Holds w28_ (ro R :: F) := (Holds.erase (Holds.bring H29_ 1 rfl) 1)
                      exact ⟨⟨k + 1, t4_v⟩, ⟨_, congrArg (fun e => mkA 53 e []) (ch (ch (ch (ch rfl rfl) rfl) rfl) (congrArg (Value.int .i64) ((by first | rfl | omega | (simp; done) | (simp; omega)) : (k : Int) + 1 = ((k + 1 : Nat) : Int)))), H47_, S31_, (by first | assumption | omega | exact rfl), (fun i y hi hy => by
            rcases Nat.lt_or_ge i k with hlt | hge
            · exact hall i y hlt hy
            · obtain rfl : i = k := by omega
              rw [hx21_] at hy; cases hy; exact ⟨by simp_all, by omega, fun h => by first | (simp_all; done) | exact empty_of (by simpa using c40_f)⟩)⟩, by first | omega | (dsimp only; omega) | (simp; omega)⟩
                  · have c43_fp : ¬ (x20_.type_ = 4) := of_decide_eq_false c43_f
                    refine S_no (j := 23) (dj := 47) (b := false) rfl rfl (congrArg Value.bool c43_f) (by decide) ?_
                    refine S_no (j := 23) (dj := 47) (b := false) rfl rfl (congrArg Value.bool c43_f) (by decide) ?_
                    refine S_yes (j := 19) (dj := 43) (b := false) rfl rfl (congrArg Value.bool c40_f) (T_pickF (v := (Value.bool false)) (congrArg Value.bool c43_f) rfl ?_)
                    refine S_list (T_pickF (v := (Value.bool false)) (congrArg Value.bool c40_f) rfl ?_)
                    refine wpList_nil ?_
                    refine (X_then (hK32_ _ _ ?_))
                    clear hK32_
                    refine C_condF rfl ?_
                    refine C_skip (X_blkN (X_then (hK18_ _ _ ?_)))
                    clear hK18_
                    refine C_reg ?_
                    refine S_list (T_val (v := (Value.int .i64 ((k : Int) + 1))) (x_bin rfl rfl (ib_add (IntWalk.i64_in _ (by omega)))) ?_)
                    refine S_list (T_val (v := (Value.int .i64 ((k : Int) + 1))) (x_move rfl) ?_)
                    refine wpList_nil ?_
                    refine (X_then ?_)
                    have H48_ : Holds w28_ (ro R :: F) := (Holds.erase (Holds.bring H29_ 1 rfl) 1)
                    exact ⟨⟨k + 1, t4_v⟩, ⟨_, congrArg (fun e => mkA 53 e []) (ch (ch (ch (ch rfl rfl) rfl) rfl) (congrArg (Value.int .i64) ((by first | rfl | omega | (simp; done) | (simp; omega)) : (k : Int) + 1 = ((k + 1 : Nat) : Int)))), H48_, S31_, (by first | assumption | omega | exact rfl), (fun i y hi hy => by
            rcases Nat.lt_or_ge i k with hlt | hge
            · exact hall i y hlt hy
            · obtain rfl : i = k := by omega
              rw [hx21_] at hy; cases hy; exact ⟨by simp_all, by omega, fun h => by first | (simp_all; done) | exact empty_of (by simpa using c40_f)⟩)⟩, by first | omega | (dsimp only; omega) | (simp; omega)⟩
              · skip
                refine S_no (j := 13) (dj := 37) (b := false) rfl rfl (congrArg Value.bool c39_f) (by decide) ?_
                refine S_no (j := 13) (dj := 37) (b := false) rfl rfl (congrArg Value.bool c39_f) (by decide) ?_
                refine S_no (j := 13) (dj := 37) (b := false) rfl rfl (congrArg Value.bool c39_f) (by decide) ?_
                refine S_yes (j := 9) (dj := 33) (b := false) rfl rfl (congrArg Value.bool c36_f) (T_pickF (v := (Value.bool false)) (congrArg Value.bool c39_f) rfl ?_)
                refine S_list (T_pickF (v := (Value.bool false)) (congrArg Value.bool c36_f) rfl ?_)
                refine S_list (T_val (v := (Value.bool false)) (x_move rfl) ?_)
                refine S_yes (j := 19) (dj := 43) (b := false) rfl rfl rfl (T_val (v := (Value.pointer (some ⟨b23_, 0, none⟩))) (by kernel_rfl) ?_)
                refine S_yes (j := 19) (dj := 43) (b := false) rfl rfl rfl (T_val (v := (Value.int .i64 x20_.type_)) (x_load1 rfl Try.underlying2 rfl ((Holds.rd H29_ 0 rfl) 0 (Value.int .i64 x20_.type_) rfl)) ?_)
                refine S_yes (j := 19) (dj := 43) (b := false) rfl rfl rfl (T_val (v := (Value.bool (decide (x20_.type_ = 4)))) (x_bin rfl rfl rfl) ?_)
                refine S_yes (j := 19) (dj := 43) (b := false) rfl rfl rfl (T_val (v := (Value.bool (decide (x20_.type_ = 4)))) (x_move rfl) ?_)
                rcases Bool.eq_false_or_eq_true (decide (x20_.type_ = 4)) with c49_t | c49_f
                · have c49_tp : x20_.type_ = 4 := of_decide_eq_true c49_t
                  refine S_yes (j := 23) (dj := 47) (b := true) rfl rfl (congrArg Value.bool c49_t) (T_val (v := (Value.pointer (some ⟨b23_, 5, none⟩))) (by kernel_rfl) ?_)
                  refine S_yes (j := 23) (dj := 47) (b := true) rfl rfl (congrArg Value.bool c49_t) (T_val (v := (Value.bool x20_.hasData)) (x_load1 rfl Try.underlying4 rfl ((Holds.rd H29_ 0 rfl) 5 (Value.bool x20_.hasData) rfl)) ?_)
                  refine S_yes (j := 19) (dj := 43) (b := false) rfl rfl rfl (T_pickT (v := (Value.bool x20_.hasData)) (congrArg Value.bool c49_t) rfl ?_)
                  refine S_list (T_pickF (v := (Value.bool x20_.hasData)) rfl rfl ?_)
                  refine wpList_nil ?_
                  refine (X_then (hK32_ _ _ ?_))
                  clear hK32_
                  refine C_cond (b := x20_.hasData) rfl (fun c50_t => ?_) (fun c50_f => ?_)
                  · skip
                    refine C_seq (fun K51_ hK51_ => ?_)
                    refine C_reg ?_
                    refine S_list (T_val (v := (Value.bool false)) (x_assign rfl) ?_)
                    refine wpList_nil ?_
                    refine (X_then (hK51_ _ _ ?_))
                    clear hK51_
                    refine C_ret (X_blkR (X_thenR (X_thenR (X_blkR (X_thenR ?_)))))
                    refine R_any (v := (Value.bool false)) (run_results1 rfl rfl) ?_
                    have H52_ : Holds w28_ (ro R :: F) := (Holds.erase (Holds.bring H29_ 1 rfl) 1)
                    exact ⟨_, [], rfl, ⟨false, rfl, rfl, (fun h => by first | (cases h; done) | exact ⟨by omega, by omega, by omega, fun x hx => by obtain ⟨i, hi, e⟩ := List.getElem_of_mem hx; exact hall i x (by omega) (by rw [List.getElem?_eq_getElem hi, e])⟩)⟩, S31_, H52_⟩
                  · skip
                    refine C_skip (X_blkN (X_then (hK18_ _ _ ?_)))
                    clear hK18_
                    refine C_reg ?_
                    refine S_list (T_val (v := (Value.int .i64 ((k : Int) + 1))) (x_bin rfl rfl (ib_add (IntWalk.i64_in _ (by omega)))) ?_)
                    refine S_list (T_val (v := (Value.int .i64 ((k : Int) + 1))) (x_move rfl) ?_)
                    refine wpList_nil ?_
                    refine (X_then ?_)
                    have H53_ : Holds w28_ (ro R :: F) := (Holds.erase (Holds.bring H29_ 1 rfl) 1)
                    exact ⟨⟨k + 1, t4_v⟩, ⟨_, congrArg (fun e => mkA 53 e []) (ch (ch (ch (ch rfl rfl) rfl) rfl) (congrArg (Value.int .i64) ((by first | rfl | omega | (simp; done) | (simp; omega)) : (k : Int) + 1 = ((k + 1 : Nat) : Int)))), H53_, S31_, (by first | assumption | omega | exact rfl), (fun i y hi hy => by
            rcases Nat.lt_or_ge i k with hlt | hge
            · exact hall i y hlt hy
            · obtain rfl : i = k := by omega
              rw [hx21_] at hy; cases hy; exact ⟨by simp_all, by omega, fun h => by first | (simp_all; done)⟩)⟩, by first | omega | (dsimp only; omega) | (simp; omega)⟩
                · have c49_fp : ¬ (x20_.type_ = 4) := of_decide_eq_false c49_f
                  refine S_no (j := 23) (dj := 47) (b := false) rfl rfl (congrArg Value.bool c49_f) (by decide) ?_
                  refine S_no (j := 23) (dj := 47) (b := false) rfl rfl (congrArg Value.bool c49_f) (by decide) ?_
                  refine S_yes (j := 19) (dj := 43) (b := false) rfl rfl rfl (T_pickF (v := (Value.bool false)) (congrArg Value.bool c49_f) rfl ?_)
                  refine S_list (T_pickF (v := (Value.bool false)) rfl rfl ?_)
                  refine wpList_nil ?_
                  refine (X_then (hK32_ _ _ ?_))
                  clear hK32_
                  refine C_condF rfl ?_
                  refine C_skip (X_blkN (X_then (hK18_ _ _ ?_)))
                  clear hK18_
                  refine C_reg ?_
                  refine S_list (T_val (v := (Value.int .i64 ((k : Int) + 1))) (x_bin rfl rfl (ib_add (IntWalk.i64_in _ (by omega)))) ?_)
                  refine S_list (T_val (v := (Value.int .i64 ((k : Int) + 1))) (x_move rfl) ?_)
                  refine wpList_nil ?_
                  refine (X_then ?_)
                  have H54_ : Holds w28_ (ro R :: F) := (Holds.erase (Holds.bring H29_ 1 rfl) 1)
                  exact ⟨⟨k + 1, t4_v⟩, ⟨_, congrArg (fun e => mkA 53 e []) (ch (ch (ch (ch rfl rfl) rfl) rfl) (congrArg (Value.int .i64) ((by first | rfl | omega | (simp; done) | (simp; omega)) : (k : Int) + 1 = ((k + 1 : Nat) : Int)))), H54_, S31_, (by first | assumption | omega | exact rfl), (fun i y hi hy => by
            rcases Nat.lt_or_ge i k with hlt | hge
            · exact hall i y hlt hy
            · obtain rfl : i = k := by omega
              rw [hx21_] at hy; cases hy; exact ⟨by simp_all, by omega, fun h => by first | (simp_all; done)⟩)⟩, by first | omega | (dsimp only; omega) | (simp; omega)⟩
        · have c17_fp : ¬ ((k : Int) < (L.length : Int)) := of_decide_eq_false c17_f
          refine C_exit (X_thenX (X_thenX (X_blkHit ?_)))
          refine (X_then (hK10_ _ _ ?_))
          clear hK10_
          refine C_seq (fun K55_ hK55_ => ?_)
          refine C_reg ?_
          refine S_list (T_val (v := (Value.bool true)) (x_assign rfl) ?_)
          refine wpList_nil ?_
          refine (X_then (hK55_ _ _ ?_))
          clear hK55_
          refine C_ret ?_
          refine R_any (v := (Value.bool true)) (run_results1 rfl rfl) ?_
          exact ⟨_, [], rfl, ⟨true, rfl, rfl, (fun h => by first | (cases h; done) | exact ⟨by omega, by omega, by omega, fun x hx => by obtain ⟨i, hi, e⟩ := List.getElem_of_mem hx; exact hall i x (by omega) (by rw [List.getElem?_eq_getElem hi, e])⟩)⟩, S14_, H13_⟩
end Go.Proofs.Ytgeggiebefonhaa
