/- What is done with a writer of pages: the walk. -/
import Derived.Test.YtfdnfnjmphjdnaaPgE
set_option linter.unusedVariables false
set_option linter.unusedSimpArgs false
namespace Go.Proofs.Ytfdnfnjmphjdnaa
open Go Go.RowKit Gw

set_option maxHeartbeats 1000000 in
theorem kPages (R : HP) (wm page off : Nat) (v : Value) (l : List OpS) (hV : RS R 2 v l.length (l.flatMap OpS.cells)) (h1 : 0 < page) (h2 : page ≤ 65536) (h3 : page ≤ wm) (h4 : wm ≤ 1048576) (h5 : off ≤ 1073741824) (hll : l.length ≤ 300) (htxt : ∀ (i : Nat) (x : OpS), l[i]? = some x → x.text.size ≤ 1048576) :
    Tri Try.prog 29 #[(Value.int .i64 (wm : Int)), (Value.int .i64 (page : Int)), (Value.int .i64 (off : Int)), v] R [] (fun v post => ∃ (R1 : HP) (an : List AnsS) (wss : List (List (List Int))) (po : Nat) (pd : List Int), RS R1 2 v an.length (an.flatMap AnsS.cells) ∧ Runs page wm off l an wss po pd ∧ AnsAt R1 an wss ∧ post = [ro R1]) := by
  refine Tri.into (n := 76) (al := [(Value.int .i64 (wm : Int)), (Value.int .i64 (page : Int)), (Value.int .i64 (off : Int)), v]) Try.func29 rfl Try.ntmps29 rfl rfl fun w F H => ?_
  replace H : Holds w (ro R :: F) := H
  refine C_seq (fun K1_ hK1_ => ?_)
  refine C_reg ?_
  refine S_list (T_val (v := (Value.slice none 0 0)) (x_assign rfl) ?_)
  refine wpList_nil ?_
  refine (X_then (hK1_ _ _ ?_))
  clear hK1_
  refine C_seq (fun K2_ hK2_ => ?_)
  refine C_seq (fun K3_ hK3_ => ?_)
  refine C_reg ?_
  refine S_list (T_val (v := (Value.int .i64 (page : Int))) (x_move rfl) ?_)
  refine S_list (T_val (v := (Value.bool (decide ((page : Int) < 1)))) (x_bin rfl rfl rfl) ?_)
  refine S_list (T_val (v := (Value.bool (decide ((page : Int) < 1)))) (x_move rfl) ?_)
  rcases Bool.eq_false_or_eq_true (decide ((page : Int) < 1)) with c4_t | c4_f
  · have c4_tp : (page : Int) < 1 := of_decide_eq_true c4_t
    omega
  · have c4_fp : ¬ ((page : Int) < 1) := of_decide_eq_false c4_f
    refine S_yes (j := 2) (dj := 16) (b := false) rfl rfl (congrArg Value.bool c4_f) (T_val (v := (Value.int .i64 (off : Int))) (x_move rfl) ?_)
    refine S_yes (j := 2) (dj := 16) (b := false) rfl rfl (congrArg Value.bool c4_f) (T_val (v := (Value.bool (decide ((off : Int) < 0)))) (x_bin rfl rfl rfl) ?_)
    refine S_list (T_pickF (v := (Value.bool (decide ((off : Int) < 0)))) (congrArg Value.bool c4_f) rfl ?_)
    refine S_list (T_val (v := (Value.bool (decide ((off : Int) < 0)))) (x_move rfl) ?_)
    rcases Bool.eq_false_or_eq_true (decide ((off : Int) < 0)) with c5_t | c5_f
    · have c5_tp : (off : Int) < 0 := of_decide_eq_true c5_t
      omega
    · have c5_fp : ¬ ((off : Int) < 0) := of_decide_eq_false c5_f
      refine S_yes (j := 6) (dj := 20) (b := false) rfl rfl (congrArg Value.bool c5_f) (T_val (v := (Value.int .i64 (wm : Int))) (x_move rfl) ?_)
      refine S_yes (j := 6) (dj := 20) (b := false) rfl rfl (congrArg Value.bool c5_f) (T_val (v := (Value.int .i64 (page : Int))) (x_move rfl) ?_)
      refine S_yes (j := 6) (dj := 20) (b := false) rfl rfl (congrArg Value.bool c5_f) (T_val (v := (Value.bool (decide ((wm : Int) < (page : Int))))) (x_bin rfl rfl rfl) ?_)
      refine S_list (T_pickF (v := (Value.bool (decide ((wm : Int) < (page : Int))))) (congrArg Value.bool c5_f) rfl ?_)
      refine S_list (T_val (v := (Value.bool (decide ((wm : Int) < (page : Int))))) (x_move rfl) ?_)
      rcases Bool.eq_false_or_eq_true (decide ((wm : Int) < (page : Int))) with c6_t | c6_f
      · have c6_tp : (wm : Int) < (page : Int) := of_decide_eq_true c6_t
        omega
      · have c6_fp : ¬ ((wm : Int) < (page : Int)) := of_decide_eq_false c6_f
        refine S_yes (j := 11) (dj := 25) (b := false) rfl rfl (congrArg Value.bool c6_f) (T_val (v := (Value.int .i64 (wm : Int))) (x_move rfl) ?_)
        refine S_yes (j := 11) (dj := 25) (b := false) rfl rfl (congrArg Value.bool c6_f) (T_val (v := (Value.bool (decide (1048576 < (wm : Int))))) (x_bin rfl rfl rfl) ?_)
        refine S_list (T_pickF (v := (Value.bool (decide (1048576 < (wm : Int))))) (congrArg Value.bool c6_f) rfl ?_)
        refine wpList_nil ?_
        refine (X_then (hK3_ _ _ ?_))
        clear hK3_
        refine C_cond (b := decide (1048576 < (wm : Int))) rfl (fun c7_t => ?_) (fun c7_f => ?_)
        · have c7_tp : 1048576 < (wm : Int) := of_decide_eq_true c7_t
          omega
        · have c7_fp : ¬ (1048576 < (wm : Int)) := of_decide_eq_false c7_f
          refine C_skip (X_then (hK2_ _ _ ?_))
          clear hK2_
          refine C_seq (fun K8_ hK8_ => ?_)
          refine C_reg ?_
          refine S_list (T_val (v := (Value.agg #[(Value.slice none 0 0)])) (by kernel_rfl) ?_)
          refine S_list (T_box (v := (Value.agg #[(Value.slice none 0 0)])) rfl H ?_)
          intro b9_ w10_ S12_ H11_
          replace H11_ : Holds w10_ (cl b9_ 91 [(Value.slice none 0 0)] :: ro R :: F) := H11_
          have S13_ := Same.trans (Same.refl w) S12_
          refine S_list (T_val (v := (Value.pointer (some ⟨b9_, 0, none⟩))) (x_assign rfl) ?_)
          refine wpList_nil ?_
          refine (X_then (hK8_ _ _ ?_))
          clear hK8_
          refine C_seq (fun K14_ hK14_ => ?_)
          refine C_reg ?_
          refine S_list (T_val (v := (Value.pointer (some ⟨b9_, 0, none⟩))) (x_move rfl) ?_)
          refine S_list (T_val (v := (Value.iface 89 (Value.pointer (some ⟨b9_, 0, none⟩)))) (by kernel_rfl) ?_)
          refine S_list (T_val (v := (Value.int .i64 (wm : Int))) (x_move rfl) ?_)
          refine S_list (T_val (v := (Value.int .i64 (page : Int))) (x_move rfl) ?_)
          refine S_list (T_val (v := (Value.int .i64 (off : Int))) (x_move rfl) ?_)
          have H17_ : Holds w10_ (ro R :: cl b9_ 91 [(Value.slice none 0 0)] :: F) := (Holds.bring H11_ 1 rfl)
          refine S_list (T_call (al := [(Value.iface 89 (Value.pointer (some ⟨b9_, 0, none⟩))), (Value.int .i64 (wm : Int)), (Value.int .i64 (page : Int)), (Value.int .i64 (off : Int))]) (pre := []) (F := cl b9_ 91 [(Value.slice none 0 0)] :: F) rfl rfl cb54 (kNew R b9_ page wm off (by omega) (by omega) (by omega)) H17_ ?_)
          rintro v21_ p22_ w18_ ⟨pw15_, bb16_, rfl, rfl⟩ S20_ H19_
          replace H19_ : Holds w18_ (ro R :: cl pw15_ 142 [(Value.iface 89 (Value.pointer (some ⟨b9_, 0, none⟩))), (Value.int .i64 (off : Int)), (Value.int .i64 (page : Int)), (Value.int .i64 0), (Value.slice (some ⟨bb16_, 0, none⟩) (wm + page) (wm + page)), (Value.int .i64 (wm : Int))] :: cl bb16_ 5 (bytesV [] ++ List.replicate (wm + page) (Value.int IntKind.u8 0)) :: cl b9_ 91 [(Value.slice none 0 0)] :: F) := H19_
          have S23_ := Same.trans S13_ S20_
          refine S_list (T_val (v := (Value.pointer (some ⟨pw15_, 0, none⟩))) (x_assign rfl) ?_)
          refine wpList_nil ?_
          refine (X_then (hK14_ _ _ ?_))
          clear hK14_
          refine C_seq (fun K24_ hK24_ => ?_)
          refine C_reg ?_
          refine S_list (T_val (v := (Value.slice none 0 0)) (x_assign rfl) ?_)
          refine wpList_nil ?_
          refine (X_then (hK24_ _ _ ?_))
          clear hK24_
          refine C_seq (fun K25_ hK25_ => ?_)
          refine C_seq (fun K26_ hK26_ => ?_)
          refine C_reg ?_
          refine S_list (T_val (v := (Value.int .i64 0)) (x_assign rfl) ?_)
          refine wpList_nil ?_
          refine (X_then (hK26_ _ _ ?_))
          clear hK26_
          refine C_block ?_
          have H27_ : Holds w18_ (sl 57 2 (.slice none 0 0) 0 [] :: ro R :: cl pw15_ 142 [(Value.iface 89 (Value.pointer (some ⟨b9_, 0, none⟩))), (Value.int .i64 (off : Int)), (Value.int .i64 (page : Int)), (Value.int .i64 0), (Value.slice (some ⟨bb16_, 0, none⟩) (wm + page) (wm + page)), (Value.int .i64 (wm : Int))] :: cl bb16_ 5 (bytesV [] ++ List.replicate (wm + page) (Value.int IntKind.u8 0)) :: cl b9_ 91 [(Value.slice none 0 0)] :: F) := Holds.add_nil H19_ 57 2
          have H28_ : Holds w18_ (ro (fun _ => none) :: sl 57 2 (.slice none 0 0) 0 [] :: ro R :: cl pw15_ 142 [(Value.iface 89 (Value.pointer (some ⟨b9_, 0, none⟩))), (Value.int .i64 (off : Int)), (Value.int .i64 (page : Int)), (Value.int .i64 0), (Value.slice (some ⟨bb16_, 0, none⟩) (wm + page) (wm + page)), (Value.int .i64 (wm : Int))] :: cl bb16_ 5 (bytesV [] ++ List.replicate (wm + page) (Value.int IntKind.u8 0)) :: cl b9_ 91 [(Value.slice none 0 0)] :: F) := Holds.add_ro H27_
          have H29_ : Holds w18_ (ro R :: cl b9_ 91 [(Value.slice none 0 0)] :: cl pw15_ 142 [(Value.iface 89 (Value.pointer (some ⟨b9_, 0, none⟩))), (Value.int .i64 (off : Int)), (Value.int .i64 (page : Int)), (Value.int .i64 0), (Value.slice (some ⟨bb16_, 0, none⟩) (wm + page) (wm + page)), (Value.int .i64 (wm : Int))] :: cl bb16_ 5 (bytesV [] ++ List.replicate (wm + page) (Value.int IntKind.u8 0)) :: sl 57 2 (.slice none 0 0) 0 [] :: ro (fun _ => none) :: F) := (Holds.bring (Holds.bring (Holds.bring (Holds.bring (Holds.bring (Holds.bring H28_ 0 rfl) 1 rfl) 4 rfl) 4 rfl) 5 rfl) 5 rfl)
          refine C_loop (γ := Nat × Nat × List Int × List Value × Value × Value × List AnsS × List (List (List Int)) × HP) (fun x a w1 => match x with | ⟨k, po, pd, junk, VB, vo, an, wss, R1⟩ => ∃ h : Env, a = mkA 76 (upd (upd (upd (upd (upd h 12 (Value.int .i64 (k : Int))) 11 vo) 3 v) 9 (Value.pointer (some ⟨b9_, 0, none⟩))) 10 (Value.pointer (some ⟨pw15_, 0, none⟩))) [] ∧ Holds w1 (ro R :: cl b9_ 91 [VB] :: cl pw15_ 142 [(Value.iface 89 (Value.pointer (some ⟨b9_, 0, none⟩))), (Value.int .i64 (po : Int)), (Value.int .i64 (page : Int)), (Value.int .i64 (pd.length : Int)), (Value.slice (some ⟨bb16_, 0, none⟩) (wm + page) (wm + page)), (Value.int .i64 (wm : Int))] :: cl bb16_ 5 (bytesV pd ++ junk) :: sl 57 2 vo k (an.flatMap AnsS.cells) :: ro R1 :: F) ∧ Same w w1 ∧ (k ≤ l.length) ∧ (Runs page wm off (l.take k) an wss po pd) ∧ (AnsAt R1 an wss) ∧ (an.length = k) ∧ (pd.length + (page - (po + pd.length) % page) ≤ wm + page) ∧ (po ≤ off + k * 65536) ∧ (pd.length + junk.length = wm + page)) (fun x => match x with | ⟨k, po, pd, junk, VB, vo, an, wss, R1⟩ => l.length - k) (⟨0, off, [], List.replicate (wm + page) (Value.int IntKind.u8 0), .slice none 0 0, .slice none 0 0, [], [], fun _ => none⟩) ⟨_, congrArg (fun e => mkA 76 e []) (ch (ch (ch (ch (ch rfl (by first | rfl | exact congrArg (Value.int _) (by omega))) (by first | rfl | exact congrArg (Value.int _) (by omega))) (by first | rfl | exact congrArg (Value.int _) (by omega))) (by first | rfl | exact congrArg (Value.int _) (by omega))) (by first | rfl | exact congrArg (Value.int _) (by omega))), H29_, S23_, by omega, Runs.nil, AnsAt.nil _, rfl, by simp only [List.length_nil]; omega, by omega, by simp⟩ ?_
          rintro ⟨k, po, pd, junk, VB, vo, an, wss, R1⟩ _ w30_ ⟨h, rfl, H31_, S32_, hk, hruns, hans, hal, hin, hpo, h6⟩
          refine C_seq (fun K33_ hK33_ => ?_)
          refine C_seq (fun K34_ hK34_ => ?_)
          refine C_reg ?_
          refine S_list (T_val (v := (Value.int .i64 (k : Int))) (x_move rfl) ?_)
          refine S_list (T_val (v := v) (x_move rfl) ?_)
          refine S_list (T_val (v := (Value.int .i64 (l.length : Int))) (x_lenRS rfl hV Try.underlying50) ?_)
          refine S_list (T_val (v := (Value.bool (decide ((k : Int) < (l.length : Int))))) (x_bin rfl rfl rfl) ?_)
          refine wpList_nil ?_
          refine (X_then (hK34_ _ _ ?_))
          clear hK34_
          refine C_cond (b := decide ((k : Int) < (l.length : Int))) rfl (fun c35_t => ?_) (fun c35_f => ?_)
          · have c35_tp : (k : Int) < (l.length : Int) := of_decide_eq_true c35_t
            refine C_skip (X_then (hK33_ _ _ ?_))
            clear hK33_
            refine C_seq (fun K36_ hK36_ => ?_)
            refine C_block ?_
            refine C_seq (fun K37_ hK37_ => ?_)
            refine C_reg ?_
            refine S_list (T_val (v := (Value.agg #[(Value.int .i64 0), (Value.slice none 0 0)])) (by kernel_rfl) ?_)
            refine S_list (T_alloc z57 H31_ ?_)
            intro b38_ w39_ S41_ H40_
            replace H40_ : Holds w39_ (cl b38_ 57 [(Value.int .i64 0), (Value.slice none 0 0)] :: ro R :: cl b9_ 91 [VB] :: cl pw15_ 142 [(Value.iface 89 (Value.pointer (some ⟨b9_, 0, none⟩))), (Value.int .i64 (po : Int)), (Value.int .i64 (page : Int)), (Value.int .i64 (pd.length : Int)), (Value.slice (some ⟨bb16_, 0, none⟩) (wm + page) (wm + page)), (Value.int .i64 (wm : Int))] :: cl bb16_ 5 (bytesV pd ++ junk) :: sl 57 2 vo k (an.flatMap AnsS.cells) :: ro R1 :: F) := H40_
            have S42_ := Same.trans S32_ S41_
            refine S_list0 (T_storeN (vs := [(Value.int .i64 0), (Value.slice none 0 0)]) rfl rfl z57 rfl (by simp [Value.oneCell']) H40_ 0 rfl (Nat.le_of_ble_eq_true (by rfl)) ?_)
            intro w43_ S45_ H44_
            replace H44_ : Holds w43_ (cl b38_ 57 [(Value.int .i64 0), (Value.slice none 0 0)] :: ro R :: cl b9_ 91 [VB] :: cl pw15_ 142 [(Value.iface 89 (Value.pointer (some ⟨b9_, 0, none⟩))), (Value.int .i64 (po : Int)), (Value.int .i64 (page : Int)), (Value.int .i64 (pd.length : Int)), (Value.slice (some ⟨bb16_, 0, none⟩) (wm + page) (wm + page)), (Value.int .i64 (wm : Int))] :: cl bb16_ 5 (bytesV pd ++ junk) :: sl 57 2 vo k (an.flatMap AnsS.cells) :: ro R1 :: F) := H44_
            have S46_ := Same.trans S42_ S45_
            refine wpList_nil ?_
            refine (X_then (hK37_ _ _ ?_))
            clear hK37_
            refine C_seq (fun K47_ hK47_ => ?_)
            refine C_reg ?_
            refine S_list (T_val (v := (Value.pointer (some ⟨b9_, 0, none⟩))) (x_move rfl) ?_)
            refine S_list (T_val (v := (Value.pointer (some ⟨b9_, 0, none⟩))) (by kernel_rfl) ?_)
            refine S_list (T_val (v := (Value.pointer (some ⟨b9_, 0, none⟩))) (by kernel_rfl) ?_)
            refine S_list0 (T_store1 (v := (Value.slice none 0 0)) rfl rfl z55 rfl H44_ 2 rfl (Nat.le_of_ble_eq_true (by rfl)) ?_)
            intro w48_ S50_ H49_
            replace H49_ : Holds w48_ (cl b38_ 57 [(Value.int .i64 0), (Value.slice none 0 0)] :: ro R :: cl b9_ 91 [(Value.slice none 0 0)] :: cl pw15_ 142 [(Value.iface 89 (Value.pointer (some ⟨b9_, 0, none⟩))), (Value.int .i64 (po : Int)), (Value.int .i64 (page : Int)), (Value.int .i64 (pd.length : Int)), (Value.slice (some ⟨bb16_, 0, none⟩) (wm + page) (wm + page)), (Value.int .i64 (wm : Int))] :: cl bb16_ 5 (bytesV pd ++ junk) :: sl 57 2 vo k (an.flatMap AnsS.cells) :: ro R1 :: F) := H49_
            have S51_ := Same.trans S46_ S50_
            refine wpList_nil ?_
            refine (X_then (hK47_ _ _ ?_))
            clear hK47_
            refine C_seq (fun K52_ hK52_ => ?_)
            refine C_seq (fun K53_ hK53_ => ?_)
            refine C_reg ?_
            refine S_list (T_val (v := v) (x_move rfl) ?_)
            refine S_list (T_val (v := (Value.int .i64 (k : Int))) (x_move rfl) ?_)
            obtain ⟨x54_, hx55_, hm56_⟩ := elem_at l k (by omega)
            refine S_list (T_val (v := (Value.pointer (some ⟨(sb v), so v + (k * 2 + 0), none⟩))) (x_idxRS (v := v) rfl hV rfl Try.underlying50 z59 (by omega) (by omega) (by omega : _ = k) rfl) ?_)
            refine S_list (T_val (v := (Value.pointer (some ⟨(sb v), so v + (k * 2 + 1), none⟩))) (by kernel_rfl) ?_)
            refine S_list (T_val (v := (Value.bool x54_.flush)) (x_load1 rfl Try.underlying4 rfl (RC.cell (RS.rc hV) (Holds.ro_at H49_ 1 rfl) (j := k * 2 + 1) (u := (Value.bool x54_.flush)) (fm_cell OpS.len hx55_ (i := 1) rfl))) ?_)
            refine wpList_nil ?_
            refine (X_then (hK53_ _ _ ?_))
            clear hK53_
            refine C_cond (b := x54_.flush) rfl (fun c57_t => ?_) (fun c57_f => ?_)
            · skip
              refine C_reg ?_
              refine S_list (T_val (v := (Value.pointer (some ⟨pw15_, 0, none⟩))) (x_move rfl) ?_)
              refine S_list (T_callW (al := [(Value.pointer (some ⟨pw15_, 0, none⟩))]) rfl rfl cb55 (Calls.into (n := 11) (al := [(Value.pointer (some ⟨pw15_, 0, none⟩))]) Try.func55 rfl Try.ntmps55 rfl rfl ?_))
              refine C_seq (fun K58_ hK58_ => ?_)
              refine C_reg ?_
              refine S_list (T_val (v := (Value.nilIface)) (x_assign rfl) ?_)
              refine wpList_nil ?_
              refine (X_then (hK58_ _ _ ?_))
              clear hK58_
              refine C_seq (fun K59_ hK59_ => ?_)
              refine C_reg ?_
              refine S_list (T_val (v := (Value.pointer (some ⟨pw15_, 0, none⟩))) (x_move rfl) ?_)
              have H60_ : Holds w48_ (sl 9 1 (.slice none 0 0) (List.length ([] : List (List Int))) (strs []) :: cl b38_ 57 [(Value.int .i64 0), (Value.slice none 0 0)] :: ro R :: cl b9_ 91 [(Value.slice none 0 0)] :: cl pw15_ 142 [(Value.iface 89 (Value.pointer (some ⟨b9_, 0, none⟩))), (Value.int .i64 (po : Int)), (Value.int .i64 (page : Int)), (Value.int .i64 (pd.length : Int)), (Value.slice (some ⟨bb16_, 0, none⟩) (wm + page) (wm + page)), (Value.int .i64 (wm : Int))] :: cl bb16_ 5 (bytesV pd ++ junk) :: sl 57 2 vo k (an.flatMap AnsS.cells) :: ro R1 :: F) := Holds.add_nil H49_ 9 1
              have H68_ : Holds w48_ (ro R :: cl pw15_ 142 [(Value.iface 89 (Value.pointer (some ⟨b9_, 0, none⟩))), (Value.int .i64 (po : Int)), (Value.int .i64 (page : Int)), (Value.int .i64 (pd.length : Int)), (Value.slice (some ⟨bb16_, 0, none⟩) (wm + page) (wm + page)), (Value.int .i64 (wm : Int))] :: cl bb16_ 5 (bytesV pd ++ junk) :: cl b9_ 91 [(Value.slice none 0 0)] :: sl 9 1 (.slice none 0 0) (List.length ([] : List (List Int))) (strs []) :: cl b38_ 57 [(Value.int .i64 0), (Value.slice none 0 0)] :: sl 57 2 vo k (an.flatMap AnsS.cells) :: ro R1 :: F) := (Holds.bring (Holds.bring (Holds.bring (Holds.bring (Holds.bring H60_ 0 rfl) 3 rfl) 5 rfl) 5 rfl) 5 rfl)
              refine S_list (T_call (al := [(Value.pointer (some ⟨pw15_, 0, none⟩))]) (pre := [cl pw15_ 142 [(Value.iface 89 (Value.pointer (some ⟨b9_, 0, none⟩))), (Value.int .i64 (po : Int)), (Value.int .i64 (page : Int)), (Value.int .i64 (pd.length : Int)), (Value.slice (some ⟨bb16_, 0, none⟩) (wm + page) (wm + page)), (Value.int .i64 (wm : Int))], cl bb16_ 5 (bytesV pd ++ junk), cl b9_ 91 [(Value.slice none 0 0)], sl 9 1 (.slice none 0 0) (List.length ([] : List (List Int))) (strs [])]) (F := cl b38_ 57 [(Value.int .i64 0), (Value.slice none 0 0)] :: sl 57 2 vo k (an.flatMap AnsS.cells) :: ro R1 :: F) rfl rfl cb70 (kFlush R pw15_ bb16_ b9_ page wm po pd junk (.slice none 0 0) [] (by omega) (by omega) (by omega) (by omega) (by omega) (by omega) (by simp) (by omega)) H68_ ?_)
              rintro v72_ p73_ w69_ ⟨nn61_, po62_, junk63_, V64_, ws65_, rfl, rfl, hf66_, hj67_⟩ S71_ H70_
              replace H70_ : Holds w69_ (ro R :: cl pw15_ 142 [(Value.iface 89 (Value.pointer (some ⟨b9_, 0, none⟩))), (Value.int .i64 (po62_ : Int)), (Value.int .i64 (page : Int)), (Value.int .i64 (List.length ([] : List Int) : Int)), (Value.slice (some ⟨bb16_, 0, none⟩) (wm + page) (wm + page)), (Value.int .i64 (wm : Int))] :: cl bb16_ 5 (bytesV [] ++ junk63_) :: cl b9_ 91 [V64_] :: sl 9 1 V64_ (List.length ([] ++ ws65_)) (strs ([] ++ ws65_)) :: cl b38_ 57 [(Value.int .i64 0), (Value.slice none 0 0)] :: sl 57 2 vo k (an.flatMap AnsS.cells) :: ro R1 :: F) := H70_
              have S74_ := Same.trans S51_ S71_
              have hpo_ := FOk.po (by omega) hf66_
              obtain ⟨-, a75_, cp76_, rfl, hle77_⟩ := Holds.sl_len H70_ 4 rfl
              have H78_ : Holds w69_ (ro R :: cl pw15_ 142 [(Value.iface 89 (Value.pointer (some ⟨b9_, 0, none⟩))), (Value.int .i64 (po62_ : Int)), (Value.int .i64 (page : Int)), (Value.int .i64 (List.length ([] : List Int) : Int)), (Value.slice (some ⟨bb16_, 0, none⟩) (wm + page) (wm + page)), (Value.int .i64 (wm : Int))] :: cl bb16_ 5 (bytesV [] ++ junk63_) :: cl b9_ 91 [(Value.slice a75_ (List.length ([] ++ ws65_)) cp76_)] :: sl 9 1 (Value.slice a75_ (List.length ([] ++ ws65_)) cp76_) (List.length ([] ++ ws65_)) (strs ([] ++ ws65_)) :: cl b38_ 57 [(Value.int .i64 0), (Value.slice none 0 0)] :: sl 57 2 vo k (an.flatMap AnsS.cells) :: ro R1 :: F) := H70_
              refine S_list (T_val (v := (Value.tuple #[(Value.int .i64 nn61_), (Value.nilIface)])) (x_move rfl) ?_)
              refine S_list (T_val (v := (Value.int .i64 nn61_)) (by kernel_rfl) ?_)
              refine S_list (T_val (v := (Value.nilIface)) (by kernel_rfl) ?_)
              refine S_list (T_val (v := (Value.int .i64 nn61_)) (x_assign rfl) ?_)
              refine S_list (T_val (v := (Value.nilIface)) (x_assign rfl) ?_)
              refine wpList_nil ?_
              refine (X_then (hK59_ _ _ ?_))
              clear hK59_
              refine C_seq (fun K79_ hK79_ => ?_)
              refine C_reg ?_
              refine S_list (T_val (v := (Value.nilIface)) (x_move rfl) ?_)
              refine S_list (T_val (v := (Value.nilIface)) (x_assign rfl) ?_)
              refine wpList_nil ?_
              refine (X_then (hK79_ _ _ ?_))
              clear hK79_
              refine C_ret ?_
              refine R_any (v := (Value.nilIface)) (run_results1 rfl rfl) ⟨_, rfl, ?_⟩
              refine wpList_nil ?_
              refine (X_then (hK52_ _ _ ?_))
              clear hK52_
              refine C_seq (fun K80_ hK80_ => ?_)
              refine C_reg ?_
              refine S_list (T_val (v := (Value.pointer (some ⟨b9_, 0, none⟩))) (x_move rfl) ?_)
              refine S_list (T_val (v := (Value.pointer (some ⟨b9_, 0, none⟩))) (by kernel_rfl) ?_)
              refine S_list (T_val (v := (Value.pointer (some ⟨b9_, 0, none⟩))) (by kernel_rfl) ?_)
              refine S_list (T_val (v := (Value.slice a75_ (List.length ([] ++ ws65_)) cp76_)) (x_load1 rfl Try.underlying55 rfl ((Holds.rd H78_ 3 rfl) 0 (Value.slice a75_ (List.length ([] ++ ws65_)) cp76_) rfl)) ?_)
              refine S_list (T_val (v := (Value.pointer (some ⟨b38_, 1, none⟩))) (by kernel_rfl) ?_)
              refine S_list0 (T_store1 (v := (Value.slice a75_ (List.length ([] ++ ws65_)) cp76_)) rfl rfl z55 rfl H78_ 5 rfl (Nat.le_of_ble_eq_true (by rfl)) ?_)
              intro w81_ S83_ H82_
              replace H82_ : Holds w81_ (ro R :: cl pw15_ 142 [(Value.iface 89 (Value.pointer (some ⟨b9_, 0, none⟩))), (Value.int .i64 (po62_ : Int)), (Value.int .i64 (page : Int)), (Value.int .i64 (List.length ([] : List Int) : Int)), (Value.slice (some ⟨bb16_, 0, none⟩) (wm + page) (wm + page)), (Value.int .i64 (wm : Int))] :: cl bb16_ 5 (bytesV [] ++ junk63_) :: cl b9_ 91 [(Value.slice a75_ (List.length ([] ++ ws65_)) cp76_)] :: sl 9 1 (Value.slice a75_ (List.length ([] ++ ws65_)) cp76_) (List.length ([] ++ ws65_)) (strs ([] ++ ws65_)) :: cl b38_ 57 [(Value.int .i64 0), (Value.slice a75_ (List.length ([] ++ ws65_)) cp76_)] :: sl 57 2 vo k (an.flatMap AnsS.cells) :: ro R1 :: F) := H82_
              have S84_ := Same.trans S74_ S83_
              refine wpList_nil ?_
              refine (X_then (hK80_ _ _ ?_))
              clear hK80_
              refine C_reg ?_
              refine S_list (T_val (v := vo) (x_move rfl) ?_)
              refine S_list (T_val (v := (Value.agg #[(Value.int .i64 0), (Value.slice a75_ (List.length ([] ++ ws65_)) cp76_)])) (x_loadN (vs := [(Value.int .i64 0), (Value.slice a75_ (List.length ([] ++ ws65_)) cp76_)]) rfl Try.underlying57 rfl z57 rfl (Rd.cells (Holds.rd H82_ 5 rfl) 0 rfl)) ?_)
              refine S_list (T_new (obj := .cells #[(Value.int .i64 0), (Value.slice a75_ (List.length ([] ++ ws65_)) cp76_)] 57) (f := fun b => .slice (some ⟨b, 0, none⟩) 1 1) (A := fun b => cl b 57 [(Value.int .i64 0), (Value.slice a75_ (List.length ([] ++ ws65_)) cp76_)]) (by kernel_rfl) (fun l h => h.alloc _ _) H82_ ?_)
              intro b85_ w86_ S88_ H87_
              replace H87_ : Holds w86_ (cl b85_ 57 [(Value.int .i64 0), (Value.slice a75_ (List.length ([] ++ ws65_)) cp76_)] :: ro R :: cl pw15_ 142 [(Value.iface 89 (Value.pointer (some ⟨b9_, 0, none⟩))), (Value.int .i64 (po62_ : Int)), (Value.int .i64 (page : Int)), (Value.int .i64 (List.length ([] : List Int) : Int)), (Value.slice (some ⟨bb16_, 0, none⟩) (wm + page) (wm + page)), (Value.int .i64 (wm : Int))] :: cl bb16_ 5 (bytesV [] ++ junk63_) :: cl b9_ 91 [(Value.slice a75_ (List.length ([] ++ ws65_)) cp76_)] :: sl 9 1 (Value.slice a75_ (List.length ([] ++ ws65_)) cp76_) (List.length ([] ++ ws65_)) (strs ([] ++ ws65_)) :: cl b38_ 57 [(Value.int .i64 0), (Value.slice a75_ (List.length ([] ++ ws65_)) cp76_)] :: sl 57 2 vo k (an.flatMap AnsS.cells) :: ro R1 :: F) := H87_
              have S89_ := Same.trans S84_ S88_
              refine S_list (T_append rfl rfl Try.underlying53 z57 rfl (by decide) H87_ 7 rfl (Holds.cl_src H87_ 0 rfl Try.underlying53 (by simp [Value.oneCell']) rfl) (by omega) ?_)
              intro v90_ w91_ S93_ H92_
              replace H92_ : Holds w91_ (cl b85_ 57 [(Value.int .i64 0), (Value.slice a75_ (List.length ([] ++ ws65_)) cp76_)] :: ro R :: cl pw15_ 142 [(Value.iface 89 (Value.pointer (some ⟨b9_, 0, none⟩))), (Value.int .i64 (po62_ : Int)), (Value.int .i64 (page : Int)), (Value.int .i64 (List.length ([] : List Int) : Int)), (Value.slice (some ⟨bb16_, 0, none⟩) (wm + page) (wm + page)), (Value.int .i64 (wm : Int))] :: cl bb16_ 5 (bytesV [] ++ junk63_) :: cl b9_ 91 [(Value.slice a75_ (List.length ([] ++ ws65_)) cp76_)] :: sl 9 1 (Value.slice a75_ (List.length ([] ++ ws65_)) cp76_) (List.length ([] ++ ws65_)) (strs ([] ++ ws65_)) :: cl b38_ 57 [(Value.int .i64 0), (Value.slice a75_ (List.length ([] ++ ws65_)) cp76_)] :: sl 57 2 v90_ (k + 1) ((an.flatMap AnsS.cells) ++ [(Value.int .i64 0), (Value.slice a75_ (List.length ([] ++ ws65_)) cp76_)]) :: ro R1 :: F) := H92_
              have S94_ := Same.trans S89_ S93_
              refine S_list (T_val (v := v90_) (x_assign rfl) ?_)
              refine wpList_nil ?_
              refine (X_blkN (X_then (hK36_ _ _ ?_)))
              clear hK36_
              refine C_reg ?_
              refine S_list (T_val (v := (Value.int .i64 (k : Int))) (x_move rfl) ?_)
              refine S_list (T_val (v := (Value.int .i64 ((k : Int) + 1))) (x_bin rfl rfl (ib_add (IntWalk.i64_in _ (by omega)))) ?_)
              refine S_list (T_val (v := (Value.int .i64 ((k : Int) + 1))) (x_assign rfl) ?_)
              refine wpList_nil ?_
              refine (X_then ?_)
              have H95_ : Holds w91_ (ro R1 :: sl 9 1 (Value.slice a75_ (List.length ([] ++ ws65_)) cp76_) (List.length ([] ++ ws65_)) (strs ([] ++ ws65_)) :: cl b85_ 57 [(Value.int .i64 0), (Value.slice a75_ (List.length ([] ++ ws65_)) cp76_)] :: ro R :: cl pw15_ 142 [(Value.iface 89 (Value.pointer (some ⟨b9_, 0, none⟩))), (Value.int .i64 (po62_ : Int)), (Value.int .i64 (page : Int)), (Value.int .i64 (List.length ([] : List Int) : Int)), (Value.slice (some ⟨bb16_, 0, none⟩) (wm + page) (wm + page)), (Value.int .i64 (wm : Int))] :: cl bb16_ 5 (bytesV [] ++ junk63_) :: cl b9_ 91 [(Value.slice a75_ (List.length ([] ++ ws65_)) cp76_)] :: cl b38_ 57 [(Value.int .i64 0), (Value.slice a75_ (List.length ([] ++ ws65_)) cp76_)] :: sl 57 2 v90_ (k + 1) ((an.flatMap AnsS.cells) ++ [(Value.int .i64 0), (Value.slice a75_ (List.length ([] ++ ws65_)) cp76_)]) :: F) := (Holds.bring (Holds.bring H92_ 5 rfl) 8 rfl)
              obtain ⟨R96_, hs97_, ⟨R98_, ha99_, hs100_⟩, H101_⟩ := Holds.gift H95_
              replace H101_ : Holds w91_ (ro R96_ :: cl b85_ 57 [(Value.int .i64 0), (Value.slice a75_ (List.length ([] ++ ws65_)) cp76_)] :: ro R :: cl pw15_ 142 [(Value.iface 89 (Value.pointer (some ⟨b9_, 0, none⟩))), (Value.int .i64 (po62_ : Int)), (Value.int .i64 (page : Int)), (Value.int .i64 (List.length ([] : List Int) : Int)), (Value.slice (some ⟨bb16_, 0, none⟩) (wm + page) (wm + page)), (Value.int .i64 (wm : Int))] :: cl bb16_ 5 (bytesV [] ++ junk63_) :: cl b9_ 91 [(Value.slice a75_ (List.length ([] ++ ws65_)) cp76_)] :: cl b38_ 57 [(Value.int .i64 0), (Value.slice a75_ (List.length ([] ++ ws65_)) cp76_)] :: sl 57 2 v90_ (k + 1) ((an.flatMap AnsS.cells) ++ [(Value.int .i64 0), (Value.slice a75_ (List.length ([] ++ ws65_)) cp76_)]) :: F) := H101_
              have H102_ : Holds w91_ (ro R96_ :: cl b85_ 57 [(Value.int .i64 0), (Value.slice a75_ (List.length ([] ++ ws65_)) cp76_)] :: ro R :: cl pw15_ 142 [(Value.iface 89 (Value.pointer (some ⟨b9_, 0, none⟩))), (Value.int .i64 (po62_ : Int)), (Value.int .i64 (page : Int)), (Value.int .i64 (List.length ([] : List Int) : Int)), (Value.slice (some ⟨bb16_, 0, none⟩) (wm + page) (wm + page)), (Value.int .i64 (wm : Int))] :: cl bb16_ 5 (bytesV [] ++ junk63_) :: cl b9_ 91 [(Value.slice a75_ (List.length ([] ++ ws65_)) cp76_)] :: cl b38_ 57 [(Value.int .i64 0), (Value.slice a75_ (List.length ([] ++ ws65_)) cp76_)] :: sl 57 2 v90_ (k + 1) ((an ++ [(⟨0, a75_, (List.length ([] ++ ws65_)), cp76_⟩ : AnsS)]).flatMap AnsS.cells) :: F) := cast2 (P := fun (c__ : List Value) (k__ : Nat) => Holds w91_ (ro R96_ :: cl b85_ 57 [(Value.int .i64 0), (Value.slice a75_ (List.length ([] ++ ws65_)) cp76_)] :: ro R :: cl pw15_ 142 [(Value.iface 89 (Value.pointer (some ⟨b9_, 0, none⟩))), (Value.int .i64 (po62_ : Int)), (Value.int .i64 (page : Int)), (Value.int .i64 (List.length ([] : List Int) : Int)), (Value.slice (some ⟨bb16_, 0, none⟩) (wm + page) (wm + page)), (Value.int .i64 (wm : Int))] :: cl bb16_ 5 (bytesV [] ++ junk63_) :: cl b9_ 91 [(Value.slice a75_ (List.length ([] ++ ws65_)) cp76_)] :: cl b38_ 57 [(Value.int .i64 0), (Value.slice a75_ (List.length ([] ++ ws65_)) cp76_)] :: sl 57 2 v90_ k__ c__ :: F)) (by simp [List.flatMap_append, AnsS.cells] : (an.flatMap AnsS.cells) ++ [(Value.int .i64 0), (Value.slice a75_ (List.length ([] ++ ws65_)) cp76_)] = (an ++ [(⟨0, a75_, (List.length ([] ++ ws65_)), cp76_⟩ : AnsS)]).flatMap AnsS.cells) (rfl : k + 1 = k + 1) H101_
              have H103_ : Holds w91_ (ro R :: cl b9_ 91 [(Value.slice a75_ (List.length ([] ++ ws65_)) cp76_)] :: cl pw15_ 142 [(Value.iface 89 (Value.pointer (some ⟨b9_, 0, none⟩))), (Value.int .i64 (po62_ : Int)), (Value.int .i64 (page : Int)), (Value.int .i64 (List.length ([] : List Int) : Int)), (Value.slice (some ⟨bb16_, 0, none⟩) (wm + page) (wm + page)), (Value.int .i64 (wm : Int))] :: cl bb16_ 5 (bytesV [] ++ junk63_) :: sl 57 2 v90_ (k + 1) ((an ++ [(⟨0, a75_, (List.length ([] ++ ws65_)), cp76_⟩ : AnsS)]).flatMap AnsS.cells) :: ro R96_ :: F) := (Holds.erase (Holds.erase (Holds.bring (Holds.bring (Holds.bring (Holds.bring (Holds.bring (Holds.bring H102_ 0 rfl) 7 rfl) 5 rfl) 5 rfl) 6 rfl) 6 rfl) 6) 6)
              exact ⟨⟨k + 1, po62_, [], junk63_, (Value.slice a75_ (List.length ([] ++ ws65_)) cp76_), v90_, (an ++ [(⟨0, a75_, (List.length ([] ++ ws65_)), cp76_⟩ : AnsS)]), wss ++ [ws65_], R96_⟩, ⟨_, congrArg (fun e => mkA 76 e []) (ch (ch (ch (ch (ch rfl (by first | rfl | exact congrArg (Value.int _) (by omega))) (by first | rfl | exact congrArg (Value.int _) (by omega))) (by first | rfl | exact congrArg (Value.int _) (by omega))) (by first | rfl | exact congrArg (Value.int _) (by omega))) (by first | rfl | exact congrArg (Value.int _) (by omega))), H103_, S94_, by omega, hruns.next hx55_ ⟨0, a75_, (List.length ([] ++ ws65_)), cp76_⟩ (.inl ⟨by assumption, rfl, hf66_, rfl⟩), hans.snoc hs97_ (by have := (sl_RS ha99_ (Sub.rfl' _)).mono hs100_; simpa using this), by simp; omega, by simp only [List.length_nil]; omega, by omega, by have := hj67_; simp; omega⟩, by first | omega | (simp; omega)⟩
            · skip
              refine C_reg ?_
              refine S_list (T_val (v := (Value.pointer (some ⟨pw15_, 0, none⟩))) (x_move rfl) ?_)
              refine S_list (T_val (v := v) (x_move rfl) ?_)
              refine S_list (T_val (v := (Value.int .i64 (k : Int))) (x_move rfl) ?_)
              refine S_list (T_val (v := (Value.pointer (some ⟨(sb v), so v + (k * 2 + 0), none⟩))) (x_idxRS (v := v) rfl hV rfl Try.underlying50 z59 (by omega) (by omega) (by omega : _ = k) rfl) ?_)
              refine S_list (T_val (v := (Value.pointer (some ⟨(sb v), so v + (k * 2 + 0), none⟩))) (by kernel_rfl) ?_)
              refine S_list (T_val (v := (Value.string x54_.text)) (x_load1 rfl Try.underlying9 rfl (RC.cell (RS.rc hV) (Holds.ro_at H49_ 1 rfl) (j := k * 2 + 0) (u := (Value.string x54_.text)) (fm_cell OpS.len hx55_ (i := 0) rfl))) ?_)
              refine S_list (T_s2b rfl Try.underlying9 Try.underlying25 Try.underlying5 H49_ ?_)
              intro b104_ cp105_ w106_ S108_ hc109_ H107_
              have S110_ := Same.trans S51_ S108_
              have H111_ : Holds w106_ (sl 5 1 (Value.slice (some ⟨b104_, 0, none⟩) x54_.text.size cp105_) x54_.text.size (bytesV (ints x54_.text)) :: cl b38_ 57 [(Value.int .i64 0), (Value.slice none 0 0)] :: ro R :: cl b9_ 91 [(Value.slice none 0 0)] :: cl pw15_ 142 [(Value.iface 89 (Value.pointer (some ⟨b9_, 0, none⟩))), (Value.int .i64 (po : Int)), (Value.int .i64 (page : Int)), (Value.int .i64 (pd.length : Int)), (Value.slice (some ⟨bb16_, 0, none⟩) (wm + page) (wm + page)), (Value.int .i64 (wm : Int))] :: cl bb16_ 5 (bytesV pd ++ junk) :: sl 57 2 vo k (an.flatMap AnsS.cells) :: ro R1 :: F) := cast2 (P := fun (c__ : List Value) (k__ : Nat) => Holds w106_ (sl 5 1 (Value.slice (some ⟨b104_, 0, none⟩) x54_.text.size cp105_) k__ c__ :: cl b38_ 57 [(Value.int .i64 0), (Value.slice none 0 0)] :: ro R :: cl b9_ 91 [(Value.slice none 0 0)] :: cl pw15_ 142 [(Value.iface 89 (Value.pointer (some ⟨b9_, 0, none⟩))), (Value.int .i64 (po : Int)), (Value.int .i64 (page : Int)), (Value.int .i64 (pd.length : Int)), (Value.slice (some ⟨bb16_, 0, none⟩) (wm + page) (wm + page)), (Value.int .i64 (wm : Int))] :: cl bb16_ 5 (bytesV pd ++ junk) :: sl 57 2 vo k (an.flatMap AnsS.cells) :: ro R1 :: F)) (byteCells_bytesV _ : byteCells x54_.text = bytesV (ints x54_.text)) (rfl : x54_.text.size = x54_.text.size) H107_
              obtain ⟨R112_, a113_, H114_⟩ := Holds.freeze H111_ 0 rfl
              replace H114_ : Holds w106_ (ro R112_ :: cl b38_ 57 [(Value.int .i64 0), (Value.slice none 0 0)] :: ro R :: cl b9_ 91 [(Value.slice none 0 0)] :: cl pw15_ 142 [(Value.iface 89 (Value.pointer (some ⟨b9_, 0, none⟩))), (Value.int .i64 (po : Int)), (Value.int .i64 (page : Int)), (Value.int .i64 (pd.length : Int)), (Value.slice (some ⟨bb16_, 0, none⟩) (wm + page) (wm + page)), (Value.int .i64 (wm : Int))] :: cl bb16_ 5 (bytesV pd ++ junk) :: sl 57 2 vo k (an.flatMap AnsS.cells) :: ro R1 :: F) := H114_
              have H115_ : Holds w106_ (sl 9 1 (.slice none 0 0) (List.length ([] : List (List Int))) (strs []) :: ro R112_ :: cl b38_ 57 [(Value.int .i64 0), (Value.slice none 0 0)] :: ro R :: cl b9_ 91 [(Value.slice none 0 0)] :: cl pw15_ 142 [(Value.iface 89 (Value.pointer (some ⟨b9_, 0, none⟩))), (Value.int .i64 (po : Int)), (Value.int .i64 (page : Int)), (Value.int .i64 (pd.length : Int)), (Value.slice (some ⟨bb16_, 0, none⟩) (wm + page) (wm + page)), (Value.int .i64 (wm : Int))] :: cl bb16_ 5 (bytesV pd ++ junk) :: sl 57 2 vo k (an.flatMap AnsS.cells) :: ro R1 :: F) := Holds.add_nil H114_ 9 1
              have htx := htxt _ _ hx55_
              have H125_ : Holds w106_ (ro R112_ :: cl pw15_ 142 [(Value.iface 89 (Value.pointer (some ⟨b9_, 0, none⟩))), (Value.int .i64 (po : Int)), (Value.int .i64 (page : Int)), (Value.int .i64 (pd.length : Int)), (Value.slice (some ⟨bb16_, 0, none⟩) (wm + page) (wm + page)), (Value.int .i64 (wm : Int))] :: cl bb16_ 5 (bytesV pd ++ junk) :: cl b9_ 91 [(Value.slice none 0 0)] :: sl 9 1 (.slice none 0 0) (List.length ([] : List (List Int))) (strs []) :: cl b38_ 57 [(Value.int .i64 0), (Value.slice none 0 0)] :: ro R :: sl 57 2 vo k (an.flatMap AnsS.cells) :: ro R1 :: F) := (Holds.bring (Holds.bring (Holds.bring (Holds.bring (Holds.bring H115_ 0 rfl) 4 rfl) 6 rfl) 6 rfl) 4 rfl)
              refine S_list (T_call (al := [(Value.pointer (some ⟨pw15_, 0, none⟩)), (Value.slice (some ⟨b104_, 0, none⟩) x54_.text.size cp105_)]) (pre := [cl pw15_ 142 [(Value.iface 89 (Value.pointer (some ⟨b9_, 0, none⟩))), (Value.int .i64 (po : Int)), (Value.int .i64 (page : Int)), (Value.int .i64 (pd.length : Int)), (Value.slice (some ⟨bb16_, 0, none⟩) (wm + page) (wm + page)), (Value.int .i64 (wm : Int))], cl bb16_ 5 (bytesV pd ++ junk), cl b9_ 91 [(Value.slice none 0 0)], sl 9 1 (.slice none 0 0) (List.length ([] : List (List Int))) (strs [])]) (F := cl b38_ 57 [(Value.int .i64 0), (Value.slice none 0 0)] :: ro R :: sl 57 2 vo k (an.flatMap AnsS.cells) :: ro R1 :: F) rfl rfl cb56 (kWrite R112_ pw15_ bb16_ b9_ page wm po pd junk (.slice none 0 0) [] (Value.slice (some ⟨b104_, 0, none⟩) x54_.text.size cp105_) x54_.text.size (ints x54_.text) (sl_RS a113_ (Sub.rfl' _)) (by omega) (by omega) (by omega) (by omega) (by omega) (by omega) (by simp) (by omega) hin) H125_ ?_)
              rintro v129_ p130_ w126_ ⟨nn116_, po117_, pd118_, junk119_, V120_, ws121_, rfl, rfl, hw122_, hn123_, hj124_⟩ S128_ H127_
              replace H127_ : Holds w126_ (ro R112_ :: cl pw15_ 142 [(Value.iface 89 (Value.pointer (some ⟨b9_, 0, none⟩))), (Value.int .i64 (po117_ : Int)), (Value.int .i64 (page : Int)), (Value.int .i64 (pd118_.length : Int)), (Value.slice (some ⟨bb16_, 0, none⟩) (wm + page) (wm + page)), (Value.int .i64 (wm : Int))] :: cl bb16_ 5 (bytesV pd118_ ++ junk119_) :: cl b9_ 91 [V120_] :: sl 9 1 V120_ (List.length ([] ++ ws121_)) (strs ([] ++ ws121_)) :: cl b38_ 57 [(Value.int .i64 0), (Value.slice none 0 0)] :: ro R :: sl 57 2 vo k (an.flatMap AnsS.cells) :: ro R1 :: F) := H127_
              have S131_ := Same.trans S110_ S128_
              have hpo_ := hw122_.po_le
              obtain ⟨-, a132_, cp133_, rfl, hle134_⟩ := Holds.sl_len H127_ 4 rfl
              have H135_ : Holds w126_ (ro R112_ :: cl pw15_ 142 [(Value.iface 89 (Value.pointer (some ⟨b9_, 0, none⟩))), (Value.int .i64 (po117_ : Int)), (Value.int .i64 (page : Int)), (Value.int .i64 (pd118_.length : Int)), (Value.slice (some ⟨bb16_, 0, none⟩) (wm + page) (wm + page)), (Value.int .i64 (wm : Int))] :: cl bb16_ 5 (bytesV pd118_ ++ junk119_) :: cl b9_ 91 [(Value.slice a132_ (List.length ([] ++ ws121_)) cp133_)] :: sl 9 1 (Value.slice a132_ (List.length ([] ++ ws121_)) cp133_) (List.length ([] ++ ws121_)) (strs ([] ++ ws121_)) :: cl b38_ 57 [(Value.int .i64 0), (Value.slice none 0 0)] :: ro R :: sl 57 2 vo k (an.flatMap AnsS.cells) :: ro R1 :: F) := H127_
              refine S_list (T_val (v := (Value.tuple #[(Value.int .i64 nn116_), (Value.nilIface)])) (x_move rfl) ?_)
              refine S_list (T_val (v := (Value.int .i64 nn116_)) (by kernel_rfl) ?_)
              refine S_list (T_val (v := (Value.nilIface)) (by kernel_rfl) ?_)
              refine S_list (T_val (v := (Value.pointer (some ⟨b38_, 0, none⟩))) (by kernel_rfl) ?_)
              refine S_list0 (T_store1 (v := (Value.int .i64 nn116_)) rfl rfl z3 rfl H135_ 5 rfl (Nat.le_of_ble_eq_true (by rfl)) ?_)
              intro w136_ S138_ H137_
              replace H137_ : Holds w136_ (ro R112_ :: cl pw15_ 142 [(Value.iface 89 (Value.pointer (some ⟨b9_, 0, none⟩))), (Value.int .i64 (po117_ : Int)), (Value.int .i64 (page : Int)), (Value.int .i64 (pd118_.length : Int)), (Value.slice (some ⟨bb16_, 0, none⟩) (wm + page) (wm + page)), (Value.int .i64 (wm : Int))] :: cl bb16_ 5 (bytesV pd118_ ++ junk119_) :: cl b9_ 91 [(Value.slice a132_ (List.length ([] ++ ws121_)) cp133_)] :: sl 9 1 (Value.slice a132_ (List.length ([] ++ ws121_)) cp133_) (List.length ([] ++ ws121_)) (strs ([] ++ ws121_)) :: cl b38_ 57 [(Value.int .i64 nn116_), (Value.slice none 0 0)] :: ro R :: sl 57 2 vo k (an.flatMap AnsS.cells) :: ro R1 :: F) := H137_
              have S139_ := Same.trans S131_ S138_
              refine wpList_nil ?_
              refine (X_then (hK52_ _ _ ?_))
              clear hK52_
              refine C_seq (fun K140_ hK140_ => ?_)
              refine C_reg ?_
              refine S_list (T_val (v := (Value.pointer (some ⟨b9_, 0, none⟩))) (x_move rfl) ?_)
              refine S_list (T_val (v := (Value.pointer (some ⟨b9_, 0, none⟩))) (by kernel_rfl) ?_)
              refine S_list (T_val (v := (Value.pointer (some ⟨b9_, 0, none⟩))) (by kernel_rfl) ?_)
              refine S_list (T_val (v := (Value.slice a132_ (List.length ([] ++ ws121_)) cp133_)) (x_load1 rfl Try.underlying55 rfl ((Holds.rd H137_ 3 rfl) 0 (Value.slice a132_ (List.length ([] ++ ws121_)) cp133_) rfl)) ?_)
              refine S_list (T_val (v := (Value.pointer (some ⟨b38_, 1, none⟩))) (by kernel_rfl) ?_)
              refine S_list0 (T_store1 (v := (Value.slice a132_ (List.length ([] ++ ws121_)) cp133_)) rfl rfl z55 rfl H137_ 5 rfl (Nat.le_of_ble_eq_true (by rfl)) ?_)
              intro w141_ S143_ H142_
              replace H142_ : Holds w141_ (ro R112_ :: cl pw15_ 142 [(Value.iface 89 (Value.pointer (some ⟨b9_, 0, none⟩))), (Value.int .i64 (po117_ : Int)), (Value.int .i64 (page : Int)), (Value.int .i64 (pd118_.length : Int)), (Value.slice (some ⟨bb16_, 0, none⟩) (wm + page) (wm + page)), (Value.int .i64 (wm : Int))] :: cl bb16_ 5 (bytesV pd118_ ++ junk119_) :: cl b9_ 91 [(Value.slice a132_ (List.length ([] ++ ws121_)) cp133_)] :: sl 9 1 (Value.slice a132_ (List.length ([] ++ ws121_)) cp133_) (List.length ([] ++ ws121_)) (strs ([] ++ ws121_)) :: cl b38_ 57 [(Value.int .i64 nn116_), (Value.slice a132_ (List.length ([] ++ ws121_)) cp133_)] :: ro R :: sl 57 2 vo k (an.flatMap AnsS.cells) :: ro R1 :: F) := H142_
              have S144_ := Same.trans S139_ S143_
              refine wpList_nil ?_
              refine (X_then (hK140_ _ _ ?_))
              clear hK140_
              refine C_reg ?_
              refine S_list (T_val (v := vo) (x_move rfl) ?_)
              refine S_list (T_val (v := (Value.agg #[(Value.int .i64 nn116_), (Value.slice a132_ (List.length ([] ++ ws121_)) cp133_)])) (x_loadN (vs := [(Value.int .i64 nn116_), (Value.slice a132_ (List.length ([] ++ ws121_)) cp133_)]) rfl Try.underlying57 rfl z57 rfl (Rd.cells (Holds.rd H142_ 5 rfl) 0 rfl)) ?_)
              refine S_list (T_new (obj := .cells #[(Value.int .i64 nn116_), (Value.slice a132_ (List.length ([] ++ ws121_)) cp133_)] 57) (f := fun b => .slice (some ⟨b, 0, none⟩) 1 1) (A := fun b => cl b 57 [(Value.int .i64 nn116_), (Value.slice a132_ (List.length ([] ++ ws121_)) cp133_)]) (by kernel_rfl) (fun l h => h.alloc _ _) H142_ ?_)
              intro b145_ w146_ S148_ H147_
              replace H147_ : Holds w146_ (cl b145_ 57 [(Value.int .i64 nn116_), (Value.slice a132_ (List.length ([] ++ ws121_)) cp133_)] :: ro R112_ :: cl pw15_ 142 [(Value.iface 89 (Value.pointer (some ⟨b9_, 0, none⟩))), (Value.int .i64 (po117_ : Int)), (Value.int .i64 (page : Int)), (Value.int .i64 (pd118_.length : Int)), (Value.slice (some ⟨bb16_, 0, none⟩) (wm + page) (wm + page)), (Value.int .i64 (wm : Int))] :: cl bb16_ 5 (bytesV pd118_ ++ junk119_) :: cl b9_ 91 [(Value.slice a132_ (List.length ([] ++ ws121_)) cp133_)] :: sl 9 1 (Value.slice a132_ (List.length ([] ++ ws121_)) cp133_) (List.length ([] ++ ws121_)) (strs ([] ++ ws121_)) :: cl b38_ 57 [(Value.int .i64 nn116_), (Value.slice a132_ (List.length ([] ++ ws121_)) cp133_)] :: ro R :: sl 57 2 vo k (an.flatMap AnsS.cells) :: ro R1 :: F) := H147_
              have S149_ := Same.trans S144_ S148_
              refine S_list (T_append rfl rfl Try.underlying53 z57 rfl (by decide) H147_ 8 rfl (Holds.cl_src H147_ 0 rfl Try.underlying53 (by simp [Value.oneCell']) rfl) (by omega) ?_)
              intro v150_ w151_ S153_ H152_
              replace H152_ : Holds w151_ (cl b145_ 57 [(Value.int .i64 nn116_), (Value.slice a132_ (List.length ([] ++ ws121_)) cp133_)] :: ro R112_ :: cl pw15_ 142 [(Value.iface 89 (Value.pointer (some ⟨b9_, 0, none⟩))), (Value.int .i64 (po117_ : Int)), (Value.int .i64 (page : Int)), (Value.int .i64 (pd118_.length : Int)), (Value.slice (some ⟨bb16_, 0, none⟩) (wm + page) (wm + page)), (Value.int .i64 (wm : Int))] :: cl bb16_ 5 (bytesV pd118_ ++ junk119_) :: cl b9_ 91 [(Value.slice a132_ (List.length ([] ++ ws121_)) cp133_)] :: sl 9 1 (Value.slice a132_ (List.length ([] ++ ws121_)) cp133_) (List.length ([] ++ ws121_)) (strs ([] ++ ws121_)) :: cl b38_ 57 [(Value.int .i64 nn116_), (Value.slice a132_ (List.length ([] ++ ws121_)) cp133_)] :: ro R :: sl 57 2 v150_ (k + 1) ((an.flatMap AnsS.cells) ++ [(Value.int .i64 nn116_), (Value.slice a132_ (List.length ([] ++ ws121_)) cp133_)]) :: ro R1 :: F) := H152_
              have S154_ := Same.trans S149_ S153_
              refine S_list (T_val (v := v150_) (x_assign rfl) ?_)
              refine wpList_nil ?_
              refine (X_blkN (X_then (hK36_ _ _ ?_)))
              clear hK36_
              refine C_reg ?_
              refine S_list (T_val (v := (Value.int .i64 (k : Int))) (x_move rfl) ?_)
              refine S_list (T_val (v := (Value.int .i64 ((k : Int) + 1))) (x_bin rfl rfl (ib_add (IntWalk.i64_in _ (by omega)))) ?_)
              refine S_list (T_val (v := (Value.int .i64 ((k : Int) + 1))) (x_assign rfl) ?_)
              refine wpList_nil ?_
              refine (X_then ?_)
              have H155_ : Holds w151_ (ro R1 :: sl 9 1 (Value.slice a132_ (List.length ([] ++ ws121_)) cp133_) (List.length ([] ++ ws121_)) (strs ([] ++ ws121_)) :: cl b145_ 57 [(Value.int .i64 nn116_), (Value.slice a132_ (List.length ([] ++ ws121_)) cp133_)] :: ro R112_ :: cl pw15_ 142 [(Value.iface 89 (Value.pointer (some ⟨b9_, 0, none⟩))), (Value.int .i64 (po117_ : Int)), (Value.int .i64 (page : Int)), (Value.int .i64 (pd118_.length : Int)), (Value.slice (some ⟨bb16_, 0, none⟩) (wm + page) (wm + page)), (Value.int .i64 (wm : Int))] :: cl bb16_ 5 (bytesV pd118_ ++ junk119_) :: cl b9_ 91 [(Value.slice a132_ (List.length ([] ++ ws121_)) cp133_)] :: cl b38_ 57 [(Value.int .i64 nn116_), (Value.slice a132_ (List.length ([] ++ ws121_)) cp133_)] :: ro R :: sl 57 2 v150_ (k + 1) ((an.flatMap AnsS.cells) ++ [(Value.int .i64 nn116_), (Value.slice a132_ (List.length ([] ++ ws121_)) cp133_)]) :: F) := (Holds.bring (Holds.bring H152_ 5 rfl) 9 rfl)
              obtain ⟨R156_, hs157_, ⟨R158_, ha159_, hs160_⟩, H161_⟩ := Holds.gift H155_
              replace H161_ : Holds w151_ (ro R156_ :: cl b145_ 57 [(Value.int .i64 nn116_), (Value.slice a132_ (List.length ([] ++ ws121_)) cp133_)] :: ro R112_ :: cl pw15_ 142 [(Value.iface 89 (Value.pointer (some ⟨b9_, 0, none⟩))), (Value.int .i64 (po117_ : Int)), (Value.int .i64 (page : Int)), (Value.int .i64 (pd118_.length : Int)), (Value.slice (some ⟨bb16_, 0, none⟩) (wm + page) (wm + page)), (Value.int .i64 (wm : Int))] :: cl bb16_ 5 (bytesV pd118_ ++ junk119_) :: cl b9_ 91 [(Value.slice a132_ (List.length ([] ++ ws121_)) cp133_)] :: cl b38_ 57 [(Value.int .i64 nn116_), (Value.slice a132_ (List.length ([] ++ ws121_)) cp133_)] :: ro R :: sl 57 2 v150_ (k + 1) ((an.flatMap AnsS.cells) ++ [(Value.int .i64 nn116_), (Value.slice a132_ (List.length ([] ++ ws121_)) cp133_)]) :: F) := H161_
              have H162_ : Holds w151_ (ro R156_ :: cl b145_ 57 [(Value.int .i64 nn116_), (Value.slice a132_ (List.length ([] ++ ws121_)) cp133_)] :: ro R112_ :: cl pw15_ 142 [(Value.iface 89 (Value.pointer (some ⟨b9_, 0, none⟩))), (Value.int .i64 (po117_ : Int)), (Value.int .i64 (page : Int)), (Value.int .i64 (pd118_.length : Int)), (Value.slice (some ⟨bb16_, 0, none⟩) (wm + page) (wm + page)), (Value.int .i64 (wm : Int))] :: cl bb16_ 5 (bytesV pd118_ ++ junk119_) :: cl b9_ 91 [(Value.slice a132_ (List.length ([] ++ ws121_)) cp133_)] :: cl b38_ 57 [(Value.int .i64 nn116_), (Value.slice a132_ (List.length ([] ++ ws121_)) cp133_)] :: ro R :: sl 57 2 v150_ (k + 1) ((an ++ [(⟨nn116_, a132_, (List.length ([] ++ ws121_)), cp133_⟩ : AnsS)]).flatMap AnsS.cells) :: F) := cast2 (P := fun (c__ : List Value) (k__ : Nat) => Holds w151_ (ro R156_ :: cl b145_ 57 [(Value.int .i64 nn116_), (Value.slice a132_ (List.length ([] ++ ws121_)) cp133_)] :: ro R112_ :: cl pw15_ 142 [(Value.iface 89 (Value.pointer (some ⟨b9_, 0, none⟩))), (Value.int .i64 (po117_ : Int)), (Value.int .i64 (page : Int)), (Value.int .i64 (pd118_.length : Int)), (Value.slice (some ⟨bb16_, 0, none⟩) (wm + page) (wm + page)), (Value.int .i64 (wm : Int))] :: cl bb16_ 5 (bytesV pd118_ ++ junk119_) :: cl b9_ 91 [(Value.slice a132_ (List.length ([] ++ ws121_)) cp133_)] :: cl b38_ 57 [(Value.int .i64 nn116_), (Value.slice a132_ (List.length ([] ++ ws121_)) cp133_)] :: ro R :: sl 57 2 v150_ k__ c__ :: F)) (by simp [List.flatMap_append, AnsS.cells] : (an.flatMap AnsS.cells) ++ [(Value.int .i64 nn116_), (Value.slice a132_ (List.length ([] ++ ws121_)) cp133_)] = (an ++ [(⟨nn116_, a132_, (List.length ([] ++ ws121_)), cp133_⟩ : AnsS)]).flatMap AnsS.cells) (rfl : k + 1 = k + 1) H161_
              have H163_ : Holds w151_ (ro R :: cl b9_ 91 [(Value.slice a132_ (List.length ([] ++ ws121_)) cp133_)] :: cl pw15_ 142 [(Value.iface 89 (Value.pointer (some ⟨b9_, 0, none⟩))), (Value.int .i64 (po117_ : Int)), (Value.int .i64 (page : Int)), (Value.int .i64 (pd118_.length : Int)), (Value.slice (some ⟨bb16_, 0, none⟩) (wm + page) (wm + page)), (Value.int .i64 (wm : Int))] :: cl bb16_ 5 (bytesV pd118_ ++ junk119_) :: sl 57 2 v150_ (k + 1) ((an ++ [(⟨nn116_, a132_, (List.length ([] ++ ws121_)), cp133_⟩ : AnsS)]).flatMap AnsS.cells) :: ro R156_ :: F) := (Holds.erase (Holds.erase (Holds.erase (Holds.bring (Holds.bring (Holds.bring (Holds.bring (Holds.bring (Holds.bring H162_ 0 rfl) 8 rfl) 5 rfl) 5 rfl) 6 rfl) 8 rfl) 6) 6) 6)
              exact ⟨⟨k + 1, po117_, pd118_, junk119_, (Value.slice a132_ (List.length ([] ++ ws121_)) cp133_), v150_, (an ++ [(⟨nn116_, a132_, (List.length ([] ++ ws121_)), cp133_⟩ : AnsS)]), wss ++ [ws121_], R156_⟩, ⟨_, congrArg (fun e => mkA 76 e []) (ch (ch (ch (ch (ch rfl (by first | rfl | exact congrArg (Value.int _) (by omega))) (by first | rfl | exact congrArg (Value.int _) (by omega))) (by first | rfl | exact congrArg (Value.int _) (by omega))) (by first | rfl | exact congrArg (Value.int _) (by omega))) (by first | rfl | exact congrArg (Value.int _) (by omega))), H163_, S154_, by omega, hruns.next hx55_ ⟨nn116_, a132_, (List.length ([] ++ ws121_)), cp133_⟩ (.inr ⟨by assumption, hw122_, hn123_⟩), hans.snoc hs157_ (by have := (sl_RS ha159_ (Sub.rfl' _)).mono hs160_; simpa using this), by simp; omega, hw122_.inv, by omega, hj124_⟩, by first | omega | (simp; omega)⟩
          · have c35_fp : ¬ ((k : Int) < (l.length : Int)) := of_decide_eq_false c35_f
            refine C_exit (X_thenX (X_thenX (X_blkHit ?_)))
            refine (X_then (hK25_ _ _ ?_))
            clear hK25_
            refine C_seq (fun K164_ hK164_ => ?_)
            refine C_reg ?_
            refine S_list (T_val (v := vo) (x_move rfl) ?_)
            refine S_list (T_val (v := vo) (x_assign rfl) ?_)
            refine wpList_nil ?_
            refine (X_then (hK164_ _ _ ?_))
            clear hK164_
            refine C_ret ?_
            refine R_any (v := vo) (run_results1 rfl rfl) ?_
            have H165_ : Holds w30_ (ro R1 :: sl 57 2 vo k (an.flatMap AnsS.cells) :: ro R :: cl b9_ 91 [VB] :: cl pw15_ 142 [(Value.iface 89 (Value.pointer (some ⟨b9_, 0, none⟩))), (Value.int .i64 (po : Int)), (Value.int .i64 (page : Int)), (Value.int .i64 (pd.length : Int)), (Value.slice (some ⟨bb16_, 0, none⟩) (wm + page) (wm + page)), (Value.int .i64 (wm : Int))] :: cl bb16_ 5 (bytesV pd ++ junk) :: F) := (Holds.bring (Holds.bring H31_ 4 rfl) 5 rfl)
            obtain ⟨R166_, hs167_, ⟨R168_, ha169_, hs170_⟩, H171_⟩ := Holds.gift H165_
            obtain rfl : k = l.length := by omega
            rw [List.take_length] at hruns
            have H172_ : Holds w30_ (ro R :: ro R166_ :: F) := (Holds.erase (Holds.erase (Holds.erase (Holds.bring (Holds.bring H171_ 0 rfl) 1 rfl) 2) 2) 2)
            exact ⟨_, [ro R166_], rfl, ⟨R166_, an, wss, po, pd, (RS.mono (sl_RS ha169_ (Sub.rfl' _)) hs170_).set_ rfl (by omega), hruns, hans.mono hs167_, rfl⟩, S32_, H172_⟩
end Go.Proofs.Ytfdnfnjmphjdnaa
