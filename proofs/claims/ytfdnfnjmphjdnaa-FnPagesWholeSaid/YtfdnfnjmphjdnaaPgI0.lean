/- What is done with a writer of pages: the law. -/
import Derived.Test.YtfdnfnjmphjdnaaPgH0
set_option linter.unusedVariables false
set_option linter.unusedSimpArgs false
namespace Go.Proofs.Ytfdnfnjmphjdnaa
open Go Go.RowKit Gw

theorem Wh.at_ {page : Nat} {fl : Bool} : ∀ {ws : List (List Int)} {a j : Nat} {s : List Int}, Wh page fl a ws → ws[j]? = some s → s ≠ [] ∧ (fl = false → (a + tot (ws.take j) + s.length) % page = 0)
  | [], a, j, s, h, hs => by simp at hs
  | x :: r, a, 0, s, h, hs => by
    simp only [List.getElem?_cons_zero, Option.some.injEq] at hs
    subst hs
    exact ⟨h.1, by simpa [tot] using h.2.1⟩
  | x :: r, a, j + 1, s, h, hs => by
    have := Wh.at_ (ws := r) (j := j) h.2.2 (by simpa using hs)
    simpa [tot, Nat.add_assoc] using this
theorem Wh.len {page : Nat} {fl : Bool} : ∀ {ws : List (List Int)} {a : Nat}, Wh page fl a ws → ws.length ≤ tot ws
  | [], a, h => by simp [tot]
  | x :: r, a, h => by
    have := Wh.len h.2.2
    have hx := List.length_pos_iff.2 h.1
    have : tot (x :: r) = x.length + tot r := by simp [tot]
    simp only [List.length_cons]; omega
theorem strN_size (s : List Int) : (strN s).size = s.length := by
  have := congrArg List.length (strN_data s)
  simpa using this
theorem strs_at {ws : List (List Int)} {j : Nat} {s : List Int} (h : ws[j]? = some s) : (strs ws)[j]? = some (.string (strN s)) := by simp [strs, h]
theorem tot_take {ws : List (List Int)} {j : Nat} {s : List Int} (h : ws[j]? = some s) : tot (ws.take (j + 1)) = tot (ws.take j) + s.length := by
  rw [List.take_add_one, h, tot_append]; simp [tot]
theorem totT_take {wss : List (List (List Int))} {k : Nat} {ws : List (List Int)} (h : wss[k]? = some ws) : totT (wss.take (k + 1)) = totT (wss.take k) + tot ws := by
  rw [List.take_add_one, h]; simp [totT]
theorem strN_nil {s : List Int} (h : ((strN s).toList == (ByteArray.mk #[]).toList) = true) : s = [] := by
  have h := congrArg List.length (eq_of_beq h)
  rw [toList_data, toList_data] at h
  have e : (strN s).data.toList.length = s.length := by rw [strN_data]; simp
  rw [e] at h
  exact List.eq_nil_of_length_eq_zero (by simpa using h)

/-- What the guard lets in. -/
def GoodI (wm page off : Int) (l : List OpS) : Prop := 1 ≤ page ∧ page ≤ 65536 ∧ page ≤ wm ∧ wm ≤ 1048576 ∧ 0 ≤ off ∧ off ≤ 1073741824 ∧ l.length ≤ 300 ∧ ∀ (i : Nat) (x : OpS), l[i]? = some x → x.text.size ≤ 1048576
theorem kPagesI (R : HP) (wm page off : Int) (v : Value) (l : List OpS) (hV : RS R 2 v l.length (l.flatMap OpS.cells)) (hG : GoodI wm page off l) :
    Tri Try.prog 29 #[.int .i64 wm, .int .i64 page, .int .i64 off, v] R [] (fun v post => ∃ (R1 : HP) (an : List AnsS) (wss : List (List (List Int))) (po : Nat) (pd : List Int), RS R1 2 v an.length (an.flatMap AnsS.cells) ∧ Runs page.toNat wm.toNat off.toNat l an wss po pd ∧ AnsAt R1 an wss ∧ post = [ro R1]) := by
  obtain ⟨a1, a2, a3, a4, a5, a6, a7, a8⟩ := hG
  have := kPages R wm.toNat page.toNat off.toNat v l hV (by omega) (by omega) (by omega) (by omega) (by omega) a7 a8
  rwa [show ((wm.toNat : Nat) : Int) = wm by omega, show ((page.toNat : Nat) : Int) = page by omega, show ((off.toNat : Nat) : Int) = off by omega] at this

set_option maxHeartbeats 1000000 in
theorem fnPagesWhole (R : HP) (wm page off : Int) (v : Value) (l : List OpS) (hV : RS R 2 v l.length (l.flatMap OpS.cells)) :
    Tri Try.prog 7 #[(Value.int .i64 wm), (Value.int .i64 page), (Value.int .i64 off), v] R [] (fun v post => v = .bool true ∧ post = []) := by
  refine Tri.into (n := 73) (al := [(Value.int .i64 wm), (Value.int .i64 page), (Value.int .i64 off), v]) Try.func7 rfl Try.ntmps7 rfl rfl fun w F H => ?_
  replace H : Holds w (ro R :: F) := H
  refine C_seq (fun K1_ hK1_ => ?_)
  refine C_reg ?_
  refine S_list (T_val (v := (Value.bool false)) (x_assign rfl) ?_)
  refine wpList_nil ?_
  refine (X_then (hK1_ _ _ ?_))
  clear hK1_
  refine C_seq (fun K2_ hK2_ => ?_)
  refine C_seq (fun K3_ hK3_ => ?_)
  refine C_reg ?_
  refine S_list (T_val (v := v) (x_move rfl) ?_)
  refine S_list (T_call (al := [v]) (pre := []) (F := F) rfl rfl cb26 (pFits29 R v l hV) H ?_)
  rintro v8_ p9_ w5_ ⟨⟨q4_, rfl, hf29⟩, rfl⟩ S7_ H6_
  replace H6_ : Holds w5_ (ro R :: F) := H6_
  have S10_ := Same.trans (Same.refl w) S7_
  refine S_list (T_val (v := (Value.bool (!q4_))) (x_not rfl) ?_)
  refine wpList_nil ?_
  refine (X_then (hK3_ _ _ ?_))
  clear hK3_
  refine C_cond (b := !q4_) rfl (fun c11_t => ?_) (fun c11_f => ?_)
  · skip
    refine C_seq (fun K12_ hK12_ => ?_)
    refine C_reg ?_
    refine S_list (T_val (v := (Value.bool true)) (x_assign rfl) ?_)
    refine wpList_nil ?_
    refine (X_then (hK12_ _ _ ?_))
    clear hK12_
    refine C_ret (X_thenR ?_)
    refine R_any (v := (Value.bool true)) (run_results1 rfl rfl) ?_
    exact ⟨_, [], rfl, ⟨rfl, rfl⟩, S10_, H6_⟩
  · skip
    refine C_skip (X_then (hK2_ _ _ ?_))
    clear hK2_
    refine C_seq (fun K13_ hK13_ => ?_)
    refine C_seq (fun K14_ hK14_ => ?_)
    refine C_reg ?_
    refine S_list (T_val (v := (Value.int .i64 wm)) (x_move rfl) ?_)
    refine S_list (T_val (v := (Value.int .i64 page)) (x_move rfl) ?_)
    refine S_list (T_val (v := (Value.int .i64 off)) (x_move rfl) ?_)
    refine S_list (T_val (v := v) (x_move rfl) ?_)
    refine S_list (T_call (al := [(Value.int .i64 wm), (Value.int .i64 page), (Value.int .i64 off), v]) (pre := []) (F := F) rfl rfl cb27 (pGood R wm page off v l hV (fun i x hx => Nat.le_trans (hf29 (by simp_all) i x hx) (by decide))) H6_ ?_)
    rintro v18_ p19_ w15_ ⟨okG, rfl, hokG, rfl⟩ S17_ H16_
    replace H16_ : Holds w15_ (ro R :: F) := H16_
    have S20_ := Same.trans S10_ S17_
    refine S_list (T_val (v := (Value.bool (!okG))) (x_not rfl) ?_)
    refine wpList_nil ?_
    refine (X_then (hK14_ _ _ ?_))
    clear hK14_
    refine C_cond (b := !okG) rfl (fun c21_t => ?_) (fun c21_f => ?_)
    · skip
      refine C_seq (fun K22_ hK22_ => ?_)
      refine C_reg ?_
      refine S_list (T_call (al := []) (pre := []) (F := F) rfl rfl cb28 (pLive R) H16_ ?_)
      rintro v26_ p27_ w23_ ⟨rfl, rfl⟩ S25_ H24_
      replace H24_ : Holds w23_ (ro R :: F) := H24_
      have S28_ := Same.trans S20_ S25_
      refine S_list (T_val (v := (Value.bool true)) (x_assign rfl) ?_)
      refine wpList_nil ?_
      refine (X_then (hK22_ _ _ ?_))
      clear hK22_
      refine C_ret (X_thenR ?_)
      refine R_any (v := (Value.bool true)) (run_results1 rfl rfl) ?_
      exact ⟨_, [], rfl, ⟨rfl, rfl⟩, S28_, H24_⟩
    · skip
      have hG := hokG (by simpa using c21_f)
      obtain ⟨hG1, hG2, hG3, hG4, hG5, hG6, hG7, hG8⟩ := id hG
      replace hG : GoodI wm page off l := hG
      refine C_skip (X_then (hK13_ _ _ ?_))
      clear hK13_
      refine C_seq (fun K29_ hK29_ => ?_)
      refine C_reg ?_
      refine S_list (T_val (v := (Value.int .i64 wm)) (x_move rfl) ?_)
      refine S_list (T_val (v := (Value.int .i64 page)) (x_move rfl) ?_)
      refine S_list (T_val (v := (Value.int .i64 off)) (x_move rfl) ?_)
      refine S_list (T_val (v := v) (x_move rfl) ?_)
      refine S_list (T_call (al := [(Value.int .i64 wm), (Value.int .i64 page), (Value.int .i64 off), v]) (pre := []) (F := F) rfl rfl cb29 (kPagesI R wm page off v l hV hG) H16_ ?_)
      rintro v34_ p35_ w31_ ⟨R1, an, wss, po, pd, hr, hruns, hans, rfl⟩ S33_ H32_
      replace H32_ : Holds w31_ (ro R :: ro R1 :: F) := H32_
      have S36_ := Same.trans S20_ S33_
      obtain ⟨hw1, hw2, hw3, hw4⟩ := Runs.whole (by omega) hruns
      have hws := Runs.sum hruns (fun x hx => by obtain ⟨i, hi, e⟩ := List.getElem_of_mem hx; exact hG8 i x (by rw [List.getElem?_eq_getElem hi, e]))
      refine S_list (T_val (v := v34_) (x_assign rfl) ?_)
      refine wpList_nil ?_
      refine (X_then (hK29_ _ _ ?_))
      clear hK29_
      refine C_seq (fun K37_ hK37_ => ?_)
      refine C_seq (fun K38_ hK38_ => ?_)
      refine C_reg ?_
      refine S_list (T_val (v := v34_) (x_move rfl) ?_)
      refine S_list (T_val (v := (Value.int .i64 (an.length : Int))) (x_lenRS rfl hr Try.underlying53) ?_)
      refine S_list (T_val (v := v) (x_move rfl) ?_)
      refine S_list (T_val (v := (Value.int .i64 (l.length : Int))) (x_lenRS rfl hV Try.underlying50) ?_)
      refine S_list (T_val (v := (Value.bool (decide ((an.length : Int) ≠ (l.length : Int))))) (x_bin rfl rfl rfl) ?_)
      refine wpList_nil ?_
      refine (X_then (hK38_ _ _ ?_))
      clear hK38_
      refine C_cond (b := decide ((an.length : Int) ≠ (l.length : Int))) rfl (fun c39_t => ?_) (fun c39_f => ?_)
      · have c39_tp : (an.length : Int) ≠ (l.length : Int) := of_decide_eq_true c39_t
        omega
      · have c39_fp : ¬ ((an.length : Int) ≠ (l.length : Int)) := of_decide_eq_false c39_f
        refine C_skip (X_then (hK37_ _ _ ?_))
        clear hK37_
        refine C_seq (fun K40_ hK40_ => ?_)
        refine C_reg ?_
        refine S_list (T_val (v := (Value.int .i64 off)) (x_move rfl) ?_)
        refine S_list (T_val (v := (Value.int .i64 off)) (x_assign rfl) ?_)
        refine wpList_nil ?_
        refine (X_then (hK40_ _ _ ?_))
        clear hK40_
        refine C_seq (fun K41_ hK41_ => ?_)
        refine C_seq (fun K42_ hK42_ => ?_)
        refine C_reg ?_
        refine S_list (T_val (v := v34_) (x_move rfl) ?_)
        refine S_list (T_val (v := (Value.int .i64 (an.length : Int))) (x_lenRS rfl hr Try.underlying53) ?_)
        refine S_list (T_val (v := (Value.int .i64 0)) (x_move rfl) ?_)
        refine wpList_nil ?_
        refine (X_then (hK42_ _ _ ?_))
        clear hK42_
        refine C_block ?_
        have ht0 : totT (List.take 0 wss) = 0 := rfl
        refine C_loop (γ := Nat) (fun k a w1 => ∃ h : Env, a = mkA 73 (upd (upd (upd (upd (upd (upd h 38 (Value.int .i64 (k : Int))) 10 (Value.int .i64 ((off.toNat + totT (List.take k wss) : Nat) : Int))) 1 (Value.int .i64 page)) 3 v) 36 v34_) 37 (Value.int .i64 (an.length : Int))) [] ∧ Holds w1 (ro R :: ro R1 :: F) ∧ Same w w1 ∧ (k ≤ an.length)) (fun k => an.length - k) (0) ⟨_, congrArg (fun e => mkA 73 e []) (ch (ch (ch (ch (ch (ch rfl (by first | rfl | exact congrArg (Value.int _) (by omega))) (by first | rfl | exact congrArg (Value.int _) (by omega))) (by first | rfl | exact congrArg (Value.int _) (by omega))) (by first | rfl | exact congrArg (Value.int _) (by omega))) (by first | rfl | exact congrArg (Value.int _) (by omega))) (by first | rfl | exact congrArg (Value.int _) (by omega))), H32_, S36_, by omega⟩ ?_
        rintro k _ w43_ ⟨h, rfl, H44_, S45_, hk⟩
        refine C_seq (fun K46_ hK46_ => ?_)
        refine C_reg ?_
        refine S_list (T_val (v := (Value.bool (decide ((k : Int) < (an.length : Int))))) (x_bin rfl rfl rfl) ?_)
        refine wpList_nil ?_
        refine (X_then (hK46_ _ _ ?_))
        clear hK46_
        refine C_seq (fun K47_ hK47_ => ?_)
        refine C_cond (b := decide ((k : Int) < (an.length : Int))) rfl (fun c48_t => ?_) (fun c48_f => ?_)
        · have c48_tp : (k : Int) < (an.length : Int) := of_decide_eq_true c48_t
          refine C_skip (X_then (hK47_ _ _ ?_))
          clear hK47_
          refine C_seq (fun K49_ hK49_ => ?_)
          refine C_block ?_
          refine C_seq (fun K50_ hK50_ => ?_)
          refine C_reg ?_
          refine S_list (T_val (v := (Value.int .i64 (k : Int))) (x_move rfl) ?_)
          obtain ⟨a51_, ha52_, -⟩ := elem_at an k (by omega)
          obtain ⟨ws53_, hws54_, -⟩ := elem_at wss k (by omega)
          obtain ⟨x55_, hx56_, -⟩ := elem_at l k (by omega)
          have hra57_ := hans.2 k a51_ ws53_ ha52_ hws54_
          have hwh58_ := hw4 k x55_ ws53_ hx56_ hws54_
          have hwl := Wh.len hwh58_
          have htt := totT_take hws54_
          have htl := totT_le (wss := wss) (k + 1)
          refine S_list (T_val (v := (Value.pointer (some ⟨(sb v34_), so v34_ + (k * 2 + 0), none⟩))) (x_idxRS (v := v34_) rfl hr rfl Try.underlying53 z57 (by omega) (by omega) (by omega : _ = k) rfl) ?_)
          refine S_list (T_val (v := (Value.agg #[(Value.int .i64 a51_.n), (Value.slice a51_.wA a51_.wN a51_.wC)])) (x_loadN (vs := [(Value.int .i64 a51_.n), (Value.slice a51_.wA a51_.wN a51_.wC)]) rfl Try.underlying57 rfl z57 rfl (RC.cells (RS.rc hr) (Holds.ro_at H44_ 1 rfl) (k * 2 + 0) (fm_cells AnsS.len ha52_ (i := 0) rfl))) ?_)
          refine S_list (T_alloc z57 H44_ ?_)
          intro b59_ w60_ S62_ H61_
          replace H61_ : Holds w60_ (cl b59_ 57 [(Value.int .i64 0), (Value.slice none 0 0)] :: ro R :: ro R1 :: F) := H61_
          have S63_ := Same.trans S45_ S62_
          refine S_list (T_val (v := (Value.int .i64 (k : Int))) (x_assign rfl) ?_)
          refine S_list0 (T_storeN (vs := [(Value.int .i64 a51_.n), (Value.slice a51_.wA a51_.wN a51_.wC)]) rfl rfl z57 rfl (by simp [Value.oneCell']) H61_ 0 rfl (Nat.le_of_ble_eq_true (by rfl)) ?_)
          intro w64_ S66_ H65_
          replace H65_ : Holds w64_ (cl b59_ 57 [(Value.int .i64 a51_.n), (Value.slice a51_.wA a51_.wN a51_.wC)] :: ro R :: ro R1 :: F) := H65_
          have S67_ := Same.trans S63_ S66_
          refine wpList_nil ?_
          refine (X_then (hK50_ _ _ ?_))
          clear hK50_
          refine C_seq (fun K68_ hK68_ => ?_)
          refine C_reg ?_
          refine S_list (T_val (v := (Value.pointer (some ⟨b59_, 1, none⟩))) (by kernel_rfl) ?_)
          refine S_list (T_val (v := (Value.slice a51_.wA a51_.wN a51_.wC)) (x_load1 rfl Try.underlying55 rfl ((Holds.rd H65_ 0 rfl) 1 (Value.slice a51_.wA a51_.wN a51_.wC) rfl)) ?_)
          refine S_list (T_val (v := (Value.int .i64 (ws53_.length : Int))) (x_lenRS rfl hra57_ Try.underlying55) ?_)
          refine S_list (T_val (v := (Value.int .i64 0)) (x_move rfl) ?_)
          refine wpList_nil ?_
          refine (X_then (hK68_ _ _ ?_))
          clear hK68_
          refine C_block ?_
          have ht1 : tot (List.take 0 ws53_) = 0 := rfl
          have H69_ : Holds w64_ (ro R :: ro R1 :: F) := (Holds.erase (Holds.bring (Holds.bring H65_ 2 rfl) 2 rfl) 2)
          refine C_loop (γ := Nat) (fun j a w1 => ∃ h : Env, a = mkA 73 (upd (upd (upd (upd (upd (upd (upd (upd (upd (upd h 46 (Value.int .i64 (j : Int))) 10 (Value.int .i64 ((off.toNat + totT (List.take k wss) + tot (List.take j ws53_) : Nat) : Int))) 1 (Value.int .i64 page)) 3 v) 11 (Value.int .i64 (k : Int))) 36 v34_) 37 (Value.int .i64 (an.length : Int))) 38 (Value.int .i64 (k : Int))) 44 (Value.slice a51_.wA a51_.wN a51_.wC)) 45 (Value.int .i64 (ws53_.length : Int))) [] ∧ Holds w1 (ro R :: ro R1 :: F) ∧ Same w w1 ∧ (j ≤ ws53_.length)) (fun j => ws53_.length - j) (0) ⟨_, congrArg (fun e => mkA 73 e []) (ch (ch (ch (ch (ch (ch (ch (ch (ch (ch rfl (by first | rfl | exact congrArg (Value.int _) (by omega))) (by first | rfl | exact congrArg (Value.int _) (by omega))) (by first | rfl | exact congrArg (Value.int _) (by omega))) (by first | rfl | exact congrArg (Value.int _) (by omega))) (by first | rfl | exact congrArg (Value.int _) (by omega))) (by first | rfl | exact congrArg (Value.int _) (by omega))) (by first | rfl | exact congrArg (Value.int _) (by omega))) (by first | rfl | exact congrArg (Value.int _) (by omega))) (by first | rfl | exact congrArg (Value.int _) (by omega))) (by first | rfl | exact congrArg (Value.int _) (by omega))), H69_, S67_, by omega⟩ ?_
          rintro j _ w70_ ⟨h, rfl, H71_, S72_, hj⟩
          refine C_seq (fun K73_ hK73_ => ?_)
          refine C_reg ?_
          refine S_list (T_val (v := (Value.bool (decide ((j : Int) < (ws53_.length : Int))))) (x_bin rfl rfl rfl) ?_)
          refine wpList_nil ?_
          refine (X_then (hK73_ _ _ ?_))
          clear hK73_
          refine C_seq (fun K74_ hK74_ => ?_)
          refine C_cond (b := decide ((j : Int) < (ws53_.length : Int))) rfl (fun c75_t => ?_) (fun c75_f => ?_)
          · have c75_tp : (j : Int) < (ws53_.length : Int) := of_decide_eq_true c75_t
            refine C_skip (X_then (hK74_ _ _ ?_))
            clear hK74_
            refine C_seq (fun K76_ hK76_ => ?_)
            refine C_block ?_
            refine C_seq (fun K77_ hK77_ => ?_)
            refine C_reg ?_
            obtain ⟨y78_, hy79_, -⟩ := elem_at ws53_ j (by omega)
            have h580_ := Wh.at_ hwh58_ hy79_
            have hty := tot_take hy79_
            have htz := tot_le (ws := ws53_) (j + 1)
            have hsz := strN_size y78_
            refine S_list (T_val (v := (Value.pointer (some ⟨(sb (Value.slice a51_.wA a51_.wN a51_.wC)), so (Value.slice a51_.wA a51_.wN a51_.wC) + j, none⟩))) (x_idxRS (v := (Value.slice a51_.wA a51_.wN a51_.wC)) rfl hra57_ rfl Try.underlying55 z9 (by omega) (by omega) (by omega : _ = j) (by rw [Nat.mul_one])) ?_)
            refine S_list (T_val (v := (Value.string (strN y78_))) (x_load1 rfl Try.underlying9 rfl (RC.cell (RS.rc hra57_) (Holds.ro_at H71_ 1 rfl) (j := j) (u := (Value.string (strN y78_))) ((strs_at hy79_)))) ?_)
            refine S_list (T_val (v := (Value.string (strN y78_))) (x_assign rfl) ?_)
            refine wpList_nil ?_
            refine (X_then (hK77_ _ _ ?_))
            clear hK77_
            refine C_seq (fun K81_ hK81_ => ?_)
            refine C_reg ?_
            refine S_list (T_val (v := (Value.int .i64 ((off.toNat + totT (List.take k wss) + tot (List.take j ws53_) : Nat) : Int))) (x_move rfl) ?_)
            refine S_list (T_val (v := (Value.string (strN y78_))) (x_move rfl) ?_)
            refine S_list (T_val (v := (Value.int .i64 ((strN y78_).size : Int))) (x_lenT rfl Try.underlying9) ?_)
            refine S_list (T_val (v := (Value.int .i64 ((off.toNat + totT (List.take k wss) + tot (List.take (j + 1) ws53_) : Nat) : Int))) (x_bin rfl rfl (ib_addN (x := off.toNat + totT (List.take k wss) + tot (List.take j ws53_)) (y := y78_.length) rfl (by omega) (by omega) (by omega))) ?_)
            refine S_list (T_val (v := (Value.int .i64 ((off.toNat + totT (List.take k wss) + tot (List.take (j + 1) ws53_) : Nat) : Int))) (x_assign rfl) ?_)
            refine wpList_nil ?_
            refine (X_then (hK81_ _ _ ?_))
            clear hK81_
            refine C_seq (fun K82_ hK82_ => ?_)
            refine C_reg ?_
            refine S_list (T_val (v := (Value.string (strN y78_))) (x_move rfl) ?_)
            refine S_list (T_val (v := (Value.bool ((strN y78_).toList == (ByteArray.mk #[]).toList))) (x_str rfl rfl rfl (by decide)) ?_)
            refine S_list (T_val (v := (Value.bool ((strN y78_).toList == (ByteArray.mk #[]).toList))) (x_move rfl) ?_)
            rcases Bool.eq_false_or_eq_true ((strN y78_).toList == (ByteArray.mk #[]).toList) with c83_t | c83_f
            · skip
              exact absurd (strN_nil c83_t) h580_.1
            · skip
              refine S_yes (j := 2) (dj := 56) (b := false) rfl rfl (congrArg Value.bool c83_f) (T_val (v := v) (x_move rfl) ?_)
              refine S_yes (j := 2) (dj := 56) (b := false) rfl rfl (congrArg Value.bool c83_f) (T_val (v := (Value.int .i64 (k : Int))) (x_move rfl) ?_)
              refine S_yes (j := 2) (dj := 56) (b := false) rfl rfl (congrArg Value.bool c83_f) (T_val (v := (Value.pointer (some ⟨(sb v), so v + (k * 2 + 0), none⟩))) (x_idxRS (v := v) rfl hV rfl Try.underlying50 z59 (by omega) (by omega) (by omega : _ = k) rfl) ?_)
              refine S_yes (j := 2) (dj := 56) (b := false) rfl rfl (congrArg Value.bool c83_f) (T_val (v := (Value.pointer (some ⟨(sb v), so v + (k * 2 + 1), none⟩))) (by kernel_rfl) ?_)
              refine S_yes (j := 2) (dj := 56) (b := false) rfl rfl (congrArg Value.bool c83_f) (T_val (v := (Value.bool x55_.flush)) (x_load1 rfl Try.underlying4 rfl (RC.cell (RS.rc hV) (Holds.ro_at H71_ 0 rfl) (j := k * 2 + 1) (u := (Value.bool x55_.flush)) (fm_cell OpS.len hx56_ (i := 1) rfl))) ?_)
              refine S_yes (j := 2) (dj := 56) (b := false) rfl rfl (congrArg Value.bool c83_f) (T_val (v := (Value.bool (!x55_.flush))) (x_not rfl) ?_)
              refine S_yes (j := 2) (dj := 56) (b := false) rfl rfl (congrArg Value.bool c83_f) (T_val (v := (Value.bool (!x55_.flush))) (x_move rfl) ?_)
              rcases Bool.eq_false_or_eq_true (!x55_.flush) with c84_t | c84_f
              · skip
                refine S_yes (j := 9) (dj := 63) (b := true) rfl rfl (congrArg Value.bool c84_t) (T_val (v := (Value.int .i64 ((off.toNat + totT (List.take k wss) + tot (List.take (j + 1) ws53_) : Nat) : Int))) (x_move rfl) ?_)
                refine S_yes (j := 9) (dj := 63) (b := true) rfl rfl (congrArg Value.bool c84_t) (T_val (v := (Value.int .i64 page)) (x_move rfl) ?_)
                have hfl_ := h580_.2 (by simp_all)
                refine S_yes (j := 9) (dj := 63) (b := true) rfl rfl (congrArg Value.bool c84_t) (T_val (v := (Value.int .i64 0)) (x_bin rfl rfl (ib_remN (x := off.toNat + totT (List.take k wss) + tot (List.take (j + 1) ws53_)) (y := page.toNat) (r := 0) rfl (by omega) (by omega) (by omega) (by rw [hty, ← Nat.add_assoc]; exact hfl_))) ?_)
                refine S_yes (j := 9) (dj := 63) (b := true) rfl rfl (congrArg Value.bool c84_t) (T_val (v := (Value.bool false)) (x_bin rfl rfl rfl) ?_)
                refine S_yes (j := 2) (dj := 56) (b := false) rfl rfl (congrArg Value.bool c83_f) (T_pickT (v := (Value.bool false)) (congrArg Value.bool c84_t) rfl ?_)
                refine S_list (T_pickF (v := (Value.bool false)) (congrArg Value.bool c83_f) rfl ?_)
                refine wpList_nil ?_
                refine (X_then (hK82_ _ _ ?_))
                clear hK82_
                refine C_condF rfl ?_
                refine C_skip (X_blkN (X_then (hK76_ _ _ ?_)))
                clear hK76_
                refine C_reg ?_
                refine S_list (T_val (v := (Value.int .i64 ((j : Int) + 1))) (x_bin rfl rfl (ib_add (IntWalk.i64_in _ (by omega)))) ?_)
                refine S_list (T_val (v := (Value.int .i64 ((j : Int) + 1))) (x_move rfl) ?_)
                refine wpList_nil ?_
                refine (X_then ?_)
                exact ⟨j + 1, ⟨_, congrArg (fun e => mkA 73 e []) (ch (ch (ch (ch (ch (ch (ch (ch (ch (ch rfl (by first | rfl | exact congrArg (Value.int _) (by omega))) (by first | rfl | exact congrArg (Value.int _) (by omega))) (by first | rfl | exact congrArg (Value.int _) (by omega))) (by first | rfl | exact congrArg (Value.int _) (by omega))) (by first | rfl | exact congrArg (Value.int _) (by omega))) (by first | rfl | exact congrArg (Value.int _) (by omega))) (by first | rfl | exact congrArg (Value.int _) (by omega))) (by first | rfl | exact congrArg (Value.int _) (by omega))) (by first | rfl | exact congrArg (Value.int _) (by omega))) (by first | rfl | exact congrArg (Value.int _) (by omega))), H71_, S72_, by omega⟩, by first | omega | (simp; omega)⟩
              · skip
                refine S_no (j := 9) (dj := 63) (b := false) rfl rfl (congrArg Value.bool c84_f) (by decide) ?_
                refine S_no (j := 9) (dj := 63) (b := false) rfl rfl (congrArg Value.bool c84_f) (by decide) ?_
                refine S_no (j := 9) (dj := 63) (b := false) rfl rfl (congrArg Value.bool c84_f) (by decide) ?_
                refine S_no (j := 9) (dj := 63) (b := false) rfl rfl (congrArg Value.bool c84_f) (by decide) ?_
                refine S_yes (j := 2) (dj := 56) (b := false) rfl rfl (congrArg Value.bool c83_f) (T_pickF (v := (Value.bool false)) (congrArg Value.bool c84_f) rfl ?_)
                refine S_list (T_pickF (v := (Value.bool false)) (congrArg Value.bool c83_f) rfl ?_)
                refine wpList_nil ?_
                refine (X_then (hK82_ _ _ ?_))
                clear hK82_
                refine C_condF rfl ?_
                refine C_skip (X_blkN (X_then (hK76_ _ _ ?_)))
                clear hK76_
                refine C_reg ?_
                refine S_list (T_val (v := (Value.int .i64 ((j : Int) + 1))) (x_bin rfl rfl (ib_add (IntWalk.i64_in _ (by omega)))) ?_)
                refine S_list (T_val (v := (Value.int .i64 ((j : Int) + 1))) (x_move rfl) ?_)
                refine wpList_nil ?_
                refine (X_then ?_)
                exact ⟨j + 1, ⟨_, congrArg (fun e => mkA 73 e []) (ch (ch (ch (ch (ch (ch (ch (ch (ch (ch rfl (by first | rfl | exact congrArg (Value.int _) (by omega))) (by first | rfl | exact congrArg (Value.int _) (by omega))) (by first | rfl | exact congrArg (Value.int _) (by omega))) (by first | rfl | exact congrArg (Value.int _) (by omega))) (by first | rfl | exact congrArg (Value.int _) (by omega))) (by first | rfl | exact congrArg (Value.int _) (by omega))) (by first | rfl | exact congrArg (Value.int _) (by omega))) (by first | rfl | exact congrArg (Value.int _) (by omega))) (by first | rfl | exact congrArg (Value.int _) (by omega))) (by first | rfl | exact congrArg (Value.int _) (by omega))), H71_, S72_, by omega⟩, by first | omega | (simp; omega)⟩
          · have c75_fp : ¬ ((j : Int) < (ws53_.length : Int)) := of_decide_eq_false c75_f
            have htx_ : tot (List.take j ws53_) = tot ws53_ := by rw [show j = ws53_.length by omega, List.take_length]
            refine C_exit (X_thenX (X_thenX (X_blkHit ?_)))
            refine (X_blkN (X_then (hK49_ _ _ ?_)))
            clear hK49_
            refine C_reg ?_
            refine S_list (T_val (v := (Value.int .i64 ((k : Int) + 1))) (x_bin rfl rfl (ib_add (IntWalk.i64_in _ (by omega)))) ?_)
            refine S_list (T_val (v := (Value.int .i64 ((k : Int) + 1))) (x_move rfl) ?_)
            refine wpList_nil ?_
            refine (X_then ?_)
            exact ⟨k + 1, ⟨_, congrArg (fun e => mkA 73 e []) (ch (ch (ch (ch (ch (ch rfl (by first | rfl | exact congrArg (Value.int _) (by omega))) (by first | rfl | exact congrArg (Value.int _) (by omega))) (by first | rfl | exact congrArg (Value.int _) (by omega))) (by first | rfl | exact congrArg (Value.int _) (by omega))) (by first | rfl | exact congrArg (Value.int _) (by omega))) (by first | rfl | exact congrArg (Value.int _) (by omega))), H71_, S72_, by omega⟩, by first | omega | (simp; omega)⟩
        · have c48_fp : ¬ ((k : Int) < (an.length : Int)) := of_decide_eq_false c48_f
          refine C_exit (X_thenX (X_thenX (X_blkHit ?_)))
          refine (X_then (hK41_ _ _ ?_))
          clear hK41_
          refine C_seq (fun K85_ hK85_ => ?_)
          refine C_reg ?_
          refine S_list (T_call (al := []) (pre := []) (F := ro R1 :: F) rfl rfl cb28 (pLive R) H44_ ?_)
          rintro v89_ p90_ w86_ ⟨rfl, rfl⟩ S88_ H87_
          replace H87_ : Holds w86_ (ro R :: ro R1 :: F) := H87_
          have S91_ := Same.trans S45_ S88_
          refine S_list (T_val (v := (Value.bool true)) (x_assign rfl) ?_)
          refine wpList_nil ?_
          refine (X_then (hK85_ _ _ ?_))
          clear hK85_
          refine C_ret ?_
          refine R_any (v := (Value.bool true)) (run_results1 rfl rfl) ?_
          have H92_ : Holds w86_ (ro R :: F) := (Holds.erase (Holds.bring H87_ 0 rfl) 1)
          exact ⟨_, [], rfl, ⟨rfl, rfl⟩, S91_, H92_⟩
end Go.Proofs.Ytfdnfnjmphjdnaa
