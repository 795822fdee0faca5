/- How a log is written: the walk. -/
import Derived.Test.YtgeggiebefonhaaWbF0
set_option linter.unusedVariables false
set_option linter.unusedSimpArgs false
namespace Go.Proofs.Ytgeggiebefonhaa
open Go Go.RowKit Gw

theorem flat_len {l : List (List Int)} {m : Nat} (h : ∀ x ∈ l, x.length ≤ m) : l.flatten.length ≤ m * l.length := by
  induction l with
  | nil => simp
  | cons a l ih =>
    have h1 := h a (by simp)
    have h2 := ih fun x hx => h x (by simp [hx])
    rw [List.flatten_cons, List.length_append, List.length_cons, Nat.mul_add]; omega

set_option maxHeartbeats 400000 in
theorem fnWalBytes (R : HP) (prev off : Int) (rv : Value) (L : List WR) (hL : RS R 6 rv L.length (L.flatMap WR.cells)) :
    Tri Try.prog 5 #[(Value.int .u32 prev), (Value.int .i64 off), rv] R [] (fun v__ post__ => v__ = (Value.bool true) ∧ post__ = []) := by
  refine Tri.into (n := 51) (al := [(Value.int .u32 prev), (Value.int .i64 off), rv]) Try.func5 rfl Try.ntmps5 rfl rfl fun w F H => ?_
  replace H : Holds w (ro R :: F) := H
  refine C_seq (fun K1_ hK1_ => ?_)
  refine C_reg ?_
  refine S_list (T_val (v := (Value.bool false)) (x_assign rfl) ?_)
  refine wpList_nil ?_
  refine (X_then (hK1_ _ _ ?_))
  clear hK1_
  refine C_seq (fun K2_ hK2_ => ?_)
  refine C_seq (fun K3_ hK3_ => ?_)
  refine C_reg ?_
  refine S_list (T_val (v := rv) (x_move rfl) ?_)
  refine S_list (T_call (al := [rv]) (pre := []) (F := F) rfl rfl cb17 (lFits R rv L hL) H ?_)
  rintro v4_ p10_ w7_ ⟨b5_, rfl, rfl, he6_⟩ S9_ H8_
  replace H8_ : Holds w7_ (ro R :: F) := H8_
  have S11_ := Same.trans (Same.refl w) S9_
  refine S_list (T_val (v := (Value.bool (!b5_))) (x_not rfl) ?_)
  refine wpList_nil ?_
  refine (X_then (hK3_ _ _ ?_))
  clear hK3_
  refine C_cond (b := !b5_) rfl (fun c12_t => ?_) (fun c12_f => ?_)
  · skip
    refine C_seq (fun K13_ hK13_ => ?_)
    refine C_reg ?_
    refine S_list (T_val (v := (Value.bool true)) (x_assign rfl) ?_)
    refine wpList_nil ?_
    refine (X_then (hK13_ _ _ ?_))
    clear hK13_
    refine C_ret (X_thenR ?_)
    refine R_any (v := (Value.bool true)) (run_results1 rfl rfl) ?_
    exact ⟨_, [], rfl, ⟨rfl, rfl⟩, S11_, H8_⟩
  · skip
    refine C_skip (X_then (hK2_ _ _ ?_))
    clear hK2_
    refine C_seq (fun K14_ hK14_ => ?_)
    refine C_seq (fun K15_ hK15_ => ?_)
    refine C_reg ?_
    refine S_list (T_val (v := rv) (x_move rfl) ?_)
    refine S_list (T_val (v := (Value.int .i64 off)) (x_move rfl) ?_)
    refine S_list (T_call (al := [rv, (Value.int .i64 off)]) (pre := []) (F := F) rfl rfl cb18 (lGood R rv L off hL) H8_ ?_)
    rintro v16_ p22_ w19_ ⟨b17_, rfl, rfl, he18_⟩ S21_ H20_
    replace H20_ : Holds w19_ (ro R :: F) := H20_
    have S23_ := Same.trans S11_ S21_
    refine S_list (T_val (v := (Value.bool (!b17_))) (x_not rfl) ?_)
    refine S_list (T_val (v := (Value.bool (!b17_))) (x_move rfl) ?_)
    rcases Bool.eq_false_or_eq_true (!b17_) with c24_t | c24_f
    · skip
      refine S_no (j := 4) (dj := 18) (b := true) rfl rfl (congrArg Value.bool c24_t) (by decide) ?_
      refine S_no (j := 4) (dj := 18) (b := true) rfl rfl (congrArg Value.bool c24_t) (by decide) ?_
      refine S_no (j := 4) (dj := 18) (b := true) rfl rfl (congrArg Value.bool c24_t) (by decide) ?_
      refine S_list (T_pickT (v := (Value.bool true)) (congrArg Value.bool c24_t) rfl ?_)
      refine wpList_nil ?_
      refine (X_then (hK15_ _ _ ?_))
      clear hK15_
      refine C_condT rfl ?_
      refine C_seq (fun K25_ hK25_ => ?_)
      refine C_reg ?_
      refine S_list (T_val (v := (Value.bool true)) (x_assign rfl) ?_)
      refine wpList_nil ?_
      refine (X_then (hK25_ _ _ ?_))
      clear hK25_
      refine C_ret (X_thenR ?_)
      refine R_any (v := (Value.bool true)) (run_results1 rfl rfl) ?_
      exact ⟨_, [], rfl, ⟨rfl, rfl⟩, S23_, H20_⟩
    · skip
      refine S_yes (j := 4) (dj := 18) (b := false) rfl rfl (congrArg Value.bool c24_f) (T_val (v := rv) (x_move rfl) ?_)
      refine S_yes (j := 4) (dj := 18) (b := false) rfl rfl (congrArg Value.bool c24_f) (T_val (v := (Value.int .i64 (L.length : Int))) (x_lenRS rfl hL Try.underlying49) ?_)
      refine S_yes (j := 4) (dj := 18) (b := false) rfl rfl (congrArg Value.bool c24_f) (T_val (v := (Value.bool (decide ((L.length : Int) = 0)))) (x_bin rfl rfl rfl) ?_)
      refine S_list (T_pickF (v := (Value.bool (decide ((L.length : Int) = 0)))) (congrArg Value.bool c24_f) rfl ?_)
      refine wpList_nil ?_
      refine (X_then (hK15_ _ _ ?_))
      clear hK15_
      refine C_cond (b := decide ((L.length : Int) = 0)) rfl (fun c26_t => ?_) (fun c26_f => ?_)
      · have c26_tp : (L.length : Int) = 0 := of_decide_eq_true c26_t
        refine C_seq (fun K27_ hK27_ => ?_)
        refine C_reg ?_
        refine S_list (T_val (v := (Value.bool true)) (x_assign rfl) ?_)
        refine wpList_nil ?_
        refine (X_then (hK27_ _ _ ?_))
        clear hK27_
        refine C_ret (X_thenR ?_)
        refine R_any (v := (Value.bool true)) (run_results1 rfl rfl) ?_
        exact ⟨_, [], rfl, ⟨rfl, rfl⟩, S23_, H20_⟩
      · have c26_fp : ¬ ((L.length : Int) = 0) := of_decide_eq_false c26_f
        refine C_skip (X_then (hK14_ _ _ ?_))
        clear hK14_
        refine C_seq (fun K28_ hK28_ => ?_)
        refine C_reg ?_
        refine S_list (T_val (v := (Value.int .u32 prev)) (x_move rfl) ?_)
        refine S_list (T_val (v := (Value.int .i64 off)) (x_move rfl) ?_)
        refine S_list (T_val (v := rv) (x_move rfl) ?_)
        obtain ⟨hl60, ho0, ho1, hG⟩ := he18_ (by simp_all)
        obtain ⟨offN, hoff⟩ : ∃ m : Nat, off = m := ⟨off.toNat, by omega⟩
        refine S_list (T_call (al := [(Value.int .u32 prev), (Value.int .i64 (offN : Int)), rv]) (pre := []) (F := F) rfl (lcons rfl (lcons (congrArg (Value.int .i64) ((by first | rfl | omega | (simp; done) | (simp; omega)) : off = (offN : Int))) rfl)) cb19 (wWalWrite R prev offN rv L hL (by first | assumption | omega) (by first | assumption | omega) (by first | assumption | omega)) H20_ ?_)
        rintro v29_ p36_ w33_ ⟨v30_, os31_, rfl, rfl, he32_⟩ S35_ H34_
        replace H34_ : Holds w33_ (ro R :: sl 5 1 v30_ (List.length os31_) (bytesV os31_) :: F) := H34_
        have S37_ := Same.trans S23_ S35_
        have hol_ := flat_len (wfs_small (prev := prev) hG)
        rw [wfs_len, ← he32_] at hol_
        refine S_list (T_val (v := (Value.tuple #[v30_, (Value.int .i64 0)])) (x_move rfl) ?_)
        refine S_list (T_val (v := v30_) (by kernel_rfl) ?_)
        refine S_list (T_val (v := (Value.int .i64 0)) (by kernel_rfl) ?_)
        refine S_list (T_val (v := v30_) (x_assign rfl) ?_)
        refine S_list (T_val (v := (Value.int .i64 0)) (x_assign rfl) ?_)
        refine wpList_nil ?_
        refine (X_then (hK28_ _ _ ?_))
        clear hK28_
        refine C_seq (fun K38_ hK38_ => ?_)
        refine C_reg ?_
        refine S_list (T_val (v := (Value.int .u32 prev)) (x_move rfl) ?_)
        refine S_list (T_val (v := rv) (x_move rfl) ?_)
        refine S_list (T_call (al := [(Value.int .u32 prev), rv]) (pre := []) (F := sl 5 1 v30_ (List.length os31_) (bytesV os31_) :: F) rfl rfl cb20 (sBytes R prev rv L hL (by first | assumption | omega) (by first | assumption | omega)) H34_ ?_)
        rintro v39_ p45_ w42_ ⟨v140_, v241_, rfl, rfl⟩ S44_ H43_
        replace H43_ : Holds w42_ (ro R :: sl 9 1 v140_ ((wfs prev L).length) (((wfs prev L).map strN).map Value.string) :: sl 5 1 v30_ (List.length os31_) (bytesV os31_) :: F) := H43_
        have S46_ := Same.trans S37_ S44_
        refine S_list (T_val (v := (Value.tuple #[v140_, v241_])) (x_move rfl) ?_)
        refine S_list (T_val (v := v140_) (by kernel_rfl) ?_)
        refine S_list (T_val (v := v241_) (by kernel_rfl) ?_)
        refine S_list (T_val (v := v140_) (x_assign rfl) ?_)
        refine S_list (T_val (v := v241_) (x_assign rfl) ?_)
        refine wpList_nil ?_
        refine (X_then (hK38_ _ _ ?_))
        clear hK38_
        refine C_seq (fun K47_ hK47_ => ?_)
        refine A_start (S := fun w => SlRd v30_ (bytesV os31_) w ∧ Sub R (hp w)) (N := 16) foll rfl rfl ?_
        have H48_ : Holds w42_.drew (ro R :: sl 9 1 v140_ ((wfs prev L).length) (((wfs prev L).map strN).map Value.string) :: sl 5 1 v30_ (List.length os31_) (bytesV os31_) :: F) := H43_
        have hq49_ := And.intro (Holds.slrd H48_ 2 rfl) ((Holds.ro_at H48_ 0 rfl))
        refine A_tk 0 (v := (Value.int .i64 0)) rfl (by kernel_rfl) (fun w hS => x_move rfl) hq49_ ?_
        refine A_tk 1 (v := (Value.bool true)) rfl (by kernel_rfl) (fun w hS => x_bin rfl rfl rfl) hq49_ ?_
        refine A_tk 2 (v := (Value.bool true)) rfl (by kernel_rfl) (fun w hS => x_move rfl) hq49_ ?_
        refine A_tkY 3 (j := 2) (dj := 38) (b := true) (v := v30_) rfl (by kernel_rfl) rfl rfl rfl (fun w hS => x_move rfl) hq49_ ?_
        refine A_tkY 5 (j := 2) (dj := 38) (b := true) (v := v140_) rfl (by kernel_rfl) rfl rfl rfl (fun w hS => x_move rfl) hq49_ ?_
        refine A_ready (i := 4) (rs := [6]) (by kernel_rfl) ?_
        refine AllR.cons ?_ ?_
        · skip
          refine A_opYes (ls' := #[true, true, true, true, true, true, false, false, false, false, false, false, false, false, false, false]) (j := 2) (dj := 38) (b := true) rfl (by kernel_rfl) rfl rfl rfl (T_val (v := (Value.string (strN os31_))) (x_b2sSl rfl H48_ 2 rfl Try.underlying43 Try.underlying5 Try.underlying9) ?_)
          refine ⟨⟨Holds.slrd H48_ 2 rfl, (Holds.ro_at H48_ 0 rfl)⟩, ?_⟩
          refine A_ready (i := 6) (rs := []) (by kernel_rfl) ?_
          refine AllR.cons ?_ AllR.nil
          obtain ⟨R50_, hs51_, ⟨R52_, ha53_, hs54_⟩, H55_⟩ := Holds.gift H48_
          replace H55_ : Holds w42_.drew (ro R50_ :: sl 5 1 v30_ (List.length os31_) (bytesV os31_) :: F) := H55_
          have hr56_ : RS R50_ 1 v140_ ((wfs prev L).length) (((wfs prev L).map strN).map Value.string) := (sl_RS ha53_ (Sub.rfl' _)).mono hs54_
          refine A_opYes (ls' := #[true, true, true, true, true, true, true, false, false, false, false, false, false, false, false, false]) (j := 2) (dj := 38) (b := true) rfl (by kernel_rfl) rfl rfl rfl (T_call (al := [v140_]) (pre := []) (F := sl 5 1 v30_ (List.length os31_) (bytesV os31_) :: F) rfl rfl cb21 (lJoin R50_ v140_ ((wfs prev L).map strN) (RS.set_ hr56_ rfl (by first | rfl | omega | (simp; done) | (simp; omega))) (by rw [List.length_map, wfs_len]; omega) (fun x hx => by obtain ⟨y, hy, rfl⟩ := List.mem_map.1 hx; rw [strN_size']; have := wfs_small (prev := prev) hG y hy; omega)) H55_ ?_)
          rintro v57_ p61_ w58_ ⟨rfl, rfl⟩ S60_ H59_
          replace H59_ : Holds w58_ (ro R50_ :: sl 5 1 v30_ (List.length os31_) (bytesV os31_) :: F) := H59_
          have S62_ := Same.trans (Same.trans S46_ (Same.drew _)) S60_
          refine ⟨⟨Holds.slrd H59_ 1 rfl, (Sub.trans' hs51_ (Holds.ro_at H59_ 0 rfl))⟩, ?_⟩
          have hq63_ := And.intro (Holds.slrd H59_ 1 rfl) ((Sub.trans' hs51_ (Holds.ro_at H59_ 0 rfl)))
          refine A_tkY 7 (j := 2) (dj := 38) (b := true) (v := (Value.bool ((strN os31_).toList == (joinB ((wfs prev L).map strN)).toList))) rfl (by kernel_rfl) rfl rfl rfl (fun w hS => x_str rfl rfl rfl (by decide)) hq63_ ?_
          refine A_tk 8 (v := (Value.bool ((strN os31_).toList == (joinB ((wfs prev L).map strN)).toList))) rfl (by kernel_rfl) (fun w hS => (x_pickT rfl rfl)) hq63_ ?_
          refine A_tk 9 (v := (Value.bool ((strN os31_).toList == (joinB ((wfs prev L).map strN)).toList))) rfl (by kernel_rfl) (fun w hS => x_move rfl) hq63_ ?_
          rcases Bool.eq_false_or_eq_true ((strN os31_).toList == (joinB ((wfs prev L).map strN)).toList) with c64_t | c64_f
          · skip
            refine A_tkY 10 (j := 9) (dj := 45) (b := true) (v := v30_) rfl (by kernel_rfl) rfl rfl (congrArg Value.bool c64_t) (fun w hS => x_move rfl) hq63_ ?_
            refine A_ready (i := 11) (rs := []) (by kernel_rfl) ?_
            refine AllR.cons ?_ AllR.nil
            refine A_opYes (ls' := #[true, true, true, true, true, true, true, true, true, true, true, true, false, false, false, false]) (j := 9) (dj := 45) (b := true) rfl (by kernel_rfl) rfl rfl (congrArg Value.bool c64_t) (T_val (v := (Value.int .i64 ((List.length os31_) : Int))) (x_lenSl rfl H59_ 1 rfl Try.underlying43) ?_)
            refine ⟨⟨Holds.slrd H59_ 1 rfl, (Sub.trans' hs51_ (Holds.ro_at H59_ 0 rfl))⟩, ?_⟩
            refine A_tkY 12 (j := 9) (dj := 45) (b := true) (v := (Value.int .i64 (((List.length os31_) % 8 : Nat) : Int))) rfl (by kernel_rfl) rfl rfl (congrArg Value.bool c64_t) (fun w hS => x_bin rfl rfl (ib_remN (x := (List.length os31_)) (y := 8) rfl rfl (by omega) (by omega) rfl)) hq63_ ?_
            refine A_tkY 13 (j := 9) (dj := 45) (b := true) (v := (Value.bool (decide ((((List.length os31_) % 8 : Nat) : Int) = 0)))) rfl (by kernel_rfl) rfl rfl (congrArg Value.bool c64_t) (fun w hS => x_bin rfl rfl rfl) hq63_ ?_
            refine A_tk 14 (v := (Value.bool (decide ((((List.length os31_) % 8 : Nat) : Int) = 0)))) rfl (by kernel_rfl) (fun w hS => (x_pickT (congrArg Value.bool c64_t) rfl)) hq63_ ?_
            refine A_tk 15 (v := (Value.bool (decide ((((List.length os31_) % 8 : Nat) : Int) = 0)))) rfl (by kernel_rfl) (fun w hS => x_assign rfl) hq63_ ?_
            refine A_done (by kernel_rfl) ?_
            refine (X_then (hK47_ _ _ ?_))
            clear hK47_
            refine C_ret ?_
            refine R_any (v := (Value.bool (decide ((((List.length os31_) % 8 : Nat) : Int) = 0)))) (run_results1 rfl rfl) ?_
            have H65_ : Holds w58_ (ro R :: sl 5 1 v30_ (List.length os31_) (bytesV os31_) :: F) := Holds.ro_less H59_ hs51_
            have H66_ : Holds w58_ (ro R :: F) := (Holds.erase (Holds.bring H65_ 0 rfl) 1)
            exact ⟨_, [], rfl, ⟨(congrArg Value.bool ((by have hfm_ := flat_mod (l := wfs prev L) (wst_inv (p := fun x => x.length % 8 = 0) (fun n r => wframe_mod) prev L); rw [← he32_] at hfm_; exact decide_eq_true (by omega)) : (decide ((((List.length os31_) % 8 : Nat) : Int) = 0)) = true)), rfl⟩, S62_, H66_⟩
          · skip
            rw [he32_, joinB_strN] at c64_f; simp at c64_f
        refine AllR.cons ?_ AllR.nil
        obtain ⟨R67_, hs68_, ⟨R69_, ha70_, hs71_⟩, H72_⟩ := Holds.gift H48_
        replace H72_ : Holds w42_.drew (ro R67_ :: sl 5 1 v30_ (List.length os31_) (bytesV os31_) :: F) := H72_
        have hr73_ : RS R67_ 1 v140_ ((wfs prev L).length) (((wfs prev L).map strN).map Value.string) := (sl_RS ha70_ (Sub.rfl' _)).mono hs71_
        refine A_opYes (ls' := #[true, true, true, true, false, true, true, false, false, false, false, false, false, false, false, false]) (j := 2) (dj := 38) (b := true) rfl (by kernel_rfl) rfl rfl rfl (T_call (al := [v140_]) (pre := []) (F := sl 5 1 v30_ (List.length os31_) (bytesV os31_) :: F) rfl rfl cb21 (lJoin R67_ v140_ ((wfs prev L).map strN) (RS.set_ hr73_ rfl (by first | rfl | omega | (simp; done) | (simp; omega))) (by rw [List.length_map, wfs_len]; omega) (fun x hx => by obtain ⟨y, hy, rfl⟩ := List.mem_map.1 hx; rw [strN_size']; have := wfs_small (prev := prev) hG y hy; omega)) H72_ ?_)
        rintro v74_ p78_ w75_ ⟨rfl, rfl⟩ S77_ H76_
        replace H76_ : Holds w75_ (ro R67_ :: sl 5 1 v30_ (List.length os31_) (bytesV os31_) :: F) := H76_
        have S79_ := Same.trans (Same.trans S46_ (Same.drew _)) S77_
        refine ⟨⟨Holds.slrd H76_ 1 rfl, (Sub.trans' hs68_ (Holds.ro_at H76_ 0 rfl))⟩, ?_⟩
        refine A_ready (i := 4) (rs := []) (by kernel_rfl) ?_
        refine AllR.cons ?_ AllR.nil
        refine A_opYes (ls' := #[true, true, true, true, true, true, true, false, false, false, false, false, false, false, false, false]) (j := 2) (dj := 38) (b := true) rfl (by kernel_rfl) rfl rfl rfl (T_val (v := (Value.string (strN os31_))) (x_b2sSl rfl H76_ 1 rfl Try.underlying43 Try.underlying5 Try.underlying9) ?_)
        refine ⟨⟨Holds.slrd H76_ 1 rfl, (Sub.trans' hs68_ (Holds.ro_at H76_ 0 rfl))⟩, ?_⟩
        have hq80_ := And.intro (Holds.slrd H76_ 1 rfl) ((Sub.trans' hs68_ (Holds.ro_at H76_ 0 rfl)))
        refine A_tkY 7 (j := 2) (dj := 38) (b := true) (v := (Value.bool ((strN os31_).toList == (joinB ((wfs prev L).map strN)).toList))) rfl (by kernel_rfl) rfl rfl rfl (fun w hS => x_str rfl rfl rfl (by decide)) hq80_ ?_
        refine A_tk 8 (v := (Value.bool ((strN os31_).toList == (joinB ((wfs prev L).map strN)).toList))) rfl (by kernel_rfl) (fun w hS => (x_pickT rfl rfl)) hq80_ ?_
        refine A_tk 9 (v := (Value.bool ((strN os31_).toList == (joinB ((wfs prev L).map strN)).toList))) rfl (by kernel_rfl) (fun w hS => x_move rfl) hq80_ ?_
        rcases Bool.eq_false_or_eq_true ((strN os31_).toList == (joinB ((wfs prev L).map strN)).toList) with c81_t | c81_f
        · skip
          refine A_tkY 10 (j := 9) (dj := 45) (b := true) (v := v30_) rfl (by kernel_rfl) rfl rfl (congrArg Value.bool c81_t) (fun w hS => x_move rfl) hq80_ ?_
          refine A_ready (i := 11) (rs := []) (by kernel_rfl) ?_
          refine AllR.cons ?_ AllR.nil
          refine A_opYes (ls' := #[true, true, true, true, true, true, true, true, true, true, true, true, false, false, false, false]) (j := 9) (dj := 45) (b := true) rfl (by kernel_rfl) rfl rfl (congrArg Value.bool c81_t) (T_val (v := (Value.int .i64 ((List.length os31_) : Int))) (x_lenSl rfl H76_ 1 rfl Try.underlying43) ?_)
          refine ⟨⟨Holds.slrd H76_ 1 rfl, (Sub.trans' hs68_ (Holds.ro_at H76_ 0 rfl))⟩, ?_⟩
          refine A_tkY 12 (j := 9) (dj := 45) (b := true) (v := (Value.int .i64 (((List.length os31_) % 8 : Nat) : Int))) rfl (by kernel_rfl) rfl rfl (congrArg Value.bool c81_t) (fun w hS => x_bin rfl rfl (ib_remN (x := (List.length os31_)) (y := 8) rfl rfl (by omega) (by omega) rfl)) hq80_ ?_
          refine A_tkY 13 (j := 9) (dj := 45) (b := true) (v := (Value.bool (decide ((((List.length os31_) % 8 : Nat) : Int) = 0)))) rfl (by kernel_rfl) rfl rfl (congrArg Value.bool c81_t) (fun w hS => x_bin rfl rfl rfl) hq80_ ?_
          refine A_tk 14 (v := (Value.bool (decide ((((List.length os31_) % 8 : Nat) : Int) = 0)))) rfl (by kernel_rfl) (fun w hS => (x_pickT (congrArg Value.bool c81_t) rfl)) hq80_ ?_
          refine A_tk 15 (v := (Value.bool (decide ((((List.length os31_) % 8 : Nat) : Int) = 0)))) rfl (by kernel_rfl) (fun w hS => x_assign rfl) hq80_ ?_
          refine A_done (by kernel_rfl) ?_
          refine (X_then (hK47_ _ _ ?_))
          clear hK47_
          refine C_ret ?_
          refine R_any (v := (Value.bool (decide ((((List.length os31_) % 8 : Nat) : Int) = 0)))) (run_results1 rfl rfl) ?_
          have H82_ : Holds w75_ (ro R :: sl 5 1 v30_ (List.length os31_) (bytesV os31_) :: F) := Holds.ro_less H76_ hs68_
          have H83_ : Holds w75_ (ro R :: F) := (Holds.erase (Holds.bring H82_ 0 rfl) 1)
          exact ⟨_, [], rfl, ⟨(congrArg Value.bool ((by have hfm_ := flat_mod (l := wfs prev L) (wst_inv (p := fun x => x.length % 8 = 0) (fun n r => wframe_mod) prev L); rw [← he32_] at hfm_; exact decide_eq_true (by omega)) : (decide ((((List.length os31_) % 8 : Nat) : Int) = 0)) = true)), rfl⟩, S79_, H83_⟩
        · skip
          rw [he32_, joinB_strN] at c81_f; simp at c81_f
end Go.Proofs.Ytgeggiebefonhaa
