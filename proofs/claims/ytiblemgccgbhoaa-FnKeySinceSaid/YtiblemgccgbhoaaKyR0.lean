/- A key's index as a dump. -/
import Derived.Test.YtiblemgccgbhoaaKyQ0
set_option linter.unusedVariables false
set_option linter.unusedSimpArgs false
namespace Go.Proofs.Ytiblemgccgbhoaa
open Go Go.RowKit Gw

theorem gsrc {P : Program} {w : World} {l : List SP} {R : HP} {N T : List GN} {lv : Value} {ll : List RV} {x : GN} {t e' ty : Nat} (hN : ∀ x ∈ N, GOk R x) (hR : Sub R (hp w)) (hT : Tlk T lv ll) (H : Holds w l) (i : Nat) (hi : l[i]? = some (sl ty 2 lv ll.length (ll.flatMap RV.cells))) (hx : x ∈ N ++ T) (hk : P.underlying t = some (.slice e')) : Src P 2 t x.revs x.l.length (x.l.flatMap RV.cells) w := by
  rcases List.mem_append.1 hx with hx | hx
  · exact RS.src (hN x hx) hR hk (ones_RV _)
  · rcases hT with ⟨rfl, _, _⟩ | ⟨a, b, c, rfl⟩
    · cases hx
    · rcases List.mem_singleton.1 hx with rfl
      exact Holds.sl_src H i hi hk (ones_RV _)

theorem gone1 {w : World} {l : List SP} {R : HP} {N T : List GN} {lv : Value} {ll : List RV} {x : GN} {ty : Nat} (hN : ∀ x ∈ N, GOk R x) (hT : Tlk T lv ll) (H : Holds w l) (i : Nat) (hi : l[i]? = some (sl ty 2 lv ll.length (ll.flatMap RV.cells))) (hx : x ∈ N ++ T) : x.revs.oneCell' = true := by
  rcases List.mem_append.1 hx with hx | hx
  · exact RS.one (hN x hx)
  · rcases hT with ⟨rfl, _, _⟩ | ⟨a, b, c, rfl⟩
    · cases hx
    · rcases List.mem_singleton.1 hx with rfl
      exact Holds.sl_one H i hi

set_option maxHeartbeats 1000000 in
theorem kZzOut (R : HP) (kb : Nat) (ka : Option Addr) (kl kc : Nat) (m n : Int) (gv lv : Value) (N0 T : List GN) (ll : List RV) (hT : Tlk T lv ll) (hN : ∀ x ∈ N0, GOk R x) (hb1 : (N0 ++ T).length ≤ 100000) (hb2 : ∀ x ∈ N0 ++ T, x.l.length ≤ 100000) :
    TriG Try.prog 65 #[(Value.pointer (some ⟨kb, 0, none⟩))] R [cl kb 104 [(Value.slice ka kl kc), (Value.int .i64 m), (Value.int .i64 n), gv], sl 106 4 gv (List.length (N0 ++ T)) ((N0 ++ T).flatMap GN.cells), sl 58 2 lv (List.length ll) (ll.flatMap RV.cells)] (fun R' v__ post__ => ∃ (v' : Value) (N' : List GN), v__ = (Value.agg #[(Value.int .i64 m), (Value.int .i64 n), v']) ∧ post__ = [cl kb 104 [(Value.slice ka kl kc), (Value.int .i64 m), (Value.int .i64 n), gv], sl 106 4 gv (List.length (N0 ++ T)) ((N0 ++ T).flatMap GN.cells), sl 58 2 lv (List.length ll) (ll.flatMap RV.cells)] ∧ (N'.map GN.m = (N0 ++ T).map GN.m) ∧ (RS R' 4 v' (List.length N') (N'.flatMap GN.cells)) ∧ (∀ x ∈ N', GOk R' x)) := by
 refine TriG.into (n := 35) (al := [(Value.pointer (some ⟨kb, 0, none⟩))]) Try.func65 rfl Try.ntmps65 rfl rfl fun w F H => ?_
 refine C_seq (fun K1_ hK1_ => ?_)
 refine C_reg ?_
 refine S_list (T_alloc z61 H ?_)
 intro b2_ w3_ S5_ H4_
 have S6_ := Same.trans (Same.refl w) S5_
 refine wpList_nil ?_
 refine (X_then (hK1_ _ _ ?_))
 clear hK1_
 refine C_seq (fun K7_ hK7_ => ?_)
 refine C_reg ?_
 refine S_list (T_val (v := (Value.pointer (some ⟨kb, 0, none⟩))) (x_move rfl) ?_)
 refine S_list (T_val (v := (Value.pointer (some ⟨kb, 0, none⟩))) (by kernel_rfl) ?_)
 refine S_list (T_val (v := (Value.pointer (some ⟨kb, 1, none⟩))) (by kernel_rfl) ?_)
 refine S_list (T_val (v := (Value.agg #[(Value.int .i64 m), (Value.int .i64 n)])) (x_loadN (vs := [(Value.int .i64 m), (Value.int .i64 n)]) rfl Try.underlying58 rfl z58 rfl (Rd.cells (Holds.rd H4_ 2 rfl) 1 rfl)) ?_)
 refine S_list (T_val (v := (Value.agg #[(Value.int .i64 m), (Value.int .i64 n), (Value.slice none 0 0)])) (by kernel_rfl) ?_)
 refine S_list (T_alloc z61 H4_ ?_)
 intro b8_ w9_ S11_ H10_
 replace H10_ : Holds w9_ (cl b8_ 61 [(Value.int .i64 0), (Value.int .i64 0), (Value.slice none 0 0)] :: cl b2_ 61 [(Value.int .i64 0), (Value.int .i64 0), (Value.slice none 0 0)] :: ro R :: cl kb 104 [(Value.slice ka kl kc), (Value.int .i64 m), (Value.int .i64 n), gv] :: sl 106 4 gv (List.length (N0 ++ T)) ((N0 ++ T).flatMap GN.cells) :: sl 58 2 lv (List.length ll) (ll.flatMap RV.cells) :: F) := H10_
 have S12_ := Same.trans S6_ S11_
 refine S_list0 (T_storeN (vs := [(Value.int .i64 m), (Value.int .i64 n), (Value.slice none 0 0)]) rfl rfl z61 rfl (by simp [Value.oneCell']) H10_ 0 rfl (Nat.le_of_ble_eq_true (by rfl)) ?_)
 intro w13_ S15_ H14_
 have S16_ := Same.trans S12_ S15_
 refine wpList_nil ?_
 refine (X_then (hK7_ _ _ ?_))
 clear hK7_
 refine C_seq (fun K17_ hK17_ => ?_)
 refine C_seq (fun K18_ hK18_ => ?_)
 refine C_reg ?_
 refine S_list (T_val (v := (Value.pointer (some ⟨kb, 0, none⟩))) (x_move rfl) ?_)
 refine S_list (T_val (v := (Value.pointer (some ⟨kb, 0, none⟩))) (by kernel_rfl) ?_)
 refine S_list (T_val (v := (Value.pointer (some ⟨kb, 3, none⟩))) (by kernel_rfl) ?_)
 refine S_list (T_val (v := gv) (x_load1 rfl Try.underlying102 rfl ((Holds.rd H14_ 3 rfl) 3 gv rfl)) ?_)
 refine S_list (T_val (v := (Value.int .i64 ((List.length (N0 ++ T)) : Int))) (x_lenSl rfl H14_ 4 rfl Try.underlying102) ?_)
 refine S_list (T_val (v := (Value.int .i64 0)) (x_move rfl) ?_)
 refine wpList_nil ?_
 refine (X_then (hK18_ _ _ ?_))
 clear hK18_
 refine C_block ?_
 have H19_ : Holds w13_ (sl 83 4 (Value.slice none 0 0) (List.length ([] : List GN)) (([] : List GN).flatMap GN.cells) :: cl b8_ 61 [(Value.int .i64 m), (Value.int .i64 n), (Value.slice none 0 0)] :: cl b2_ 61 [(Value.int .i64 0), (Value.int .i64 0), (Value.slice none 0 0)] :: ro R :: cl kb 104 [(Value.slice ka kl kc), (Value.int .i64 m), (Value.int .i64 n), gv] :: sl 106 4 gv (List.length (N0 ++ T)) ((N0 ++ T).flatMap GN.cells) :: sl 58 2 lv (List.length ll) (ll.flatMap RV.cells) :: F) := Holds.add_nil H14_ 83 4
 have H20_ := Holds.recl H19_ 1 rfl ((lcons rfl (lcons rfl (lcons (rfl : (Value.slice none 0 0) = ((Value.slice none 0 0))) rfl))) : [(Value.int .i64 m), (Value.int .i64 n), (Value.slice none 0 0)] = [(Value.int .i64 m), (Value.int .i64 n), ((Value.slice none 0 0))])
 refine C_loop (γ := HP × Nat × Value × (List GN)) (fun x__ a__ w1__ => match x__ with | ⟨R1, k, gv2, N'⟩ => ∃ h : Env, a__ = mkA 35 (upd (upd (upd (upd (upd h 2 (Value.pointer (some ⟨b2_, 0, none⟩))) 3 (Value.pointer (some ⟨b8_, 0, none⟩))) 14 gv) 15 (Value.int .i64 ((List.length (N0 ++ T)) : Int))) 16 (Value.int .i64 (k : Int))) [] ∧ Holds w1__ (sl 83 4 gv2 (List.length N') (N'.flatMap GN.cells) :: cl b8_ 61 [(Value.int .i64 m), (Value.int .i64 n), gv2] :: cl b2_ 61 [(Value.int .i64 0), (Value.int .i64 0), (Value.slice none 0 0)] :: ro R1 :: cl kb 104 [(Value.slice ka kl kc), (Value.int .i64 m), (Value.int .i64 n), gv] :: sl 106 4 gv (List.length (N0 ++ T)) ((N0 ++ T).flatMap GN.cells) :: sl 58 2 lv (List.length ll) (ll.flatMap RV.cells) :: F) ∧ Same w w1__ ∧ (Sub R R1) ∧ (k ≤ (N0 ++ T).length) ∧ (N'.map GN.m = ((N0 ++ T).take k).map GN.m) ∧ (∀ x ∈ N', GOk R1 x)) (fun x__ => match x__ with | ⟨R1, k, gv2, N'⟩ => (N0 ++ T).length - k) (⟨R, 0, (Value.slice none 0 0), ([] : List GN)⟩) ⟨_, congrArg (fun e => mkA 35 e []) (ch (ch (ch (ch (ch rfl rfl) rfl) rfl) rfl) (congrArg (Value.int .i64) ((by first | rfl | omega | (simp; done) | (simp; omega)) : 0 = (0 : Int)))), H20_, S16_, (Sub.rfl' _), (by first | assumption | omega | exact rfl), (rfl), (fun x hx => by cases hx)⟩ ?_
 rintro ⟨R1, k, gv2, N'⟩ _ w21_ ⟨h, rfl, H22_, S23_, hsR1, hk, hm, hN2⟩
 refine C_seq (fun K24_ hK24_ => ?_)
 refine C_reg ?_
 refine S_list (T_val (v := (Value.bool (decide ((k : Int) < ((List.length (N0 ++ T)) : Int))))) (x_bin rfl rfl rfl) ?_)
 refine wpList_nil ?_
 refine (X_then (hK24_ _ _ ?_))
 clear hK24_
 refine C_seq (fun K25_ hK25_ => ?_)
 refine C_cond (b := decide ((k : Int) < ((List.length (N0 ++ T)) : Int))) rfl (fun c26_t => ?_) (fun c26_f => ?_)
 ·have c26_tp : (k : Int) < ((List.length (N0 ++ T)) : Int) := of_decide_eq_true c26_t
  refine C_skip (X_then (hK25_ _ _ ?_))
  clear hK25_
  refine C_seq (fun K27_ hK27_ => ?_)
  refine C_block ?_
  refine C_seq (fun K28_ hK28_ => ?_)
  refine C_reg ?_
  have hr29_ := Holds.sl_RSw H22_ 5 rfl
  refine S_list (T_val (v := (Value.pointer (some ⟨(sb gv), so gv + (k * 4 + 0), none⟩))) (x_idxSlR (v := gv) rfl hr29_ rfl Try.underlying102 z106 (by omega) (by omega) (by omega : _ = k) rfl) ?_)
  obtain ⟨x30_, hx31_, hm32_⟩ := elem_at (N0 ++ T) k (by omega)
  have hxl_ := hb2 x30_ hm32_
  have ho33_ := gone1 hN hT H22_ 6 rfl hm32_
  refine S_list (T_val (v := (Value.agg #[(Value.int .i64 x30_.ver), (Value.int .i64 x30_.created_Main), (Value.int .i64 x30_.created_Sub), x30_.revs])) (x_loadN (vs := [(Value.int .i64 x30_.ver), (Value.int .i64 x30_.created_Main), (Value.int .i64 x30_.created_Sub), x30_.revs]) rfl Try.underlying106 rfl z106 rfl (SlRd.cells (Holds.slrd H22_ 5 rfl) (k * 4 + 0) (fm_cells GN.len hx31_ (i := 0) rfl))) ?_)
  refine S_list (T_alloc z106 H22_ ?_)
  intro b34_ w35_ S37_ H36_
  have S38_ := Same.trans S23_ S37_
  refine S_list0 (T_storeN (vs := [(Value.int .i64 x30_.ver), (Value.int .i64 x30_.created_Main), (Value.int .i64 x30_.created_Sub), x30_.revs]) rfl rfl z106 rfl (List.forall_mem_cons.2 ⟨rfl, (List.forall_mem_cons.2 ⟨rfl, (List.forall_mem_cons.2 ⟨rfl, (List.forall_mem_cons.2 ⟨ho33_, (fun _ h__ => by cases h__)⟩)⟩)⟩)⟩) H36_ 0 rfl (Nat.le_of_ble_eq_true (by rfl)) ?_)
  intro w39_ S41_ H40_
  replace H40_ : Holds w39_ (cl b34_ 106 [(Value.int .i64 x30_.ver), (Value.int .i64 x30_.created_Main), (Value.int .i64 x30_.created_Sub), x30_.revs] :: sl 83 4 gv2 (List.length N') (N'.flatMap GN.cells) :: cl b8_ 61 [(Value.int .i64 m), (Value.int .i64 n), gv2] :: cl b2_ 61 [(Value.int .i64 0), (Value.int .i64 0), (Value.slice none 0 0)] :: ro R1 :: cl kb 104 [(Value.slice ka kl kc), (Value.int .i64 m), (Value.int .i64 n), gv] :: sl 106 4 gv (List.length (N0 ++ T)) ((N0 ++ T).flatMap GN.cells) :: sl 58 2 lv (List.length ll) (ll.flatMap RV.cells) :: F) := H40_
  have S42_ := Same.trans S38_ S41_
  refine wpList_nil ?_
  refine (X_then (hK28_ _ _ ?_))
  clear hK28_
  refine A_start (S := fun w => Rd b34_ [(Value.int .i64 x30_.ver), (Value.int .i64 x30_.created_Main), (Value.int .i64 x30_.created_Sub), x30_.revs] w ∧ SlRd gv ((N0 ++ T).flatMap GN.cells) w ∧ SlRd lv (ll.flatMap RV.cells) w ∧ Sub R1 (hp w)) (N := 14) foll rfl rfl ?_
  have H43_ := Holds.drew_ H40_
  have hq44_ := And.intro (Holds.rd H43_ 0 rfl) (And.intro (Holds.slrd H43_ 6 rfl) (And.intro (Holds.slrd H43_ 7 rfl) ((Holds.ro_at H43_ 4 rfl))))
  refine A_tk 0 (v := (Value.pointer (some ⟨b8_, 2, none⟩))) rfl (by kernel_rfl) (fun w hS => by kernel_rfl) hq44_ ?_
  refine A_tk 2 (v := (Value.pointer (some ⟨b34_, 0, none⟩))) rfl (by kernel_rfl) (fun w hS => by kernel_rfl) hq44_ ?_
  refine A_tk 3 (v := (Value.int .i64 x30_.ver)) rfl (by kernel_rfl) (fun w hS => x_load1 rfl Try.underlying2 rfl (hS.1 0 (Value.int .i64 x30_.ver) rfl)) hq44_ ?_
  refine A_tk 4 (v := (Value.pointer (some ⟨b34_, 1, none⟩))) rfl (by kernel_rfl) (fun w hS => by kernel_rfl) hq44_ ?_
  refine A_tk 5 (v := (Value.agg #[(Value.int .i64 x30_.created_Main), (Value.int .i64 x30_.created_Sub)])) rfl (by kernel_rfl) (fun w hS => x_loadN (vs := [(Value.int .i64 x30_.created_Main), (Value.int .i64 x30_.created_Sub)]) rfl Try.underlying58 rfl z58 rfl (Rd.cells hS.1 1 rfl)) hq44_ ?_
  refine A_tk 6 (v := (Value.pointer (some ⟨b34_, 3, none⟩))) rfl (by kernel_rfl) (fun w hS => by kernel_rfl) hq44_ ?_
  refine A_tk 7 (v := x30_.revs) rfl (by kernel_rfl) (fun w hS => x_load1 rfl Try.underlying80 rfl (hS.1 3 x30_.revs rfl)) hq44_ ?_
  refine A_ready (i := 1) (rs := [8]) (by kernel_rfl) ?_
  refine AllR.cons ?_ ?_
  ·skip
   refine A_op (ls' := #[true, true, true, true, true, true, true, true, false, false, false, false, false, false]) rfl (by kernel_rfl) (T_val (v := gv2) (x_load1 rfl Try.underlying59 rfl ((Holds.rd H43_ 2 rfl) 2 gv2 rfl)) ?_)
   refine ⟨⟨Holds.rd H43_ 0 rfl, Holds.slrd H43_ 6 rfl, Holds.slrd H43_ 7 rfl, (Holds.ro_at H43_ 4 rfl)⟩, ?_⟩
   refine A_ready (i := 8) (rs := []) (by kernel_rfl) ?_
   refine AllR.cons ?_ AllR.nil
   have H45_ : Holds w39_.drew (sl 58 2 (.slice none 0 0) 0 [] :: cl b34_ 106 [(Value.int .i64 x30_.ver), (Value.int .i64 x30_.created_Main), (Value.int .i64 x30_.created_Sub), x30_.revs] :: sl 83 4 gv2 (List.length N') (N'.flatMap GN.cells) :: cl b8_ 61 [(Value.int .i64 m), (Value.int .i64 n), gv2] :: cl b2_ 61 [(Value.int .i64 0), (Value.int .i64 0), (Value.slice none 0 0)] :: ro R1 :: cl kb 104 [(Value.slice ka kl kc), (Value.int .i64 m), (Value.int .i64 n), gv] :: sl 106 4 gv (List.length (N0 ++ T)) ((N0 ++ T).flatMap GN.cells) :: sl 58 2 lv (List.length ll) (ll.flatMap RV.cells) :: F) := Holds.add_nil H43_ 58 2
   have hsrc47_ := gsrc (P := Try.prog) (t := 80) (fun x hx => (hN x hx).mono hsR1) (Holds.ro_at H45_ 5 rfl) hT H45_ 8 rfl hm32_ Try.underlying80
   refine A_op (ls' := #[true, true, true, true, true, true, true, true, true, false, false, false, false, false]) rfl (by kernel_rfl) (T_append rfl rfl Try.underlying80 z58 rfl (by decide) H45_ 0 rfl hsrc47_ (by omega) ?_)
   intro v46_ w48_ S50_ H49_
   have S51_ := Same.trans (Same.trans S42_ (Same.drew _)) S50_
   have H52_ := Holds.resl H49_ 0 rfl (by simp : [] ++ x30_.l.flatMap RV.cells = x30_.l.flatMap RV.cells) (by simp : 0 + List.length x30_.l = (List.length x30_.l))
   obtain ⟨-, a53_, cp54_, rfl, hle55_⟩ := Holds.sl_len H52_ 0 rfl
   refine ⟨⟨Holds.rd H52_ 1 rfl, Holds.slrd H52_ 7 rfl, Holds.slrd H52_ 8 rfl, (Holds.ro_at H52_ 5 rfl)⟩, ?_⟩
   have hq56_ := And.intro (Holds.rd H52_ 1 rfl) (And.intro (Holds.slrd H52_ 7 rfl) (And.intro (Holds.slrd H52_ 8 rfl) ((Holds.ro_at H52_ 5 rfl))))
   refine A_tk 9 (v := (Value.agg #[(Value.int .i64 x30_.ver), (Value.int .i64 x30_.created_Main), (Value.int .i64 x30_.created_Sub), (Value.slice a53_ (List.length x30_.l) cp54_)])) rfl (by kernel_rfl) (fun w hS => by kernel_rfl) hq56_ ?_
   refine A_ready (i := 10) (rs := []) (by kernel_rfl) ?_
   refine AllR.cons ?_ AllR.nil
   refine A_op (ls' := #[true, true, true, true, true, true, true, true, true, true, true, false, false, false]) rfl (by kernel_rfl) (T_new (obj := .cells #[(Value.int .i64 x30_.ver), (Value.int .i64 x30_.created_Main), (Value.int .i64 x30_.created_Sub), (Value.slice a53_ (List.length x30_.l) cp54_)] 83) (f := fun b__ => .slice (some ⟨b__, 0, none⟩) 1 1) (A := fun b__ => cl b__ 83 [(Value.int .i64 x30_.ver), (Value.int .i64 x30_.created_Main), (Value.int .i64 x30_.created_Sub), (Value.slice a53_ (List.length x30_.l) cp54_)]) (by kernel_rfl) (fun l h => h.alloc _ _) H52_ ?_)
   intro b57_ w58_ S60_ H59_
   have S61_ := Same.trans S51_ S60_
   refine ⟨⟨Holds.rd H59_ 2 rfl, Holds.slrd H59_ 8 rfl, Holds.slrd H59_ 9 rfl, (Holds.ro_at H59_ 6 rfl)⟩, ?_⟩
   refine A_ready (i := 11) (rs := []) (by kernel_rfl) ?_
   refine AllR.cons ?_ AllR.nil
   refine A_op (ls' := #[true, true, true, true, true, true, true, true, true, true, true, true, false, false]) rfl (by kernel_rfl) (T_append rfl rfl Try.underlying59 z83 rfl (by decide) H59_ 3 rfl (Holds.cl_src H59_ 0 rfl Try.underlying59 (by simp [Value.oneCell']) rfl) (by have hz_ := congrArg List.length hm; rw [List.length_map, List.length_map, List.length_take] at hz_; omega) ?_)
   intro v62_ w63_ S65_ H64_
   replace H64_ : Holds w63_ (cl b57_ 83 [(Value.int .i64 x30_.ver), (Value.int .i64 x30_.created_Main), (Value.int .i64 x30_.created_Sub), (Value.slice a53_ (List.length x30_.l) cp54_)] :: sl 58 2 (Value.slice a53_ (List.length x30_.l) cp54_) (List.length x30_.l) (x30_.l.flatMap RV.cells) :: cl b34_ 106 [(Value.int .i64 x30_.ver), (Value.int .i64 x30_.created_Main), (Value.int .i64 x30_.created_Sub), x30_.revs] :: sl 83 4 v62_ ((List.length N') + 1) ((N'.flatMap GN.cells) ++ [(Value.int .i64 x30_.ver), (Value.int .i64 x30_.created_Main), (Value.int .i64 x30_.created_Sub), (Value.slice a53_ (List.length x30_.l) cp54_)]) :: cl b8_ 61 [(Value.int .i64 m), (Value.int .i64 n), gv2] :: cl b2_ 61 [(Value.int .i64 0), (Value.int .i64 0), (Value.slice none 0 0)] :: ro R1 :: cl kb 104 [(Value.slice ka kl kc), (Value.int .i64 m), (Value.int .i64 n), gv] :: sl 106 4 gv (List.length (N0 ++ T)) ((N0 ++ T).flatMap GN.cells) :: sl 58 2 lv (List.length ll) (ll.flatMap RV.cells) :: F) := H64_
   have S66_ := Same.trans S61_ S65_
   refine ⟨⟨Holds.rd H64_ 2 rfl, Holds.slrd H64_ 8 rfl, Holds.slrd H64_ 9 rfl, (Holds.ro_at H64_ 6 rfl)⟩, ?_⟩
   have hq67_ := And.intro (Holds.rd H64_ 2 rfl) (And.intro (Holds.slrd H64_ 8 rfl) (And.intro (Holds.slrd H64_ 9 rfl) ((Holds.ro_at H64_ 6 rfl))))
   refine A_tk 12 (v := (Value.pointer (some ⟨b8_, 2, none⟩))) rfl (by kernel_rfl) (fun w hS => by kernel_rfl) hq67_ ?_
   refine A_ready (i := 13) (rs := []) (by kernel_rfl) ?_
   refine AllR.cons ?_ AllR.nil
   refine A_op0 (ls' := #[true, true, true, true, true, true, true, true, true, true, true, true, true, true]) rfl (by kernel_rfl) (T_store1 (v := v62_) rfl rfl z59 (Holds.sl_one H64_ 3 rfl) H64_ 4 rfl (Nat.le_of_ble_eq_true (by rfl)) ?_)
   intro w68_ S70_ H69_
   have S71_ := Same.trans S66_ S70_
   refine ⟨⟨Holds.rd H69_ 2 rfl, Holds.slrd H69_ 8 rfl, Holds.slrd H69_ 9 rfl, (Holds.ro_at H69_ 6 rfl)⟩, ?_⟩
   refine A_done (by kernel_rfl) ?_
   refine (X_blkN (X_then (hK27_ _ _ ?_)))
   clear hK27_
   refine C_reg ?_
   refine S_list (T_val (v := (Value.int .i64 ((k : Int) + 1))) (x_bin rfl rfl (ib_add (IntWalk.i64_in _ (by omega)))) ?_)
   refine S_list (T_val (v := (Value.int .i64 ((k : Int) + 1))) (x_move rfl) ?_)
   refine wpList_nil ?_
   refine (X_then ?_)
   have H72_ := ((Holds.bring (Holds.bring H69_ 1 rfl) 6 rfl) :)
   obtain ⟨R73_, hs74_, ⟨R75_, ha76_, hs77_⟩, H78_⟩ := Holds.gift H72_
   replace H78_ : Holds w68_ (ro R73_ :: cl b57_ 83 [(Value.int .i64 x30_.ver), (Value.int .i64 x30_.created_Main), (Value.int .i64 x30_.created_Sub), (Value.slice a53_ (List.length x30_.l) cp54_)] :: cl b34_ 106 [(Value.int .i64 x30_.ver), (Value.int .i64 x30_.created_Main), (Value.int .i64 x30_.created_Sub), x30_.revs] :: sl 83 4 v62_ ((List.length N') + 1) ((N'.flatMap GN.cells) ++ [(Value.int .i64 x30_.ver), (Value.int .i64 x30_.created_Main), (Value.int .i64 x30_.created_Sub), (Value.slice a53_ (List.length x30_.l) cp54_)]) :: cl b8_ 61 [(Value.int .i64 m), (Value.int .i64 n), v62_] :: cl b2_ 61 [(Value.int .i64 0), (Value.int .i64 0), (Value.slice none 0 0)] :: cl kb 104 [(Value.slice ka kl kc), (Value.int .i64 m), (Value.int .i64 n), gv] :: sl 106 4 gv (List.length (N0 ++ T)) ((N0 ++ T).flatMap GN.cells) :: sl 58 2 lv (List.length ll) (ll.flatMap RV.cells) :: F) := H78_
   have hz_R_R73_ := Sub.trans' hsR1 hs74_
   have hr79_ : RS R73_ 2 (Value.slice a53_ (List.length x30_.l) cp54_) (List.length x30_.l) (x30_.l.flatMap RV.cells) := (sl_RS ha76_ (Sub.rfl' _)).mono hs77_
   have H80_ := Holds.resl H78_ 3 rfl (by simp [GN.cells] : (N'.flatMap GN.cells) ++ [(Value.int .i64 x30_.ver), (Value.int .i64 x30_.created_Main), (Value.int .i64 x30_.created_Sub), (Value.slice a53_ (List.length x30_.l) cp54_)] = (N' ++ [(⟨x30_.ver, x30_.created_Main, x30_.created_Sub, ((Value.slice a53_ (List.length x30_.l) cp54_)), x30_.l⟩ : GN)]).flatMap GN.cells) (by simp : (List.length N') + 1 = (List.length (N' ++ [(⟨x30_.ver, x30_.created_Main, x30_.created_Sub, ((Value.slice a53_ (List.length x30_.l) cp54_)), x30_.l⟩ : GN)])))
   have H81_ : Holds w68_ (sl 83 4 v62_ (List.length (N' ++ [(⟨x30_.ver, x30_.created_Main, x30_.created_Sub, ((Value.slice a53_ (List.length x30_.l) cp54_)), x30_.l⟩ : GN)])) ((N' ++ [(⟨x30_.ver, x30_.created_Main, x30_.created_Sub, ((Value.slice a53_ (List.length x30_.l) cp54_)), x30_.l⟩ : GN)]).flatMap GN.cells) :: cl b8_ 61 [(Value.int .i64 m), (Value.int .i64 n), v62_] :: cl b2_ 61 [(Value.int .i64 0), (Value.int .i64 0), (Value.slice none 0 0)] :: ro R73_ :: cl kb 104 [(Value.slice ka kl kc), (Value.int .i64 m), (Value.int .i64 n), gv] :: sl 106 4 gv (List.length (N0 ++ T)) ((N0 ++ T).flatMap GN.cells) :: sl 58 2 lv (List.length ll) (ll.flatMap RV.cells) :: F) := (Holds.pkF H80_ [3, 3, 3, 0, 2, 2, 2] 2 :)
   exact ⟨⟨R73_, k + 1, v62_, (N' ++ [(⟨x30_.ver, x30_.created_Main, x30_.created_Sub, ((Value.slice a53_ (List.length x30_.l) cp54_)), x30_.l⟩ : GN)])⟩, ⟨_, congrArg (fun e => mkA 35 e []) (ch (ch (ch (ch (ch rfl rfl) rfl) rfl) rfl) (congrArg (Value.int .i64) ((by first | rfl | omega | (simp; done) | (simp; omega)) : (k : Int) + 1 = ((k + 1 : Nat) : Int)))), H81_, S71_, (hz_R_R73_), (by first | assumption | omega | exact rfl), (map_m_snoc hm hx31_ rfl), (all_snoc (fun x hx => (hN2 x hx).mono hs74_) (show RS _ 2 _ _ _ from hr79_))⟩, by first | omega | (dsimp only; omega) | (simp; omega)⟩
  refine AllR.cons ?_ AllR.nil
  have H82_ : Holds w39_.drew (sl 58 2 (.slice none 0 0) 0 [] :: cl b34_ 106 [(Value.int .i64 x30_.ver), (Value.int .i64 x30_.created_Main), (Value.int .i64 x30_.created_Sub), x30_.revs] :: sl 83 4 gv2 (List.length N') (N'.flatMap GN.cells) :: cl b8_ 61 [(Value.int .i64 m), (Value.int .i64 n), gv2] :: cl b2_ 61 [(Value.int .i64 0), (Value.int .i64 0), (Value.slice none 0 0)] :: ro R1 :: cl kb 104 [(Value.slice ka kl kc), (Value.int .i64 m), (Value.int .i64 n), gv] :: sl 106 4 gv (List.length (N0 ++ T)) ((N0 ++ T).flatMap GN.cells) :: sl 58 2 lv (List.length ll) (ll.flatMap RV.cells) :: F) := Holds.add_nil H43_ 58 2
  have hsrc84_ := gsrc (P := Try.prog) (t := 80) (fun x hx => (hN x hx).mono hsR1) (Holds.ro_at H82_ 5 rfl) hT H82_ 8 rfl hm32_ Try.underlying80
  refine A_op (ls' := #[true, false, true, true, true, true, true, true, true, false, false, false, false, false]) rfl (by kernel_rfl) (T_append rfl rfl Try.underlying80 z58 rfl (by decide) H82_ 0 rfl hsrc84_ (by omega) ?_)
  intro v83_ w85_ S87_ H86_
  have S88_ := Same.trans (Same.trans S42_ (Same.drew _)) S87_
  have H89_ := Holds.resl H86_ 0 rfl (by simp : [] ++ x30_.l.flatMap RV.cells = x30_.l.flatMap RV.cells) (by simp : 0 + List.length x30_.l = (List.length x30_.l))
  obtain ⟨-, a90_, cp91_, rfl, hle92_⟩ := Holds.sl_len H89_ 0 rfl
  refine ⟨⟨Holds.rd H89_ 1 rfl, Holds.slrd H89_ 7 rfl, Holds.slrd H89_ 8 rfl, (Holds.ro_at H89_ 5 rfl)⟩, ?_⟩
  have hq93_ := And.intro (Holds.rd H89_ 1 rfl) (And.intro (Holds.slrd H89_ 7 rfl) (And.intro (Holds.slrd H89_ 8 rfl) ((Holds.ro_at H89_ 5 rfl))))
  refine A_tk 9 (v := (Value.agg #[(Value.int .i64 x30_.ver), (Value.int .i64 x30_.created_Main), (Value.int .i64 x30_.created_Sub), (Value.slice a90_ (List.length x30_.l) cp91_)])) rfl (by kernel_rfl) (fun w hS => by kernel_rfl) hq93_ ?_
  refine A_ready (i := 1) (rs := [10]) (by kernel_rfl) ?_
  refine AllR.cons ?_ ?_
  ·skip
   refine A_op (ls' := #[true, true, true, true, true, true, true, true, true, true, false, false, false, false]) rfl (by kernel_rfl) (T_val (v := gv2) (x_load1 rfl Try.underlying59 rfl ((Holds.rd H89_ 3 rfl) 2 gv2 rfl)) ?_)
   refine ⟨⟨Holds.rd H89_ 1 rfl, Holds.slrd H89_ 7 rfl, Holds.slrd H89_ 8 rfl, (Holds.ro_at H89_ 5 rfl)⟩, ?_⟩
   refine A_ready (i := 10) (rs := []) (by kernel_rfl) ?_
   refine AllR.cons ?_ AllR.nil
   refine A_op (ls' := #[true, true, true, true, true, true, true, true, true, true, true, false, false, false]) rfl (by kernel_rfl) (T_new (obj := .cells #[(Value.int .i64 x30_.ver), (Value.int .i64 x30_.created_Main), (Value.int .i64 x30_.created_Sub), (Value.slice a90_ (List.length x30_.l) cp91_)] 83) (f := fun b__ => .slice (some ⟨b__, 0, none⟩) 1 1) (A := fun b__ => cl b__ 83 [(Value.int .i64 x30_.ver), (Value.int .i64 x30_.created_Main), (Value.int .i64 x30_.created_Sub), (Value.slice a90_ (List.length x30_.l) cp91_)]) (by kernel_rfl) (fun l h => h.alloc _ _) H89_ ?_)
   intro b94_ w95_ S97_ H96_
   have S98_ := Same.trans S88_ S97_
   refine ⟨⟨Holds.rd H96_ 2 rfl, Holds.slrd H96_ 8 rfl, Holds.slrd H96_ 9 rfl, (Holds.ro_at H96_ 6 rfl)⟩, ?_⟩
   refine A_ready (i := 11) (rs := []) (by kernel_rfl) ?_
   refine AllR.cons ?_ AllR.nil
   refine A_op (ls' := #[true, true, true, true, true, true, true, true, true, true, true, true, false, false]) rfl (by kernel_rfl) (T_append rfl rfl Try.underlying59 z83 rfl (by decide) H96_ 3 rfl (Holds.cl_src H96_ 0 rfl Try.underlying59 (by simp [Value.oneCell']) rfl) (by have hz_ := congrArg List.length hm; rw [List.length_map, List.length_map, List.length_take] at hz_; omega) ?_)
   intro v99_ w100_ S102_ H101_
   replace H101_ : Holds w100_ (cl b94_ 83 [(Value.int .i64 x30_.ver), (Value.int .i64 x30_.created_Main), (Value.int .i64 x30_.created_Sub), (Value.slice a90_ (List.length x30_.l) cp91_)] :: sl 58 2 (Value.slice a90_ (List.length x30_.l) cp91_) (List.length x30_.l) (x30_.l.flatMap RV.cells) :: cl b34_ 106 [(Value.int .i64 x30_.ver), (Value.int .i64 x30_.created_Main), (Value.int .i64 x30_.created_Sub), x30_.revs] :: sl 83 4 v99_ ((List.length N') + 1) ((N'.flatMap GN.cells) ++ [(Value.int .i64 x30_.ver), (Value.int .i64 x30_.created_Main), (Value.int .i64 x30_.created_Sub), (Value.slice a90_ (List.length x30_.l) cp91_)]) :: cl b8_ 61 [(Value.int .i64 m), (Value.int .i64 n), gv2] :: cl b2_ 61 [(Value.int .i64 0), (Value.int .i64 0), (Value.slice none 0 0)] :: ro R1 :: cl kb 104 [(Value.slice ka kl kc), (Value.int .i64 m), (Value.int .i64 n), gv] :: sl 106 4 gv (List.length (N0 ++ T)) ((N0 ++ T).flatMap GN.cells) :: sl 58 2 lv (List.length ll) (ll.flatMap RV.cells) :: F) := H101_
   have S103_ := Same.trans S98_ S102_
   refine ⟨⟨Holds.rd H101_ 2 rfl, Holds.slrd H101_ 8 rfl, Holds.slrd H101_ 9 rfl, (Holds.ro_at H101_ 6 rfl)⟩, ?_⟩
   have hq104_ := And.intro (Holds.rd H101_ 2 rfl) (And.intro (Holds.slrd H101_ 8 rfl) (And.intro (Holds.slrd H101_ 9 rfl) ((Holds.ro_at H101_ 6 rfl))))
   refine A_tk 12 (v := (Value.pointer (some ⟨b8_, 2, none⟩))) rfl (by kernel_rfl) (fun w hS => by kernel_rfl) hq104_ ?_
   refine A_ready (i := 13) (rs := []) (by kernel_rfl) ?_
   refine AllR.cons ?_ AllR.nil
   refine A_op0 (ls' := #[true, true, true, true, true, true, true, true, true, true, true, true, true, true]) rfl (by kernel_rfl) (T_store1 (v := v99_) rfl rfl z59 (Holds.sl_one H101_ 3 rfl) H101_ 4 rfl (Nat.le_of_ble_eq_true (by rfl)) ?_)
   intro w105_ S107_ H106_
   have S108_ := Same.trans S103_ S107_
   refine ⟨⟨Holds.rd H106_ 2 rfl, Holds.slrd H106_ 8 rfl, Holds.slrd H106_ 9 rfl, (Holds.ro_at H106_ 6 rfl)⟩, ?_⟩
   refine A_done (by kernel_rfl) ?_
   refine (X_blkN (X_then (hK27_ _ _ ?_)))
   clear hK27_
   refine C_reg ?_
   refine S_list (T_val (v := (Value.int .i64 ((k : Int) + 1))) (x_bin rfl rfl (ib_add (IntWalk.i64_in _ (by omega)))) ?_)
   refine S_list (T_val (v := (Value.int .i64 ((k : Int) + 1))) (x_move rfl) ?_)
   refine wpList_nil ?_
   refine (X_then ?_)
   have H109_ := ((Holds.bring (Holds.bring H106_ 1 rfl) 6 rfl) :)
   obtain ⟨R110_, hs111_, ⟨R112_, ha113_, hs114_⟩, H115_⟩ := Holds.gift H109_
   replace H115_ : Holds w105_ (ro R110_ :: cl b94_ 83 [(Value.int .i64 x30_.ver), (Value.int .i64 x30_.created_Main), (Value.int .i64 x30_.created_Sub), (Value.slice a90_ (List.length x30_.l) cp91_)] :: cl b34_ 106 [(Value.int .i64 x30_.ver), (Value.int .i64 x30_.created_Main), (Value.int .i64 x30_.created_Sub), x30_.revs] :: sl 83 4 v99_ ((List.length N') + 1) ((N'.flatMap GN.cells) ++ [(Value.int .i64 x30_.ver), (Value.int .i64 x30_.created_Main), (Value.int .i64 x30_.created_Sub), (Value.slice a90_ (List.length x30_.l) cp91_)]) :: cl b8_ 61 [(Value.int .i64 m), (Value.int .i64 n), v99_] :: cl b2_ 61 [(Value.int .i64 0), (Value.int .i64 0), (Value.slice none 0 0)] :: cl kb 104 [(Value.slice ka kl kc), (Value.int .i64 m), (Value.int .i64 n), gv] :: sl 106 4 gv (List.length (N0 ++ T)) ((N0 ++ T).flatMap GN.cells) :: sl 58 2 lv (List.length ll) (ll.flatMap RV.cells) :: F) := H115_
   have hz_R_R110_ := Sub.trans' hsR1 hs111_
   have hr116_ : RS R110_ 2 (Value.slice a90_ (List.length x30_.l) cp91_) (List.length x30_.l) (x30_.l.flatMap RV.cells) := (sl_RS ha113_ (Sub.rfl' _)).mono hs114_
   have H117_ := Holds.resl H115_ 3 rfl (by simp [GN.cells] : (N'.flatMap GN.cells) ++ [(Value.int .i64 x30_.ver), (Value.int .i64 x30_.created_Main), (Value.int .i64 x30_.created_Sub), (Value.slice a90_ (List.length x30_.l) cp91_)] = (N' ++ [(⟨x30_.ver, x30_.created_Main, x30_.created_Sub, ((Value.slice a90_ (List.length x30_.l) cp91_)), x30_.l⟩ : GN)]).flatMap GN.cells) (by simp : (List.length N') + 1 = (List.length (N' ++ [(⟨x30_.ver, x30_.created_Main, x30_.created_Sub, ((Value.slice a90_ (List.length x30_.l) cp91_)), x30_.l⟩ : GN)])))
   have H118_ : Holds w105_ (sl 83 4 v99_ (List.length (N' ++ [(⟨x30_.ver, x30_.created_Main, x30_.created_Sub, ((Value.slice a90_ (List.length x30_.l) cp91_)), x30_.l⟩ : GN)])) ((N' ++ [(⟨x30_.ver, x30_.created_Main, x30_.created_Sub, ((Value.slice a90_ (List.length x30_.l) cp91_)), x30_.l⟩ : GN)]).flatMap GN.cells) :: cl b8_ 61 [(Value.int .i64 m), (Value.int .i64 n), v99_] :: cl b2_ 61 [(Value.int .i64 0), (Value.int .i64 0), (Value.slice none 0 0)] :: ro R110_ :: cl kb 104 [(Value.slice ka kl kc), (Value.int .i64 m), (Value.int .i64 n), gv] :: sl 106 4 gv (List.length (N0 ++ T)) ((N0 ++ T).flatMap GN.cells) :: sl 58 2 lv (List.length ll) (ll.flatMap RV.cells) :: F) := (Holds.pkF H117_ [3, 3, 3, 0, 2, 2, 2] 2 :)
   exact ⟨⟨R110_, k + 1, v99_, (N' ++ [(⟨x30_.ver, x30_.created_Main, x30_.created_Sub, ((Value.slice a90_ (List.length x30_.l) cp91_)), x30_.l⟩ : GN)])⟩, ⟨_, congrArg (fun e => mkA 35 e []) (ch (ch (ch (ch (ch rfl rfl) rfl) rfl) rfl) (congrArg (Value.int .i64) ((by first | rfl | omega | (simp; done) | (simp; omega)) : (k : Int) + 1 = ((k + 1 : Nat) : Int)))), H118_, S108_, (hz_R_R110_), (by first | assumption | omega | exact rfl), (map_m_snoc hm hx31_ rfl), (all_snoc (fun x hx => (hN2 x hx).mono hs111_) (show RS _ 2 _ _ _ from hr116_))⟩, by first | omega | (dsimp only; omega) | (simp; omega)⟩
  refine AllR.cons ?_ AllR.nil
  refine A_op (ls' := #[true, false, true, true, true, true, true, true, true, true, true, false, false, false]) rfl (by kernel_rfl) (T_new (obj := .cells #[(Value.int .i64 x30_.ver), (Value.int .i64 x30_.created_Main), (Value.int .i64 x30_.created_Sub), (Value.slice a90_ (List.length x30_.l) cp91_)] 83) (f := fun b__ => .slice (some ⟨b__, 0, none⟩) 1 1) (A := fun b__ => cl b__ 83 [(Value.int .i64 x30_.ver), (Value.int .i64 x30_.created_Main), (Value.int .i64 x30_.created_Sub), (Value.slice a90_ (List.length x30_.l) cp91_)]) (by kernel_rfl) (fun l h => h.alloc _ _) H89_ ?_)
  intro b119_ w120_ S122_ H121_
  have S123_ := Same.trans S88_ S122_
  refine ⟨⟨Holds.rd H121_ 2 rfl, Holds.slrd H121_ 8 rfl, Holds.slrd H121_ 9 rfl, (Holds.ro_at H121_ 6 rfl)⟩, ?_⟩
  refine A_ready (i := 1) (rs := []) (by kernel_rfl) ?_
  refine AllR.cons ?_ AllR.nil
  refine A_op (ls' := #[true, true, true, true, true, true, true, true, true, true, true, false, false, false]) rfl (by kernel_rfl) (T_val (v := gv2) (x_load1 rfl Try.underlying59 rfl ((Holds.rd H121_ 4 rfl) 2 gv2 rfl)) ?_)
  refine ⟨⟨Holds.rd H121_ 2 rfl, Holds.slrd H121_ 8 rfl, Holds.slrd H121_ 9 rfl, (Holds.ro_at H121_ 6 rfl)⟩, ?_⟩
  refine A_ready (i := 11) (rs := []) (by kernel_rfl) ?_
  refine AllR.cons ?_ AllR.nil
  refine A_op (ls' := #[true, true, true, true, true, true, true, true, true, true, true, true, false, false]) rfl (by kernel_rfl) (T_append rfl rfl Try.underlying59 z83 rfl (by decide) H121_ 3 rfl (Holds.cl_src H121_ 0 rfl Try.underlying59 (by simp [Value.oneCell']) rfl) (by have hz_ := congrArg List.length hm; rw [List.length_map, List.length_map, List.length_take] at hz_; omega) ?_)
  intro v124_ w125_ S127_ H126_
  have S128_ := Same.trans S123_ S127_
  refine ⟨⟨Holds.rd H126_ 2 rfl, Holds.slrd H126_ 8 rfl, Holds.slrd H126_ 9 rfl, (Holds.ro_at H126_ 6 rfl)⟩, ?_⟩
  have hq129_ := And.intro (Holds.rd H126_ 2 rfl) (And.intro (Holds.slrd H126_ 8 rfl) (And.intro (Holds.slrd H126_ 9 rfl) ((Holds.ro_at H126_ 6 rfl))))
  refine A_tk 12 (v := (Value.pointer (some ⟨b8_, 2, none⟩))) rfl (by kernel_rfl) (fun w hS => by kernel_rfl) hq129_ ?_
  refine A_ready (i := 13) (rs := []) (by kernel_rfl) ?_
  refine AllR.cons ?_ AllR.nil
  refine A_op0 (ls' := #[true, true, true, true, true, true, true, true, true, true, true, true, true, true]) rfl (by kernel_rfl) (T_store1 (v := v124_) rfl rfl z59 (Holds.sl_one H126_ 3 rfl) H126_ 4 rfl (Nat.le_of_ble_eq_true (by rfl)) ?_)
  intro w130_ S132_ H131_
  replace H131_ : Holds w130_ (cl b119_ 83 [(Value.int .i64 x30_.ver), (Value.int .i64 x30_.created_Main), (Value.int .i64 x30_.created_Sub), (Value.slice a90_ (List.length x30_.l) cp91_)] :: sl 58 2 (Value.slice a90_ (List.length x30_.l) cp91_) (List.length x30_.l) (x30_.l.flatMap RV.cells) :: cl b34_ 106 [(Value.int .i64 x30_.ver), (Value.int .i64 x30_.created_Main), (Value.int .i64 x30_.created_Sub), x30_.revs] :: sl 83 4 v124_ ((List.length N') + 1) ((N'.flatMap GN.cells) ++ [(Value.int .i64 x30_.ver), (Value.int .i64 x30_.created_Main), (Value.int .i64 x30_.created_Sub), (Value.slice a90_ (List.length x30_.l) cp91_)]) :: cl b8_ 61 [(Value.int .i64 m), (Value.int .i64 n), v124_] :: cl b2_ 61 [(Value.int .i64 0), (Value.int .i64 0), (Value.slice none 0 0)] :: ro R1 :: cl kb 104 [(Value.slice ka kl kc), (Value.int .i64 m), (Value.int .i64 n), gv] :: sl 106 4 gv (List.length (N0 ++ T)) ((N0 ++ T).flatMap GN.cells) :: sl 58 2 lv (List.length ll) (ll.flatMap RV.cells) :: F) := H131_
  have S133_ := Same.trans S128_ S132_
  refine ⟨⟨Holds.rd H131_ 2 rfl, Holds.slrd H131_ 8 rfl, Holds.slrd H131_ 9 rfl, (Holds.ro_at H131_ 6 rfl)⟩, ?_⟩
  refine A_done (by kernel_rfl) ?_
  refine (X_blkN (X_then (hK27_ _ _ ?_)))
  clear hK27_
  refine C_reg ?_
  refine S_list (T_val (v := (Value.int .i64 ((k : Int) + 1))) (x_bin rfl rfl (ib_add (IntWalk.i64_in _ (by omega)))) ?_)
  refine S_list (T_val (v := (Value.int .i64 ((k : Int) + 1))) (x_move rfl) ?_)
  refine wpList_nil ?_
  refine (X_then ?_)
  have H134_ := ((Holds.bring (Holds.bring H131_ 1 rfl) 6 rfl) :)
  obtain ⟨R135_, hs136_, ⟨R137_, ha138_, hs139_⟩, H140_⟩ := Holds.gift H134_
  have hz_R_R135_ := Sub.trans' hsR1 hs136_
  have hr141_ : RS R135_ 2 (Value.slice a90_ (List.length x30_.l) cp91_) (List.length x30_.l) (x30_.l.flatMap RV.cells) := (sl_RS ha138_ (Sub.rfl' _)).mono hs139_
  have H142_ := Holds.resl H140_ 3 rfl (by simp [GN.cells] : (N'.flatMap GN.cells) ++ [(Value.int .i64 x30_.ver), (Value.int .i64 x30_.created_Main), (Value.int .i64 x30_.created_Sub), (Value.slice a90_ (List.length x30_.l) cp91_)] = (N' ++ [(⟨x30_.ver, x30_.created_Main, x30_.created_Sub, ((Value.slice a90_ (List.length x30_.l) cp91_)), x30_.l⟩ : GN)]).flatMap GN.cells) (by simp : (List.length N') + 1 = (List.length (N' ++ [(⟨x30_.ver, x30_.created_Main, x30_.created_Sub, ((Value.slice a90_ (List.length x30_.l) cp91_)), x30_.l⟩ : GN)])))
  have H143_ : Holds w130_ (sl 83 4 v124_ (List.length (N' ++ [(⟨x30_.ver, x30_.created_Main, x30_.created_Sub, ((Value.slice a90_ (List.length x30_.l) cp91_)), x30_.l⟩ : GN)])) ((N' ++ [(⟨x30_.ver, x30_.created_Main, x30_.created_Sub, ((Value.slice a90_ (List.length x30_.l) cp91_)), x30_.l⟩ : GN)]).flatMap GN.cells) :: cl b8_ 61 [(Value.int .i64 m), (Value.int .i64 n), v124_] :: cl b2_ 61 [(Value.int .i64 0), (Value.int .i64 0), (Value.slice none 0 0)] :: ro R135_ :: cl kb 104 [(Value.slice ka kl kc), (Value.int .i64 m), (Value.int .i64 n), gv] :: sl 106 4 gv (List.length (N0 ++ T)) ((N0 ++ T).flatMap GN.cells) :: sl 58 2 lv (List.length ll) (ll.flatMap RV.cells) :: F) := (Holds.pkF H142_ [3, 3, 3, 0, 2, 2, 2] 2 :)
  exact ⟨⟨R135_, k + 1, v124_, (N' ++ [(⟨x30_.ver, x30_.created_Main, x30_.created_Sub, ((Value.slice a90_ (List.length x30_.l) cp91_)), x30_.l⟩ : GN)])⟩, ⟨_, congrArg (fun e => mkA 35 e []) (ch (ch (ch (ch (ch rfl rfl) rfl) rfl) rfl) (congrArg (Value.int .i64) ((by first | rfl | omega | (simp; done) | (simp; omega)) : (k : Int) + 1 = ((k + 1 : Nat) : Int)))), H143_, S133_, (hz_R_R135_), (by first | assumption | omega | exact rfl), (map_m_snoc hm hx31_ rfl), (all_snoc (fun x hx => (hN2 x hx).mono hs136_) (show RS _ 2 _ _ _ from hr141_))⟩, by first | omega | (dsimp only; omega) | (simp; omega)⟩
 ·have c26_fp : ¬ ((k : Int) < ((List.length (N0 ++ T)) : Int)) := of_decide_eq_false c26_f
  refine C_exit (X_thenX (X_thenX (X_blkHit ?_)))
  refine (X_then (hK17_ _ _ ?_))
  clear hK17_
  refine C_seq (fun K144_ hK144_ => ?_)
  refine C_reg ?_
  refine S_list (T_val (v := (Value.agg #[(Value.int .i64 m), (Value.int .i64 n), gv2])) (x_loadN (vs := [(Value.int .i64 m), (Value.int .i64 n), gv2]) rfl Try.underlying61 rfl z61 rfl (Rd.cells (Holds.rd H22_ 1 rfl) 0 rfl)) ?_)
  refine S_list0 (T_storeN (vs := [(Value.int .i64 m), (Value.int .i64 n), gv2]) rfl rfl z61 rfl (List.forall_mem_cons.2 ⟨rfl, (List.forall_mem_cons.2 ⟨rfl, (List.forall_mem_cons.2 ⟨(Holds.sl_one H22_ 0 rfl), (fun _ h__ => by cases h__)⟩)⟩)⟩) H22_ 2 rfl (Nat.le_of_ble_eq_true (by rfl)) ?_)
  intro w145_ S147_ H146_
  have S148_ := Same.trans S23_ S147_
  refine wpList_nil ?_
  refine (X_then (hK144_ _ _ ?_))
  clear hK144_
  refine C_ret ?_
  refine R_any (v := (Value.agg #[(Value.int .i64 m), (Value.int .i64 n), gv2])) (run_results1 rfl ⟨_, rfl, load_resN Try.underlying61 rfl z61 rfl (vs := [(Value.int .i64 m), (Value.int .i64 n), gv2]) (Holds.cl_cells H146_ 2 rfl 0 rfl)⟩) ?_
  have H149_ := ((Holds.bring H146_ 3 rfl) :)
  obtain ⟨R150_, hs151_, ⟨R152_, ha153_, hs154_⟩, H155_⟩ := Holds.gift H149_
  replace H155_ : Holds w145_ (ro R150_ :: cl b8_ 61 [(Value.int .i64 m), (Value.int .i64 n), gv2] :: cl b2_ 61 [(Value.int .i64 m), (Value.int .i64 n), gv2] :: cl kb 104 [(Value.slice ka kl kc), (Value.int .i64 m), (Value.int .i64 n), gv] :: sl 106 4 gv (List.length (N0 ++ T)) ((N0 ++ T).flatMap GN.cells) :: sl 58 2 lv (List.length ll) (ll.flatMap RV.cells) :: F) := H155_
  have hz_R_R150_ := Sub.trans' hsR1 hs151_
  have hr156_ : RS R150_ 4 gv2 (List.length N') (N'.flatMap GN.cells) := (sl_RS ha153_ (Sub.rfl' _)).mono hs154_
  rw [List.take_of_length_le (by omega)] at hm
  have H157_ : Holds w145_ (ro R150_ :: cl kb 104 [(Value.slice ka kl kc), (Value.int .i64 m), (Value.int .i64 n), gv] :: sl 106 4 gv (List.length (N0 ++ T)) ((N0 ++ T).flatMap GN.cells) :: sl 58 2 lv (List.length ll) (ll.flatMap RV.cells) :: F) := (Holds.pkF H155_ [0, 2, 2, 2] 2 :)
  exact ⟨R150_, _, _, rfl, hz_R_R150_, ⟨gv2, N', rfl, rfl, (hm), (hr156_), (fun x hx => (hN2 x hx).mono hs151_)⟩, S148_, H157_⟩
end Go.Proofs.Ytiblemgccgbhoaa
