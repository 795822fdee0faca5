/- A key's index out of a dump. -/
import Derived.Test.YtiblemgccgbhoaaKyM0
set_option linter.unusedVariables false
set_option linter.unusedSimpArgs false
namespace Go.Proofs.Ytiblemgccgbhoaa
open Go Go.RowKit Gw

set_option maxHeartbeats 400000 in
theorem kZzIn (R : HP) (ka : Option Addr) (kl kc : Nat) (m n : Int) (v : Value) (N : List GN) (h1 : RS R 4 v (List.length N) (N.flatMap GN.cells)) (hg1 : ∀ x ∈ N, GOk R x) (hb1 : N.length ≤ 100000) (hb2 : ∀ x ∈ N, x.l.length ≤ 100000) :
    TriG Try.prog 32 #[(Value.slice ka kl kc), (Value.agg #[(Value.int .i64 m), (Value.int .i64 n), v])] R [] (fun R' v__ post__ => ∃ (kb : Nat) (gv lv : Value) (N0 T : List GN) (ll : List RV), v__ = (Value.pointer (some ⟨kb, 0, none⟩)) ∧ post__ = [cl kb 104 [(Value.slice ka kl kc), (Value.int .i64 m), (Value.int .i64 n), gv], sl 106 4 gv (List.length (N0 ++ T)) ((N0 ++ T).flatMap GN.cells), sl 58 2 lv (List.length ll) (ll.flatMap RV.cells)] ∧ ((N0 ++ T).map GN.m = N.map GN.m) ∧ (∀ x ∈ N0, GOk R' x) ∧ (Tlk T lv ll) ∧ (T = [] → N0 = [])) := by
 refine TriG.into (n := 39) (al := [(Value.slice ka kl kc), (Value.agg #[(Value.int .i64 m), (Value.int .i64 n), v])]) Try.func32 rfl Try.ntmps32 rfl rfl fun w F H => ?_
 refine C_seq (fun K1_ hK1_ => ?_)
 refine C_reg ?_
 refine S_list (T_box (v := (Value.agg #[(Value.int .i64 m), (Value.int .i64 n), v])) rfl H ?_)
 intro b2_ w3_ S5_ H4_
 have S6_ := Same.trans (Same.refl w) S5_
 refine S_list (T_val (v := (Value.pointer none)) (x_assign rfl) ?_)
 refine wpList_nil ?_
 refine (X_then (hK1_ _ _ ?_))
 clear hK1_
 refine C_seq (fun K7_ hK7_ => ?_)
 refine C_reg ?_
 refine S_list (T_val (v := (Value.slice ka kl kc)) (x_move rfl) ?_)
 refine S_list (T_val (v := (Value.pointer (some ⟨b2_, 0, none⟩))) (by kernel_rfl) ?_)
 refine S_list (T_val (v := (Value.agg #[(Value.int .i64 m), (Value.int .i64 n)])) (x_loadN (vs := [(Value.int .i64 m), (Value.int .i64 n)]) rfl Try.underlying58 rfl z58 rfl (Rd.cells (Holds.rd H4_ 0 rfl) 0 rfl)) ?_)
 refine S_list (T_val (v := (Value.agg #[(Value.slice ka kl kc), (Value.int .i64 m), (Value.int .i64 n), (Value.slice none 0 0)])) (by kernel_rfl) ?_)
 refine S_list (T_box (v := (Value.agg #[(Value.slice ka kl kc), (Value.int .i64 m), (Value.int .i64 n), (Value.slice none 0 0)])) rfl H4_ ?_)
 intro b8_ w9_ S11_ H10_
 replace H10_ : Holds w9_ (cl b8_ 104 [(Value.slice ka kl kc), (Value.int .i64 m), (Value.int .i64 n), (Value.slice none 0 0)] :: cl b2_ 61 [(Value.int .i64 m), (Value.int .i64 n), v] :: ro R :: F) := H10_
 have S12_ := Same.trans S6_ S11_
 refine S_list (T_val (v := (Value.pointer (some ⟨b8_, 0, none⟩))) (x_assign rfl) ?_)
 refine wpList_nil ?_
 refine (X_then (hK7_ _ _ ?_))
 clear hK7_
 refine C_seq (fun K13_ hK13_ => ?_)
 refine C_seq (fun K14_ hK14_ => ?_)
 refine C_reg ?_
 refine S_list (T_val (v := (Value.pointer (some ⟨b2_, 2, none⟩))) (by kernel_rfl) ?_)
 refine S_list (T_val (v := v) (x_load1 rfl Try.underlying59 rfl ((Holds.rd H10_ 1 rfl) 2 v rfl)) ?_)
 refine S_list (T_val (v := (Value.int .i64 ((List.length N) : Int))) (x_lenRS rfl h1 Try.underlying59) ?_)
 refine S_list (T_val (v := (Value.int .i64 0)) (x_move rfl) ?_)
 refine wpList_nil ?_
 refine (X_then (hK14_ _ _ ?_))
 clear hK14_
 refine C_block ?_
 have H15_ : Holds w9_ (sl 106 4 (Value.slice none 0 0) (List.length (([] : List GN) ++ ([] : List GN))) ((([] : List GN) ++ ([] : List GN)).flatMap GN.cells) :: cl b8_ 104 [(Value.slice ka kl kc), (Value.int .i64 m), (Value.int .i64 n), (Value.slice none 0 0)] :: cl b2_ 61 [(Value.int .i64 m), (Value.int .i64 n), v] :: ro R :: F) := Holds.add_nil H10_ 106 4
 have H16_ : Holds w9_ (sl 58 2 (Value.slice none 0 0) (List.length ([] : List RV)) (([] : List RV).flatMap RV.cells) :: sl 106 4 (Value.slice none 0 0) (List.length (([] : List GN) ++ ([] : List GN))) ((([] : List GN) ++ ([] : List GN)).flatMap GN.cells) :: cl b8_ 104 [(Value.slice ka kl kc), (Value.int .i64 m), (Value.int .i64 n), (Value.slice none 0 0)] :: cl b2_ 61 [(Value.int .i64 m), (Value.int .i64 n), v] :: ro R :: F) := Holds.add_nil H15_ 58 2
 have H17_ := Holds.recl H16_ 2 rfl ((lcons rfl (lcons rfl (lcons rfl (lcons (rfl : (Value.slice none 0 0) = ((Value.slice none 0 0))) rfl)))) : [(Value.slice ka kl kc), (Value.int .i64 m), (Value.int .i64 n), (Value.slice none 0 0)] = [(Value.slice ka kl kc), (Value.int .i64 m), (Value.int .i64 n), ((Value.slice none 0 0))])
 refine C_loop (γ := HP × Nat × (List GN) × (List GN) × Value × Value × (List RV)) (fun x__ a__ w1__ => match x__ with | ⟨R1, k, N0, T, gv, lv, ll⟩ => ∃ h : Env, a__ = mkA 39 (upd (upd (upd (upd (upd h 4 (Value.pointer none)) 5 (Value.pointer (some ⟨b8_, 0, none⟩))) 14 v) 15 (Value.int .i64 ((List.length N) : Int))) 16 (Value.int .i64 (k : Int))) [] ∧ Holds w1__ (sl 58 2 lv (List.length ll) (ll.flatMap RV.cells) :: sl 106 4 gv (List.length (N0 ++ T)) ((N0 ++ T).flatMap GN.cells) :: cl b8_ 104 [(Value.slice ka kl kc), (Value.int .i64 m), (Value.int .i64 n), gv] :: cl b2_ 61 [(Value.int .i64 m), (Value.int .i64 n), v] :: ro R1 :: F) ∧ Same w w1__ ∧ (Sub R R1) ∧ (k ≤ N.length) ∧ ((N0 ++ T).map GN.m = (N.take k).map GN.m) ∧ (∀ x ∈ N0, GOk R1 x) ∧ (Tlk T lv ll) ∧ (T = [] → N0 = [])) (fun x__ => match x__ with | ⟨R1, k, N0, T, gv, lv, ll⟩ => N.length - k) (⟨R, 0, ([] : List GN), ([] : List GN), (Value.slice none 0 0), (Value.slice none 0 0), ([] : List RV)⟩) ⟨_, congrArg (fun e => mkA 39 e []) (ch (ch (ch (ch (ch rfl rfl) rfl) rfl) rfl) (congrArg (Value.int .i64) ((by first | rfl | omega | (simp; done) | (simp; omega)) : 0 = (0 : Int)))), H17_, S12_, (Sub.rfl' _), (by first | assumption | omega | exact rfl), (rfl), (fun x hx => by cases hx), (Or.inl ⟨rfl, rfl, rfl⟩), (fun _ => rfl)⟩ ?_
 rintro ⟨R1, k, N0, T, gv, lv, ll⟩ _ w18_ ⟨h, rfl, H19_, S20_, hsR1, hk, hm, hN, hT, hTN⟩
 refine C_seq (fun K21_ hK21_ => ?_)
 refine C_reg ?_
 refine S_list (T_val (v := (Value.bool (decide ((k : Int) < ((List.length N) : Int))))) (x_bin rfl rfl rfl) ?_)
 refine wpList_nil ?_
 refine (X_then (hK21_ _ _ ?_))
 clear hK21_
 refine C_seq (fun K22_ hK22_ => ?_)
 refine C_cond (b := decide ((k : Int) < ((List.length N) : Int))) rfl (fun c23_t => ?_) (fun c23_f => ?_)
 ·have c23_tp : (k : Int) < ((List.length N) : Int) := of_decide_eq_true c23_t
  refine C_skip (X_then (hK22_ _ _ ?_))
  clear hK22_
  refine C_seq (fun K24_ hK24_ => ?_)
  refine C_block ?_
  refine C_seq (fun K25_ hK25_ => ?_)
  refine C_reg ?_
  have H26_ := ((Holds.bring H19_ 4 rfl) :)
  obtain ⟨R27_, hs28_, ⟨R29_, ha30_, hs31_⟩, H32_⟩ := Holds.gift H26_
  have hz_R_R27_ := Sub.trans' hsR1 hs28_
  have hr33_ : RS R27_ 2 lv (List.length ll) (ll.flatMap RV.cells) := (sl_RS ha30_ (Sub.rfl' _)).mono hs31_
  obtain ⟨x34_, hx35_, hm36_⟩ := elem_at N k (by omega)
  have hp37_ := hg1 x34_ hm36_
  have hp38_ := hb2 x34_ hm36_
  have hg39_ := hg1 x34_ hm36_
  refine S_list (T_val (v := (Value.pointer (some ⟨(sb v), so v + (k * 4 + 0), none⟩))) (x_idxRS (v := v) rfl (RS.mono h1 hz_R_R27_) rfl Try.underlying59 z83 (by omega) (by omega) (by omega : _ = k) rfl) ?_)
  refine S_list (T_val (v := (Value.agg #[(Value.int .i64 x34_.ver), (Value.int .i64 x34_.created_Main), (Value.int .i64 x34_.created_Sub), x34_.revs])) (x_loadN (vs := [(Value.int .i64 x34_.ver), (Value.int .i64 x34_.created_Main), (Value.int .i64 x34_.created_Sub), x34_.revs]) rfl Try.underlying83 rfl z83 rfl (RC.cells (RS.rc (RS.mono h1 hz_R_R27_)) (Holds.ro_at H32_ 0 rfl) (k * 4 + 0) (fm_cells GN.len hx35_ (i := 0) rfl))) ?_)
  refine S_list (T_alloc z83 H32_ ?_)
  intro b40_ w41_ S43_ H42_
  replace H42_ : Holds w41_ (cl b40_ 83 [(Value.int .i64 0), (Value.int .i64 0), (Value.int .i64 0), (Value.slice none 0 0)] :: ro R27_ :: sl 106 4 gv (List.length (N0 ++ T)) ((N0 ++ T).flatMap GN.cells) :: cl b8_ 104 [(Value.slice ka kl kc), (Value.int .i64 m), (Value.int .i64 n), gv] :: cl b2_ 61 [(Value.int .i64 m), (Value.int .i64 n), v] :: F) := H42_
  have S44_ := Same.trans S20_ S43_
  refine S_list0 (T_storeN (vs := [(Value.int .i64 x34_.ver), (Value.int .i64 x34_.created_Main), (Value.int .i64 x34_.created_Sub), x34_.revs]) rfl rfl z83 rfl (List.forall_mem_cons.2 ⟨rfl, (List.forall_mem_cons.2 ⟨rfl, (List.forall_mem_cons.2 ⟨rfl, (List.forall_mem_cons.2 ⟨(RS.one (RS.mono hg39_ hz_R_R27_)), (fun _ h__ => by cases h__)⟩)⟩)⟩)⟩) H42_ 0 rfl (Nat.le_of_ble_eq_true (by rfl)) ?_)
  intro w45_ S47_ H46_
  have S48_ := Same.trans S44_ S47_
  refine wpList_nil ?_
  refine (X_then (hK25_ _ _ ?_))
  clear hK25_
  refine A_start (S := fun w => Rd b40_ [(Value.int .i64 x34_.ver), (Value.int .i64 x34_.created_Main), (Value.int .i64 x34_.created_Sub), x34_.revs] w ∧ Sub R27_ (hp w)) (N := 18) foll rfl rfl ?_
  have H49_ := Holds.drew_ H46_
  have hq50_ := And.intro (Holds.rd H49_ 0 rfl) ((Holds.ro_at H49_ 1 rfl))
  refine A_tk 0 (v := (Value.pointer (some ⟨b8_, 0, none⟩))) rfl (by kernel_rfl) (fun w hS => x_move rfl) hq50_ ?_
  refine A_tk 1 (v := (Value.pointer (some ⟨b8_, 0, none⟩))) rfl (by kernel_rfl) (fun w hS => x_move rfl) hq50_ ?_
  refine A_tk 2 (v := (Value.pointer (some ⟨b8_, 0, none⟩))) rfl (by kernel_rfl) (fun w hS => by kernel_rfl) hq50_ ?_
  refine A_tk 3 (v := (Value.pointer (some ⟨b8_, 3, none⟩))) rfl (by kernel_rfl) (fun w hS => by kernel_rfl) hq50_ ?_
  refine A_tk 5 (v := (Value.pointer (some ⟨b40_, 0, none⟩))) rfl (by kernel_rfl) (fun w hS => by kernel_rfl) hq50_ ?_
  refine A_tk 6 (v := (Value.int .i64 x34_.ver)) rfl (by kernel_rfl) (fun w hS => x_load1 rfl Try.underlying2 rfl (hS.1 0 (Value.int .i64 x34_.ver) rfl)) hq50_ ?_
  refine A_tk 7 (v := (Value.pointer (some ⟨b40_, 1, none⟩))) rfl (by kernel_rfl) (fun w hS => by kernel_rfl) hq50_ ?_
  refine A_tk 8 (v := (Value.agg #[(Value.int .i64 x34_.created_Main), (Value.int .i64 x34_.created_Sub)])) rfl (by kernel_rfl) (fun w hS => x_loadN (vs := [(Value.int .i64 x34_.created_Main), (Value.int .i64 x34_.created_Sub)]) rfl Try.underlying58 rfl z58 rfl (Rd.cells hS.1 1 rfl)) hq50_ ?_
  refine A_tk 9 (v := (Value.pointer (some ⟨b40_, 3, none⟩))) rfl (by kernel_rfl) (fun w hS => by kernel_rfl) hq50_ ?_
  refine A_tk 10 (v := x34_.revs) rfl (by kernel_rfl) (fun w hS => x_load1 rfl Try.underlying80 rfl (hS.1 3 x34_.revs rfl)) hq50_ ?_
  refine A_ready (i := 4) (rs := [11]) (by kernel_rfl) ?_
  refine AllR.cons ?_ ?_
  ·skip
   refine A_op (ls' := #[true, true, true, true, true, true, true, true, true, true, true, false, false, false, false, false, false, false]) rfl (by kernel_rfl) (T_val (v := gv) (x_load1 rfl Try.underlying102 rfl ((Holds.rd H49_ 3 rfl) 3 gv rfl)) ?_)
   refine ⟨⟨Holds.rd H49_ 0 rfl, (Holds.ro_at H49_ 1 rfl)⟩, ?_⟩
   refine A_ready (i := 11) (rs := []) (by kernel_rfl) ?_
   refine AllR.cons ?_ AllR.nil
   have H51_ : Holds w45_.drew (sl 58 2 (.slice none 0 0) 0 [] :: cl b40_ 83 [(Value.int .i64 x34_.ver), (Value.int .i64 x34_.created_Main), (Value.int .i64 x34_.created_Sub), x34_.revs] :: ro R27_ :: sl 106 4 gv (List.length (N0 ++ T)) ((N0 ++ T).flatMap GN.cells) :: cl b8_ 104 [(Value.slice ka kl kc), (Value.int .i64 m), (Value.int .i64 n), gv] :: cl b2_ 61 [(Value.int .i64 m), (Value.int .i64 n), v] :: F) := Holds.add_nil H49_ 58 2
   have H52_ : Holds w45_.drew (sl 58 2 (.slice none 0 0) 0 [] :: sl 58 2 (.slice none 0 0) 0 [] :: cl b40_ 83 [(Value.int .i64 x34_.ver), (Value.int .i64 x34_.created_Main), (Value.int .i64 x34_.created_Sub), x34_.revs] :: ro R27_ :: sl 106 4 gv (List.length (N0 ++ T)) ((N0 ++ T).flatMap GN.cells) :: cl b8_ 104 [(Value.slice ka kl kc), (Value.int .i64 m), (Value.int .i64 n), gv] :: cl b2_ 61 [(Value.int .i64 m), (Value.int .i64 n), v] :: F) := Holds.add_nil H51_ 58 2
   refine A_op (ls' := #[true, true, true, true, true, true, true, true, true, true, true, true, false, false, false, false, false, false]) rfl (by kernel_rfl) (T_append rfl rfl Try.underlying80 z58 rfl (by decide) H52_ 0 rfl (RS.src (RS.mono hg39_ hz_R_R27_) (Holds.ro_at H51_ 2 rfl) Try.underlying80 (ones_RV _)) (by have hz_ := congrArg List.length hm; rw [List.length_map, List.length_map, List.length_take] at hz_; first | omega | (simp; omega)) ?_)
   intro v53_ w54_ S56_ H55_
   have S57_ := Same.trans (Same.trans S48_ (Same.drew _)) S56_
   obtain ⟨-, a58_, cp59_, rfl, hle60_⟩ := Holds.sl_len H55_ 0 rfl
   have H61_ := Holds.resl H55_ 0 rfl (by simp : [] ++ (x34_.l.flatMap RV.cells) = x34_.l.flatMap RV.cells) (by simp : 0 + (List.length x34_.l) = (List.length x34_.l))
   refine ⟨⟨Holds.rd H61_ 2 rfl, (Holds.ro_at H61_ 3 rfl)⟩, ?_⟩
   have hq62_ := And.intro (Holds.rd H61_ 2 rfl) ((Holds.ro_at H61_ 3 rfl))
   refine A_tk 12 (v := (Value.agg #[(Value.int .i64 x34_.ver), (Value.int .i64 x34_.created_Main), (Value.int .i64 x34_.created_Sub), (Value.slice a58_ (0 + (List.length x34_.l)) cp59_)])) rfl (by kernel_rfl) (fun w hS => by kernel_rfl) hq62_ ?_
   refine A_ready (i := 13) (rs := []) (by kernel_rfl) ?_
   refine AllR.cons ?_ AllR.nil
   refine A_op (ls' := #[true, true, true, true, true, true, true, true, true, true, true, true, true, true, false, false, false, false]) rfl (by kernel_rfl) (T_new (obj := .cells #[(Value.int .i64 x34_.ver), (Value.int .i64 x34_.created_Main), (Value.int .i64 x34_.created_Sub), (Value.slice a58_ (0 + (List.length x34_.l)) cp59_)] 106) (f := fun b__ => .slice (some ⟨b__, 0, none⟩) 1 1) (A := fun b__ => cl b__ 106 [(Value.int .i64 x34_.ver), (Value.int .i64 x34_.created_Main), (Value.int .i64 x34_.created_Sub), (Value.slice a58_ (0 + (List.length x34_.l)) cp59_)]) (by kernel_rfl) (fun l h => h.alloc _ _) H61_ ?_)
   intro b63_ w64_ S66_ H65_
   replace H65_ : Holds w64_ (cl b63_ 106 [(Value.int .i64 x34_.ver), (Value.int .i64 x34_.created_Main), (Value.int .i64 x34_.created_Sub), (Value.slice a58_ (0 + (List.length x34_.l)) cp59_)] :: sl 58 2 (Value.slice a58_ (0 + (List.length x34_.l)) cp59_) (List.length x34_.l) (x34_.l.flatMap RV.cells) :: sl 58 2 (.slice none 0 0) 0 [] :: cl b40_ 83 [(Value.int .i64 x34_.ver), (Value.int .i64 x34_.created_Main), (Value.int .i64 x34_.created_Sub), x34_.revs] :: ro R27_ :: sl 106 4 gv (List.length (N0 ++ T)) ((N0 ++ T).flatMap GN.cells) :: cl b8_ 104 [(Value.slice ka kl kc), (Value.int .i64 m), (Value.int .i64 n), gv] :: cl b2_ 61 [(Value.int .i64 m), (Value.int .i64 n), v] :: F) := H65_
   have S67_ := Same.trans S57_ S66_
   refine ⟨⟨Holds.rd H65_ 3 rfl, (Holds.ro_at H65_ 4 rfl)⟩, ?_⟩
   refine A_ready (i := 14) (rs := []) (by kernel_rfl) ?_
   refine AllR.cons ?_ AllR.nil
   refine A_op (ls' := #[true, true, true, true, true, true, true, true, true, true, true, true, true, true, true, false, false, false]) rfl (by kernel_rfl) (T_append rfl rfl Try.underlying102 z106 rfl (by decide) H65_ 5 rfl (Holds.cl_src H65_ 0 rfl Try.underlying102 (by simp [Value.oneCell']) rfl) (by have hz_ := congrArg List.length hm; rw [List.length_map, List.length_map, List.length_take] at hz_; first | omega | (simp; omega)) ?_)
   intro v68_ w69_ S71_ H70_
   have S72_ := Same.trans S67_ S71_
   refine ⟨⟨Holds.rd H70_ 3 rfl, (Holds.ro_at H70_ 4 rfl)⟩, ?_⟩
   have hq73_ := And.intro (Holds.rd H70_ 3 rfl) ((Holds.ro_at H70_ 4 rfl))
   refine A_tk 15 (v := (Value.pointer (some ⟨b8_, 0, none⟩))) rfl (by kernel_rfl) (fun w hS => by kernel_rfl) hq73_ ?_
   refine A_tk 16 (v := (Value.pointer (some ⟨b8_, 3, none⟩))) rfl (by kernel_rfl) (fun w hS => by kernel_rfl) hq73_ ?_
   refine A_ready (i := 17) (rs := []) (by kernel_rfl) ?_
   refine AllR.cons ?_ AllR.nil
   refine A_op0 (ls' := #[true, true, true, true, true, true, true, true, true, true, true, true, true, true, true, true, true, true]) rfl (by kernel_rfl) (T_store1 (v := v68_) rfl rfl z102 (Holds.sl_one H70_ 5 rfl) H70_ 6 rfl (Nat.le_of_ble_eq_true (by rfl)) ?_)
   intro w74_ S76_ H75_
   have S77_ := Same.trans S72_ S76_
   refine ⟨⟨Holds.rd H75_ 3 rfl, (Holds.ro_at H75_ 4 rfl)⟩, ?_⟩
   refine A_done (by kernel_rfl) ?_
   refine (X_blkN (X_then (hK24_ _ _ ?_)))
   clear hK24_
   refine C_reg ?_
   refine S_list (T_val (v := (Value.int .i64 ((k : Int) + 1))) (x_bin rfl rfl (ib_add (IntWalk.i64_in _ (by omega)))) ?_)
   refine S_list (T_val (v := (Value.int .i64 ((k : Int) + 1))) (x_move rfl) ?_)
   refine wpList_nil ?_
   refine (X_then ?_)
   have H78_ := Holds.resl H75_ 5 rfl (by simp [GN.cells] : ((N0 ++ T).flatMap GN.cells) ++ [(Value.int .i64 x34_.ver), (Value.int .i64 x34_.created_Main), (Value.int .i64 x34_.created_Sub), (Value.slice a58_ (0 + (List.length x34_.l)) cp59_)] = ((N0 ++ T) ++ [(⟨x34_.ver, x34_.created_Main, x34_.created_Sub, ((Value.slice a58_ (0 + (List.length x34_.l)) cp59_)), x34_.l⟩ : GN)]).flatMap GN.cells) (by simp : (List.length (N0 ++ T)) + 1 = (List.length (N0 ++ T) + 1))
   have H79_ := Holds.resl H78_ 5 rfl ((by first | rfl | (simp; done) | (simp; omega)) : ((N0 ++ T) ++ [(⟨x34_.ver, x34_.created_Main, x34_.created_Sub, ((Value.slice a58_ (0 + (List.length x34_.l)) cp59_)), x34_.l⟩ : GN)]).flatMap GN.cells = ((N0 ++ T) ++ [(⟨x34_.ver, x34_.created_Main, x34_.created_Sub, ((Value.slice a58_ (0 + (List.length x34_.l)) cp59_)), x34_.l⟩ : GN)]).flatMap GN.cells) ((by first | rfl | (simp; done) | (simp; omega)) : (List.length (N0 ++ T) + 1) = (List.length ((N0 ++ T) ++ [(⟨x34_.ver, x34_.created_Main, x34_.created_Sub, ((Value.slice a58_ (0 + (List.length x34_.l)) cp59_)), x34_.l⟩ : GN)])))
   have H80_ : Holds w74_ (sl 58 2 (Value.slice a58_ (0 + (List.length x34_.l)) cp59_) (List.length x34_.l) (x34_.l.flatMap RV.cells) :: sl 106 4 v68_ (List.length ((N0 ++ T) ++ [(⟨x34_.ver, x34_.created_Main, x34_.created_Sub, ((Value.slice a58_ (0 + (List.length x34_.l)) cp59_)), x34_.l⟩ : GN)])) (((N0 ++ T) ++ [(⟨x34_.ver, x34_.created_Main, x34_.created_Sub, ((Value.slice a58_ (0 + (List.length x34_.l)) cp59_)), x34_.l⟩ : GN)]).flatMap GN.cells) :: cl b8_ 104 [(Value.slice ka kl kc), (Value.int .i64 m), (Value.int .i64 n), v68_] :: cl b2_ 61 [(Value.int .i64 m), (Value.int .i64 n), v] :: ro R27_ :: F) := (Holds.pkF H79_ [1, 4, 4, 4, 3] 3 :)
   exact ⟨⟨R27_, k + 1, (N0 ++ T), [(⟨x34_.ver, x34_.created_Main, x34_.created_Sub, ((Value.slice a58_ (0 + (List.length x34_.l)) cp59_)), x34_.l⟩ : GN)], v68_, (Value.slice a58_ (0 + (List.length x34_.l)) cp59_), x34_.l⟩, ⟨_, congrArg (fun e => mkA 39 e []) (ch (ch (ch (ch (ch rfl rfl) rfl) rfl) rfl) (congrArg (Value.int .i64) ((by first | rfl | omega | (simp; done) | (simp; omega)) : (k : Int) + 1 = ((k + 1 : Nat) : Int)))), H80_, S77_, (hz_R_R27_), (by first | assumption | omega | exact rfl), (map_m_snoc hm hx35_ rfl), (GOk_app hN hs28_ hT hr33_), (Or.inr ⟨_, _, _, rfl⟩), (fun h => by cases h)⟩, by first | omega | (dsimp only; omega) | (simp; omega)⟩
  refine AllR.cons ?_ AllR.nil
  have H81_ : Holds w45_.drew (sl 58 2 (.slice none 0 0) 0 [] :: cl b40_ 83 [(Value.int .i64 x34_.ver), (Value.int .i64 x34_.created_Main), (Value.int .i64 x34_.created_Sub), x34_.revs] :: ro R27_ :: sl 106 4 gv (List.length (N0 ++ T)) ((N0 ++ T).flatMap GN.cells) :: cl b8_ 104 [(Value.slice ka kl kc), (Value.int .i64 m), (Value.int .i64 n), gv] :: cl b2_ 61 [(Value.int .i64 m), (Value.int .i64 n), v] :: F) := Holds.add_nil H49_ 58 2
  have H82_ : Holds w45_.drew (sl 58 2 (.slice none 0 0) 0 [] :: sl 58 2 (.slice none 0 0) 0 [] :: cl b40_ 83 [(Value.int .i64 x34_.ver), (Value.int .i64 x34_.created_Main), (Value.int .i64 x34_.created_Sub), x34_.revs] :: ro R27_ :: sl 106 4 gv (List.length (N0 ++ T)) ((N0 ++ T).flatMap GN.cells) :: cl b8_ 104 [(Value.slice ka kl kc), (Value.int .i64 m), (Value.int .i64 n), gv] :: cl b2_ 61 [(Value.int .i64 m), (Value.int .i64 n), v] :: F) := Holds.add_nil H81_ 58 2
  refine A_op (ls' := #[true, true, true, true, false, true, true, true, true, true, true, true, false, false, false, false, false, false]) rfl (by kernel_rfl) (T_append rfl rfl Try.underlying80 z58 rfl (by decide) H82_ 0 rfl (RS.src (RS.mono hg39_ hz_R_R27_) (Holds.ro_at H81_ 2 rfl) Try.underlying80 (ones_RV _)) (by have hz_ := congrArg List.length hm; rw [List.length_map, List.length_map, List.length_take] at hz_; first | omega | (simp; omega)) ?_)
  intro v83_ w84_ S86_ H85_
  have S87_ := Same.trans (Same.trans S48_ (Same.drew _)) S86_
  obtain ⟨-, a88_, cp89_, rfl, hle90_⟩ := Holds.sl_len H85_ 0 rfl
  have H91_ := Holds.resl H85_ 0 rfl (by simp : [] ++ (x34_.l.flatMap RV.cells) = x34_.l.flatMap RV.cells) (by simp : 0 + (List.length x34_.l) = (List.length x34_.l))
  refine ⟨⟨Holds.rd H91_ 2 rfl, (Holds.ro_at H91_ 3 rfl)⟩, ?_⟩
  have hq92_ := And.intro (Holds.rd H91_ 2 rfl) ((Holds.ro_at H91_ 3 rfl))
  refine A_tk 12 (v := (Value.agg #[(Value.int .i64 x34_.ver), (Value.int .i64 x34_.created_Main), (Value.int .i64 x34_.created_Sub), (Value.slice a88_ (0 + (List.length x34_.l)) cp89_)])) rfl (by kernel_rfl) (fun w hS => by kernel_rfl) hq92_ ?_
  refine A_ready (i := 4) (rs := [13]) (by kernel_rfl) ?_
  refine AllR.cons ?_ ?_
  ·skip
   refine A_op (ls' := #[true, true, true, true, true, true, true, true, true, true, true, true, true, false, false, false, false, false]) rfl (by kernel_rfl) (T_val (v := gv) (x_load1 rfl Try.underlying102 rfl ((Holds.rd H91_ 5 rfl) 3 gv rfl)) ?_)
   refine ⟨⟨Holds.rd H91_ 2 rfl, (Holds.ro_at H91_ 3 rfl)⟩, ?_⟩
   refine A_ready (i := 13) (rs := []) (by kernel_rfl) ?_
   refine AllR.cons ?_ AllR.nil
   refine A_op (ls' := #[true, true, true, true, true, true, true, true, true, true, true, true, true, true, false, false, false, false]) rfl (by kernel_rfl) (T_new (obj := .cells #[(Value.int .i64 x34_.ver), (Value.int .i64 x34_.created_Main), (Value.int .i64 x34_.created_Sub), (Value.slice a88_ (0 + (List.length x34_.l)) cp89_)] 106) (f := fun b__ => .slice (some ⟨b__, 0, none⟩) 1 1) (A := fun b__ => cl b__ 106 [(Value.int .i64 x34_.ver), (Value.int .i64 x34_.created_Main), (Value.int .i64 x34_.created_Sub), (Value.slice a88_ (0 + (List.length x34_.l)) cp89_)]) (by kernel_rfl) (fun l h => h.alloc _ _) H91_ ?_)
   intro b93_ w94_ S96_ H95_
   have S97_ := Same.trans S87_ S96_
   refine ⟨⟨Holds.rd H95_ 3 rfl, (Holds.ro_at H95_ 4 rfl)⟩, ?_⟩
   refine A_ready (i := 14) (rs := []) (by kernel_rfl) ?_
   refine AllR.cons ?_ AllR.nil
   refine A_op (ls' := #[true, true, true, true, true, true, true, true, true, true, true, true, true, true, true, false, false, false]) rfl (by kernel_rfl) (T_append rfl rfl Try.underlying102 z106 rfl (by decide) H95_ 5 rfl (Holds.cl_src H95_ 0 rfl Try.underlying102 (by simp [Value.oneCell']) rfl) (by have hz_ := congrArg List.length hm; rw [List.length_map, List.length_map, List.length_take] at hz_; first | omega | (simp; omega)) ?_)
   intro v98_ w99_ S101_ H100_
   replace H100_ : Holds w99_ (cl b93_ 106 [(Value.int .i64 x34_.ver), (Value.int .i64 x34_.created_Main), (Value.int .i64 x34_.created_Sub), (Value.slice a88_ (0 + (List.length x34_.l)) cp89_)] :: sl 58 2 (Value.slice a88_ (0 + (List.length x34_.l)) cp89_) (List.length x34_.l) (x34_.l.flatMap RV.cells) :: sl 58 2 (.slice none 0 0) 0 [] :: cl b40_ 83 [(Value.int .i64 x34_.ver), (Value.int .i64 x34_.created_Main), (Value.int .i64 x34_.created_Sub), x34_.revs] :: ro R27_ :: sl 106 4 v98_ ((List.length (N0 ++ T)) + 1) (((N0 ++ T).flatMap GN.cells) ++ [(Value.int .i64 x34_.ver), (Value.int .i64 x34_.created_Main), (Value.int .i64 x34_.created_Sub), (Value.slice a88_ (0 + (List.length x34_.l)) cp89_)]) :: cl b8_ 104 [(Value.slice ka kl kc), (Value.int .i64 m), (Value.int .i64 n), gv] :: cl b2_ 61 [(Value.int .i64 m), (Value.int .i64 n), v] :: F) := H100_
   have S102_ := Same.trans S97_ S101_
   refine ⟨⟨Holds.rd H100_ 3 rfl, (Holds.ro_at H100_ 4 rfl)⟩, ?_⟩
   have hq103_ := And.intro (Holds.rd H100_ 3 rfl) ((Holds.ro_at H100_ 4 rfl))
   refine A_tk 15 (v := (Value.pointer (some ⟨b8_, 0, none⟩))) rfl (by kernel_rfl) (fun w hS => by kernel_rfl) hq103_ ?_
   refine A_tk 16 (v := (Value.pointer (some ⟨b8_, 3, none⟩))) rfl (by kernel_rfl) (fun w hS => by kernel_rfl) hq103_ ?_
   refine A_ready (i := 17) (rs := []) (by kernel_rfl) ?_
   refine AllR.cons ?_ AllR.nil
   refine A_op0 (ls' := #[true, true, true, true, true, true, true, true, true, true, true, true, true, true, true, true, true, true]) rfl (by kernel_rfl) (T_store1 (v := v98_) rfl rfl z102 (Holds.sl_one H100_ 5 rfl) H100_ 6 rfl (Nat.le_of_ble_eq_true (by rfl)) ?_)
   intro w104_ S106_ H105_
   have S107_ := Same.trans S102_ S106_
   refine ⟨⟨Holds.rd H105_ 3 rfl, (Holds.ro_at H105_ 4 rfl)⟩, ?_⟩
   refine A_done (by kernel_rfl) ?_
   refine (X_blkN (X_then (hK24_ _ _ ?_)))
   clear hK24_
   refine C_reg ?_
   refine S_list (T_val (v := (Value.int .i64 ((k : Int) + 1))) (x_bin rfl rfl (ib_add (IntWalk.i64_in _ (by omega)))) ?_)
   refine S_list (T_val (v := (Value.int .i64 ((k : Int) + 1))) (x_move rfl) ?_)
   refine wpList_nil ?_
   refine (X_then ?_)
   have H108_ := Holds.resl H105_ 5 rfl (by simp [GN.cells] : ((N0 ++ T).flatMap GN.cells) ++ [(Value.int .i64 x34_.ver), (Value.int .i64 x34_.created_Main), (Value.int .i64 x34_.created_Sub), (Value.slice a88_ (0 + (List.length x34_.l)) cp89_)] = ((N0 ++ T) ++ [(⟨x34_.ver, x34_.created_Main, x34_.created_Sub, ((Value.slice a88_ (0 + (List.length x34_.l)) cp89_)), x34_.l⟩ : GN)]).flatMap GN.cells) (by simp : (List.length (N0 ++ T)) + 1 = (List.length (N0 ++ T) + 1))
   have H109_ := Holds.resl H108_ 5 rfl ((by first | rfl | (simp; done) | (simp; omega)) : ((N0 ++ T) ++ [(⟨x34_.ver, x34_.created_Main, x34_.created_Sub, ((Value.slice a88_ (0 + (List.length x34_.l)) cp89_)), x34_.l⟩ : GN)]).flatMap GN.cells = ((N0 ++ T) ++ [(⟨x34_.ver, x34_.created_Main, x34_.created_Sub, ((Value.slice a88_ (0 + (List.length x34_.l)) cp89_)), x34_.l⟩ : GN)]).flatMap GN.cells) ((by first | rfl | (simp; done) | (simp; omega)) : (List.length (N0 ++ T) + 1) = (List.length ((N0 ++ T) ++ [(⟨x34_.ver, x34_.created_Main, x34_.created_Sub, ((Value.slice a88_ (0 + (List.length x34_.l)) cp89_)), x34_.l⟩ : GN)])))
   have H110_ : Holds w104_ (sl 58 2 (Value.slice a88_ (0 + (List.length x34_.l)) cp89_) (List.length x34_.l) (x34_.l.flatMap RV.cells) :: sl 106 4 v98_ (List.length ((N0 ++ T) ++ [(⟨x34_.ver, x34_.created_Main, x34_.created_Sub, ((Value.slice a88_ (0 + (List.length x34_.l)) cp89_)), x34_.l⟩ : GN)])) (((N0 ++ T) ++ [(⟨x34_.ver, x34_.created_Main, x34_.created_Sub, ((Value.slice a88_ (0 + (List.length x34_.l)) cp89_)), x34_.l⟩ : GN)]).flatMap GN.cells) :: cl b8_ 104 [(Value.slice ka kl kc), (Value.int .i64 m), (Value.int .i64 n), v98_] :: cl b2_ 61 [(Value.int .i64 m), (Value.int .i64 n), v] :: ro R27_ :: F) := (Holds.pkF H109_ [1, 4, 4, 4, 3] 3 :)
   exact ⟨⟨R27_, k + 1, (N0 ++ T), [(⟨x34_.ver, x34_.created_Main, x34_.created_Sub, ((Value.slice a88_ (0 + (List.length x34_.l)) cp89_)), x34_.l⟩ : GN)], v98_, (Value.slice a88_ (0 + (List.length x34_.l)) cp89_), x34_.l⟩, ⟨_, congrArg (fun e => mkA 39 e []) (ch (ch (ch (ch (ch rfl rfl) rfl) rfl) rfl) (congrArg (Value.int .i64) ((by first | rfl | omega | (simp; done) | (simp; omega)) : (k : Int) + 1 = ((k + 1 : Nat) : Int)))), H110_, S107_, (hz_R_R27_), (by first | assumption | omega | exact rfl), (map_m_snoc hm hx35_ rfl), (GOk_app hN hs28_ hT hr33_), (Or.inr ⟨_, _, _, rfl⟩), (fun h => by cases h)⟩, by first | omega | (dsimp only; omega) | (simp; omega)⟩
  refine AllR.cons ?_ AllR.nil
  refine A_op (ls' := #[true, true, true, true, false, true, true, true, true, true, true, true, true, true, false, false, false, false]) rfl (by kernel_rfl) (T_new (obj := .cells #[(Value.int .i64 x34_.ver), (Value.int .i64 x34_.created_Main), (Value.int .i64 x34_.created_Sub), (Value.slice a88_ (0 + (List.length x34_.l)) cp89_)] 106) (f := fun b__ => .slice (some ⟨b__, 0, none⟩) 1 1) (A := fun b__ => cl b__ 106 [(Value.int .i64 x34_.ver), (Value.int .i64 x34_.created_Main), (Value.int .i64 x34_.created_Sub), (Value.slice a88_ (0 + (List.length x34_.l)) cp89_)]) (by kernel_rfl) (fun l h => h.alloc _ _) H91_ ?_)
  intro b111_ w112_ S114_ H113_
  have S115_ := Same.trans S87_ S114_
  refine ⟨⟨Holds.rd H113_ 3 rfl, (Holds.ro_at H113_ 4 rfl)⟩, ?_⟩
  refine A_ready (i := 4) (rs := []) (by kernel_rfl) ?_
  refine AllR.cons ?_ AllR.nil
  refine A_op (ls' := #[true, true, true, true, true, true, true, true, true, true, true, true, true, true, false, false, false, false]) rfl (by kernel_rfl) (T_val (v := gv) (x_load1 rfl Try.underlying102 rfl ((Holds.rd H113_ 6 rfl) 3 gv rfl)) ?_)
  refine ⟨⟨Holds.rd H113_ 3 rfl, (Holds.ro_at H113_ 4 rfl)⟩, ?_⟩
  refine A_ready (i := 14) (rs := []) (by kernel_rfl) ?_
  refine AllR.cons ?_ AllR.nil
  refine A_op (ls' := #[true, true, true, true, true, true, true, true, true, true, true, true, true, true, true, false, false, false]) rfl (by kernel_rfl) (T_append rfl rfl Try.underlying102 z106 rfl (by decide) H113_ 5 rfl (Holds.cl_src H113_ 0 rfl Try.underlying102 (by simp [Value.oneCell']) rfl) (by have hz_ := congrArg List.length hm; rw [List.length_map, List.length_map, List.length_take] at hz_; first | omega | (simp; omega)) ?_)
  intro v116_ w117_ S119_ H118_
  have S120_ := Same.trans S115_ S119_
  refine ⟨⟨Holds.rd H118_ 3 rfl, (Holds.ro_at H118_ 4 rfl)⟩, ?_⟩
  have hq121_ := And.intro (Holds.rd H118_ 3 rfl) ((Holds.ro_at H118_ 4 rfl))
  refine A_tk 15 (v := (Value.pointer (some ⟨b8_, 0, none⟩))) rfl (by kernel_rfl) (fun w hS => by kernel_rfl) hq121_ ?_
  refine A_tk 16 (v := (Value.pointer (some ⟨b8_, 3, none⟩))) rfl (by kernel_rfl) (fun w hS => by kernel_rfl) hq121_ ?_
  refine A_ready (i := 17) (rs := []) (by kernel_rfl) ?_
  refine AllR.cons ?_ AllR.nil
  refine A_op0 (ls' := #[true, true, true, true, true, true, true, true, true, true, true, true, true, true, true, true, true, true]) rfl (by kernel_rfl) (T_store1 (v := v116_) rfl rfl z102 (Holds.sl_one H118_ 5 rfl) H118_ 6 rfl (Nat.le_of_ble_eq_true (by rfl)) ?_)
  intro w122_ S124_ H123_
  replace H123_ : Holds w122_ (cl b111_ 106 [(Value.int .i64 x34_.ver), (Value.int .i64 x34_.created_Main), (Value.int .i64 x34_.created_Sub), (Value.slice a88_ (0 + (List.length x34_.l)) cp89_)] :: sl 58 2 (Value.slice a88_ (0 + (List.length x34_.l)) cp89_) (List.length x34_.l) (x34_.l.flatMap RV.cells) :: sl 58 2 (.slice none 0 0) 0 [] :: cl b40_ 83 [(Value.int .i64 x34_.ver), (Value.int .i64 x34_.created_Main), (Value.int .i64 x34_.created_Sub), x34_.revs] :: ro R27_ :: sl 106 4 v116_ ((List.length (N0 ++ T)) + 1) (((N0 ++ T).flatMap GN.cells) ++ [(Value.int .i64 x34_.ver), (Value.int .i64 x34_.created_Main), (Value.int .i64 x34_.created_Sub), (Value.slice a88_ (0 + (List.length x34_.l)) cp89_)]) :: cl b8_ 104 [(Value.slice ka kl kc), (Value.int .i64 m), (Value.int .i64 n), v116_] :: cl b2_ 61 [(Value.int .i64 m), (Value.int .i64 n), v] :: F) := H123_
  have S125_ := Same.trans S120_ S124_
  refine ⟨⟨Holds.rd H123_ 3 rfl, (Holds.ro_at H123_ 4 rfl)⟩, ?_⟩
  refine A_done (by kernel_rfl) ?_
  refine (X_blkN (X_then (hK24_ _ _ ?_)))
  clear hK24_
  refine C_reg ?_
  refine S_list (T_val (v := (Value.int .i64 ((k : Int) + 1))) (x_bin rfl rfl (ib_add (IntWalk.i64_in _ (by omega)))) ?_)
  refine S_list (T_val (v := (Value.int .i64 ((k : Int) + 1))) (x_move rfl) ?_)
  refine wpList_nil ?_
  refine (X_then ?_)
  have H126_ := Holds.resl H123_ 5 rfl (by simp [GN.cells] : ((N0 ++ T).flatMap GN.cells) ++ [(Value.int .i64 x34_.ver), (Value.int .i64 x34_.created_Main), (Value.int .i64 x34_.created_Sub), (Value.slice a88_ (0 + (List.length x34_.l)) cp89_)] = ((N0 ++ T) ++ [(⟨x34_.ver, x34_.created_Main, x34_.created_Sub, ((Value.slice a88_ (0 + (List.length x34_.l)) cp89_)), x34_.l⟩ : GN)]).flatMap GN.cells) (by simp : (List.length (N0 ++ T)) + 1 = (List.length (N0 ++ T) + 1))
  have H127_ := Holds.resl H126_ 5 rfl ((by first | rfl | (simp; done) | (simp; omega)) : ((N0 ++ T) ++ [(⟨x34_.ver, x34_.created_Main, x34_.created_Sub, ((Value.slice a88_ (0 + (List.length x34_.l)) cp89_)), x34_.l⟩ : GN)]).flatMap GN.cells = ((N0 ++ T) ++ [(⟨x34_.ver, x34_.created_Main, x34_.created_Sub, ((Value.slice a88_ (0 + (List.length x34_.l)) cp89_)), x34_.l⟩ : GN)]).flatMap GN.cells) ((by first | rfl | (simp; done) | (simp; omega)) : (List.length (N0 ++ T) + 1) = (List.length ((N0 ++ T) ++ [(⟨x34_.ver, x34_.created_Main, x34_.created_Sub, ((Value.slice a88_ (0 + (List.length x34_.l)) cp89_)), x34_.l⟩ : GN)])))
  have H128_ : Holds w122_ (sl 58 2 (Value.slice a88_ (0 + (List.length x34_.l)) cp89_) (List.length x34_.l) (x34_.l.flatMap RV.cells) :: sl 106 4 v116_ (List.length ((N0 ++ T) ++ [(⟨x34_.ver, x34_.created_Main, x34_.created_Sub, ((Value.slice a88_ (0 + (List.length x34_.l)) cp89_)), x34_.l⟩ : GN)])) (((N0 ++ T) ++ [(⟨x34_.ver, x34_.created_Main, x34_.created_Sub, ((Value.slice a88_ (0 + (List.length x34_.l)) cp89_)), x34_.l⟩ : GN)]).flatMap GN.cells) :: cl b8_ 104 [(Value.slice ka kl kc), (Value.int .i64 m), (Value.int .i64 n), v116_] :: cl b2_ 61 [(Value.int .i64 m), (Value.int .i64 n), v] :: ro R27_ :: F) := (Holds.pkF H127_ [1, 4, 4, 4, 3] 3 :)
  exact ⟨⟨R27_, k + 1, (N0 ++ T), [(⟨x34_.ver, x34_.created_Main, x34_.created_Sub, ((Value.slice a88_ (0 + (List.length x34_.l)) cp89_)), x34_.l⟩ : GN)], v116_, (Value.slice a88_ (0 + (List.length x34_.l)) cp89_), x34_.l⟩, ⟨_, congrArg (fun e => mkA 39 e []) (ch (ch (ch (ch (ch rfl rfl) rfl) rfl) rfl) (congrArg (Value.int .i64) ((by first | rfl | omega | (simp; done) | (simp; omega)) : (k : Int) + 1 = ((k + 1 : Nat) : Int)))), H128_, S125_, (hz_R_R27_), (by first | assumption | omega | exact rfl), (map_m_snoc hm hx35_ rfl), (GOk_app hN hs28_ hT hr33_), (Or.inr ⟨_, _, _, rfl⟩), (fun h => by cases h)⟩, by first | omega | (dsimp only; omega) | (simp; omega)⟩
 ·have c23_fp : ¬ ((k : Int) < ((List.length N) : Int)) := of_decide_eq_false c23_f
  refine C_exit (X_thenX (X_thenX (X_blkHit ?_)))
  refine (X_then (hK13_ _ _ ?_))
  clear hK13_
  refine C_seq (fun K129_ hK129_ => ?_)
  refine C_reg ?_
  refine S_list (T_val (v := (Value.pointer (some ⟨b8_, 0, none⟩))) (x_move rfl) ?_)
  refine S_list (T_val (v := (Value.pointer (some ⟨b8_, 0, none⟩))) (x_assign rfl) ?_)
  refine wpList_nil ?_
  refine (X_then (hK129_ _ _ ?_))
  clear hK129_
  refine C_ret ?_
  refine R_any (v := (Value.pointer (some ⟨b8_, 0, none⟩))) (run_results1 rfl rfl) ?_
  rw [List.take_of_length_le (by omega)] at hm
  have H130_ : Holds w18_ (ro R1 :: cl b8_ 104 [(Value.slice ka kl kc), (Value.int .i64 m), (Value.int .i64 n), gv] :: sl 106 4 gv (List.length (N0 ++ T)) ((N0 ++ T).flatMap GN.cells) :: sl 58 2 lv (List.length ll) (ll.flatMap RV.cells) :: F) := (Holds.pkF H19_ [4, 2, 1, 0] 1 :)
  exact ⟨R1, _, _, rfl, hsR1, ⟨b8_, gv, lv, N0, T, ll, rfl, rfl, (hm), (hN), (hT), (hTN)⟩, S20_, H130_⟩
end Go.Proofs.Ytiblemgccgbhoaa
