/- Operations of a key's index, one behind the other. -/
import Derived.Test.YtiblemgccgbhoaaKyX0
import Derived.Test.YtiblemgccgbhoaaFineG
set_option linter.unusedVariables false
set_option linter.unusedSimpArgs false
namespace Go.Proofs.Ytiblemgccgbhoaa
open Go Go.RowKit Gw

def iRun (s : Int × Int × List GM) (out : List KM) : List KO → Option (List KM)
  | [] => some out
  | o :: r => match iDo s.1 s.2.1 s.2.2 o with | some (s', a) => iRun s' (out ++ [a.to s']) r | none => none
theorem iRun_step {s : Int × Int × List GM} {out res : List KM} {O : List KO} {k : Nat} {x : KO} (h : iRun s out (O.drop k) = some res) (hx : O[k]? = some x) :
    ∃ s' a, iDo s.1 s.2.1 s.2.2 x = some (s', a) ∧ iRun s' (out ++ [a.to s']) (O.drop (k + 1)) = some res := by
  rw [drop_at hx, iRun] at h
  split at h
  · rename_i s' a e
    exact ⟨s', a, e, h⟩
  · cases h
theorem iDo_bd {B : Nat} {m n : Int} {G : List GM} {o : KO} {s : Int × Int × List GM} {a : KM} (hb : GBd B G) (h : iDo m n G o = some (s, a)) : GBd (B + 1) s.2.2 := by
  by_cases h1 : o.kind = 1
  · obtain ⟨_, rfl, _⟩ := iDo_put h1 h
    exact iPut_bd hb
  · by_cases h5 : o.kind = 5
    · obtain ⟨_, rfl, _⟩ := iDo_get h5 h
      refine ⟨by have := hb.1; show G.length ≤ B + 1; omega, fun g hg => ?_⟩
      have := hb.2 g hg
      omega
    · by_cases h6 : o.kind = 6
      · obtain ⟨_, rfl, _⟩ := iDo_since h6 h
        refine ⟨by have := hb.1; show G.length ≤ B + 1; omega, fun g hg => ?_⟩
        have := hb.2 g hg
        omega
      · rw [iDo_no h1 h5 h6] at h; cases h


set_option maxHeartbeats 4000000 in
theorem kKeyLoop (R : HP) (ob ub zb kb : Nat) (ka : Option Addr) (kl kc : Nat) (m0 n0 : Int) (gv0 lv0 ov : Value) (N1 T1 : List GN) (l1 : List RV) (O : List KO) (B : Nat) (res : List KM) (hO : RS R 7 ov (List.length O) (O.flatMap KO.cells)) (hol : O.length ≤ 1000) (hT1 : Tlk T1 lv0 l1) (hTN1 : T1 = [] → N1 = []) (hN1 : ∀ x ∈ N1, GOk R x) (hbd1 : GBd B ((N1 ++ T1).map GN.m)) (hB : B ≤ 10000) (hrun1 : iRun (m0, n0, (N1 ++ T1).map GN.m) [] O = some res) :
    TriG Try.prog 22 #[(Value.pointer (some ⟨ob, 0, none⟩)), (Value.pointer (some ⟨ub, 0, none⟩)), (Value.pointer (some ⟨zb, 0, none⟩))] R [cl ob 22 [ov], cl ub 24 [(Value.slice none 0 0)], cl zb 55 [(Value.pointer (some ⟨kb, 0, none⟩))], cl kb 104 [(Value.slice ka kl kc), (Value.int .i64 m0), (Value.int .i64 n0), gv0], sl 106 4 gv0 (List.length (N1 ++ T1)) ((N1 ++ T1).flatMap GN.cells), sl 58 2 lv0 (List.length l1) (l1.flatMap RV.cells)] (fun R' v__ post__ => ∃ (av : Value) (A : List KA), v__ = (Value.tuple #[]) ∧ post__ = [cl ub 24 [av]] ∧ (RS R' 10 av (List.length A) (A.flatMap KA.cells)) ∧ (∀ x ∈ A, KOk R' x) ∧ (A.map KA.m = res)) := by
 refine TriG.into (n := 19) (al := [(Value.pointer (some ⟨ob, 0, none⟩)), (Value.pointer (some ⟨ub, 0, none⟩)), (Value.pointer (some ⟨zb, 0, none⟩))]) Try.func22 rfl Try.ntmps22 rfl rfl fun w F H => ?_
 refine C_seq (fun K1_ hK1_ => ?_)
 refine C_reg ?_
 refine S_list (T_val (v := (Value.int .i64 0)) (x_assign rfl) ?_)
 refine wpList_nil ?_
 refine (X_then (hK1_ _ _ ?_))
 clear hK1_
 refine C_block ?_
 have H2_ : Holds w (sl 43 10 (Value.slice none 0 0) (List.length ([] : List KA)) (([] : List KA).flatMap KA.cells) :: ro R :: cl ob 22 [ov] :: cl ub 24 [(Value.slice none 0 0)] :: cl zb 55 [(Value.pointer (some ⟨kb, 0, none⟩))] :: cl kb 104 [(Value.slice ka kl kc), (Value.int .i64 m0), (Value.int .i64 n0), gv0] :: sl 106 4 gv0 (List.length (N1 ++ T1)) ((N1 ++ T1).flatMap GN.cells) :: sl 58 2 lv0 (List.length l1) (l1.flatMap RV.cells) :: F) := Holds.add_nil H 43 10
 have H3_ := Holds.recl H2_ 3 rfl ((lcons (rfl : (Value.slice none 0 0) = ((Value.slice none 0 0))) rfl) : [(Value.slice none 0 0)] = [((Value.slice none 0 0))])
 refine C_loop (γ := HP × Nat × Int × Int × Value × Value × Value × (List GN) × (List GN) × (List RV) × (List KA)) (fun x__ a__ w1__ => match x__ with | ⟨R1, k, m, n, gv, lv, av, N0, T, ll, A⟩ => ∃ h : Env, a__ = mkA 19 (upd (upd (upd (upd h 0 (Value.pointer (some ⟨ob, 0, none⟩))) 1 (Value.pointer (some ⟨ub, 0, none⟩))) 2 (Value.pointer (some ⟨zb, 0, none⟩))) 3 (Value.int .i64 (k : Int))) [] ∧ Holds w1__ (sl 43 10 av (List.length A) (A.flatMap KA.cells) :: ro R1 :: cl ob 22 [ov] :: cl ub 24 [av] :: cl zb 55 [(Value.pointer (some ⟨kb, 0, none⟩))] :: cl kb 104 [(Value.slice ka kl kc), (Value.int .i64 m), (Value.int .i64 n), gv] :: sl 106 4 gv (List.length (N0 ++ T)) ((N0 ++ T).flatMap GN.cells) :: sl 58 2 lv (List.length ll) (ll.flatMap RV.cells) :: F) ∧ Same w w1__ ∧ (Sub R R1) ∧ (k ≤ O.length) ∧ (Tlk T lv ll) ∧ (T = [] → N0 = []) ∧ (∀ x ∈ N0, GOk R1 x) ∧ (GBd (B + k) ((N0 ++ T).map GN.m)) ∧ (∀ x ∈ A, KOk R1 x) ∧ (A.length = k) ∧ (iRun (m, n, (N0 ++ T).map GN.m) (A.map KA.m) (O.drop k) = some res)) (fun x__ => match x__ with | ⟨R1, k, m, n, gv, lv, av, N0, T, ll, A⟩ => O.length - k) (⟨R, 0, m0, n0, gv0, lv0, (Value.slice none 0 0), N1, T1, l1, ([] : List KA)⟩) ⟨_, congrArg (fun e => mkA 19 e []) (ch (ch (ch (ch rfl rfl) rfl) rfl) (congrArg (Value.int .i64) ((by first | rfl | omega | (simp; done) | (simp; omega)) : 0 = (0 : Int)))), H3_, (Same.refl w), (Sub.rfl' _), (by first | assumption | omega | exact rfl), (hT1), (hTN1), (hN1), (hbd1), (fun x hx => by cases hx), (rfl), (hrun1)⟩ ?_
 rintro ⟨R1, k, m, n, gv, lv, av, N0, T, ll, A⟩ _ w4_ ⟨h, rfl, H5_, S6_, hsR1, hk, hT, hTN, hN, hbd, hA, hAk, hrun⟩
 refine C_seq (fun K7_ hK7_ => ?_)
 refine C_seq (fun K8_ hK8_ => ?_)
 refine C_reg ?_
 refine S_list (T_val (v := (Value.int .i64 (k : Int))) (x_move rfl) ?_)
 refine S_list (T_val (v := ov) (x_load1 rfl Try.underlying22 rfl ((Holds.rd H5_ 2 rfl) 0 ov rfl)) ?_)
 refine S_list (T_val (v := (Value.int .i64 ((List.length O) : Int))) (x_lenRS rfl (RS.mono hO hsR1) Try.underlying22) ?_)
 refine S_list (T_val (v := (Value.bool (decide ((k : Int) < ((List.length O) : Int))))) (x_bin rfl rfl rfl) ?_)
 refine wpList_nil ?_
 refine (X_then (hK8_ _ _ ?_))
 clear hK8_
 refine C_cond (b := decide ((k : Int) < ((List.length O) : Int))) rfl (fun c9_t => ?_) (fun c9_f => ?_)
 ·have c9_tp : (k : Int) < ((List.length O) : Int) := of_decide_eq_true c9_t
  refine C_skip (X_then (hK7_ _ _ ?_))
  clear hK7_
  refine C_seq (fun K10_ hK10_ => ?_)
  refine C_block ?_
  refine A_start (S := fun w => Rd ob [ov] w ∧ Rd zb [(Value.pointer (some ⟨kb, 0, none⟩))] w ∧ Sub R1 (hp w)) (N := 10) foll rfl rfl ?_
  have H11_ := Holds.drew_ H5_
  have hq12_ := And.intro (Holds.rd H11_ 2 rfl) (And.intro (Holds.rd H11_ 4 rfl) ((Holds.ro_at H11_ 1 rfl)))
  refine A_tk 1 (v := (Value.agg #[(Value.pointer (some ⟨kb, 0, none⟩))])) rfl (by kernel_rfl) (fun w hS => x_loadN (vs := [(Value.pointer (some ⟨kb, 0, none⟩))]) rfl Try.underlying55 rfl z55 rfl (Rd.cells hS.2.1 0 rfl)) hq12_ ?_
  refine A_tk 2 (v := ov) rfl (by kernel_rfl) (fun w hS => x_load1 rfl Try.underlying22 rfl (hS.1 0 ov rfl)) hq12_ ?_
  refine A_tk 3 (v := (Value.int .i64 (k : Int))) rfl (by kernel_rfl) (fun w hS => x_move rfl) hq12_ ?_
  obtain ⟨x13_, hx14_, hm15_⟩ := elem_at O k (by omega)
  refine A_tk 4 (v := (Value.pointer (some ⟨(sb ov), so ov + (k * 7 + 0), none⟩))) rfl (by kernel_rfl) (fun w hS => x_idxRS (v := ov) rfl (RS.mono hO hsR1) rfl Try.underlying22 z39 (by omega) (by omega) (by omega : _ = k) rfl) hq12_ ?_
  refine A_tk 5 (v := (Value.agg #[(Value.int .i64 x13_.kind), (Value.int .i64 x13_.rev_Main), (Value.int .i64 x13_.rev_Sub), (Value.int .i64 x13_.created_Main), (Value.int .i64 x13_.created_Sub), (Value.int .i64 x13_.ver), (Value.int .i64 x13_.at_)])) rfl (by kernel_rfl) (fun w hS => x_loadN (vs := [(Value.int .i64 x13_.kind), (Value.int .i64 x13_.rev_Main), (Value.int .i64 x13_.rev_Sub), (Value.int .i64 x13_.created_Main), (Value.int .i64 x13_.created_Sub), (Value.int .i64 x13_.ver), (Value.int .i64 x13_.at_)]) rfl Try.underlying39 rfl z39 rfl (RC.cells (RS.rc (RS.mono hO hsR1)) hS.2.2 (k * 7 + 0) (fm_cells KO.len hx14_ (i := 0) rfl))) hq12_ ?_
  refine A_ready (i := 0) (rs := [6]) (by kernel_rfl) ?_
  refine AllR.cons ?_ ?_
  ·skip
   refine A_op (ls' := #[true, true, true, true, true, true, false, false, false, false]) rfl (by kernel_rfl) (T_val (v := av) (x_load1 rfl Try.underlying24 rfl ((Holds.rd H11_ 3 rfl) 0 av rfl)) ?_)
   refine ⟨⟨Holds.rd H11_ 2 rfl, Holds.rd H11_ 4 rfl, (Holds.ro_at H11_ 1 rfl)⟩, ?_⟩
   refine A_ready (i := 6) (rs := []) (by kernel_rfl) ?_
   refine AllR.cons ?_ AllR.nil
   obtain ⟨s1_, a1_, hd_, hr_⟩ := iRun_step hrun hx14_
   have hbd3_ := iDo_bd hbd hd_
   have H42_ := ((Holds.bring (Holds.bring (Holds.bring (Holds.bring H11_ 7 rfl) 7 rfl) 7 rfl) 4 rfl) :)
   replace H42_ : Holds w4_.drew (ro R1 :: cl kb 104 [(Value.slice ka kl kc), (Value.int .i64 m), (Value.int .i64 n), gv] :: sl 106 4 gv (List.length (N0 ++ T)) ((N0 ++ T).flatMap GN.cells) :: sl 58 2 lv (List.length ll) (ll.flatMap RV.cells) :: sl 43 10 av (List.length A) (A.flatMap KA.cells) :: cl ob 22 [ov] :: cl ub 24 [av] :: cl zb 55 [(Value.pointer (some ⟨kb, 0, none⟩))] :: F) := H42_
   refine A_op (ls' := #[true, true, true, true, true, true, true, false, false, false]) rfl (by kernel_rfl) (T_callG (al := [(Value.agg #[(Value.pointer (some ⟨kb, 0, none⟩))]), (Value.agg #[(Value.int .i64 x13_.kind), (Value.int .i64 x13_.rev_Main), (Value.int .i64 x13_.rev_Sub), (Value.int .i64 x13_.created_Main), (Value.int .i64 x13_.created_Sub), (Value.int .i64 x13_.ver), (Value.int .i64 x13_.at_)])]) (pre := [cl kb 104 [(Value.slice ka kl kc), (Value.int .i64 m), (Value.int .i64 n), gv], sl 106 4 gv (List.length (N0 ++ T)) ((N0 ++ T).flatMap GN.cells), sl 58 2 lv (List.length ll) (ll.flatMap RV.cells)]) rfl rfl cb23 (kKeyed R1 kb ka kl kc m n gv lv N0 T ll x13_ (B + k) s1_ a1_ (by first | assumption | omega) (by first | assumption | omega) (hN) (by first | assumption | omega) (by omega) (hd_)) H42_ ?_)
   rintro R17_ v18_ p46_ w43_ hs16_ ⟨gv19_, lv20_, N021_, T22_, ll23_, xo24_, x125_, x226_, x327_, x428_, x529_, xr30_, xm31_, xn32_, xg33_, rl34_, gl35_, rfl, rfl, he36_, he37_, he38_, he39_, he40_, he41_⟩ S45_ H44_
   have S47_ := Same.trans (Same.trans S6_ (Same.drew _)) S45_
   have hz_R_R17_ := Sub.trans' hsR1 hs16_
   refine ⟨⟨Holds.rd H44_ 5 rfl, Holds.rd H44_ 7 rfl, (Sub.trans' hs16_ (Holds.ro_at H44_ 0 rfl))⟩, ?_⟩
   refine A_ready (i := 7) (rs := []) (by kernel_rfl) ?_
   refine AllR.cons ?_ AllR.nil
   refine A_op (ls' := #[true, true, true, true, true, true, true, true, false, false]) rfl (by kernel_rfl) (T_new (obj := .cells #[(Value.bool xo24_), (Value.int .i64 x125_), (Value.int .i64 x226_), (Value.int .i64 x327_), (Value.int .i64 x428_), (Value.int .i64 x529_), xr30_, (Value.int .i64 xm31_), (Value.int .i64 xn32_), xg33_] 43) (f := fun b__ => .slice (some ⟨b__, 0, none⟩) 1 1) (A := fun b__ => cl b__ 43 [(Value.bool xo24_), (Value.int .i64 x125_), (Value.int .i64 x226_), (Value.int .i64 x327_), (Value.int .i64 x428_), (Value.int .i64 x529_), xr30_, (Value.int .i64 xm31_), (Value.int .i64 xn32_), xg33_]) (by kernel_rfl) (fun l h => h.alloc _ _) H44_ ?_)
   intro b48_ w49_ S51_ H50_
   have S52_ := Same.trans S47_ S51_
   refine ⟨⟨Holds.rd H50_ 6 rfl, Holds.rd H50_ 8 rfl, (Sub.trans' hs16_ (Holds.ro_at H50_ 1 rfl))⟩, ?_⟩
   refine A_ready (i := 8) (rs := []) (by kernel_rfl) ?_
   refine AllR.cons ?_ AllR.nil
   refine A_op (ls' := #[true, true, true, true, true, true, true, true, true, false]) rfl (by kernel_rfl) (T_append rfl rfl Try.underlying24 z43 rfl (by decide) H50_ 5 rfl (Holds.cl_src H50_ 0 rfl Try.underlying24 (List.forall_mem_cons.2 ⟨rfl, (List.forall_mem_cons.2 ⟨rfl, (List.forall_mem_cons.2 ⟨rfl, (List.forall_mem_cons.2 ⟨rfl, (List.forall_mem_cons.2 ⟨rfl, (List.forall_mem_cons.2 ⟨rfl, (List.forall_mem_cons.2 ⟨(RS.one he40_.1), (List.forall_mem_cons.2 ⟨rfl, (List.forall_mem_cons.2 ⟨rfl, (List.forall_mem_cons.2 ⟨(RS.one he40_.2.1), (fun _ h__ => by cases h__)⟩)⟩)⟩)⟩)⟩)⟩)⟩)⟩)⟩)⟩) rfl) (by omega) ?_)
   intro v53_ w54_ S56_ H55_
   replace H55_ : Holds w54_ (cl b48_ 43 [(Value.bool xo24_), (Value.int .i64 x125_), (Value.int .i64 x226_), (Value.int .i64 x327_), (Value.int .i64 x428_), (Value.int .i64 x529_), xr30_, (Value.int .i64 xm31_), (Value.int .i64 xn32_), xg33_] :: ro R17_ :: cl kb 104 [(Value.slice ka kl kc), (Value.int .i64 s1_.1), (Value.int .i64 s1_.2.1), gv19_] :: sl 106 4 gv19_ (List.length (N021_ ++ T22_)) ((N021_ ++ T22_).flatMap GN.cells) :: sl 58 2 lv20_ (List.length ll23_) (ll23_.flatMap RV.cells) :: sl 43 10 v53_ ((List.length A) + 1) ((A.flatMap KA.cells) ++ [(Value.bool xo24_), (Value.int .i64 x125_), (Value.int .i64 x226_), (Value.int .i64 x327_), (Value.int .i64 x428_), (Value.int .i64 x529_), xr30_, (Value.int .i64 xm31_), (Value.int .i64 xn32_), xg33_]) :: cl ob 22 [ov] :: cl ub 24 [av] :: cl zb 55 [(Value.pointer (some ⟨kb, 0, none⟩))] :: F) := H55_
   have S57_ := Same.trans S52_ S56_
   refine ⟨⟨Holds.rd H55_ 6 rfl, Holds.rd H55_ 8 rfl, (Sub.trans' hs16_ (Holds.ro_at H55_ 1 rfl))⟩, ?_⟩
   refine A_ready (i := 9) (rs := []) (by kernel_rfl) ?_
   refine AllR.cons ?_ AllR.nil
   refine A_op0 (ls' := #[true, true, true, true, true, true, true, true, true, true]) rfl (by kernel_rfl) (T_store1 (v := v53_) rfl rfl z24 (Holds.sl_one H55_ 5 rfl) H55_ 7 rfl (Nat.le_of_ble_eq_true (by rfl)) ?_)
   intro w58_ S60_ H59_
   have S61_ := Same.trans S57_ S60_
   refine ⟨⟨Holds.rd H59_ 6 rfl, Holds.rd H59_ 8 rfl, (Sub.trans' hs16_ (Holds.ro_at H59_ 1 rfl))⟩, ?_⟩
   refine A_done (by kernel_rfl) ?_
   refine (X_blkN (X_then (hK10_ _ _ ?_)))
   clear hK10_
   refine C_reg ?_
   refine S_list (T_val (v := (Value.int .i64 (k : Int))) (x_move rfl) ?_)
   refine S_list (T_val (v := (Value.int .i64 ((k : Int) + 1))) (x_bin rfl rfl (ib_add (IntWalk.i64_in _ (by omega)))) ?_)
   refine S_list (T_val (v := (Value.int .i64 ((k : Int) + 1))) (x_assign rfl) ?_)
   refine wpList_nil ?_
   refine (X_then ?_)
   have H62_ := Holds.resl H59_ 5 rfl (by simp [KA.cells] : (A.flatMap KA.cells) ++ [(Value.bool xo24_), (Value.int .i64 x125_), (Value.int .i64 x226_), (Value.int .i64 x327_), (Value.int .i64 x428_), (Value.int .i64 x529_), xr30_, (Value.int .i64 xm31_), (Value.int .i64 xn32_), xg33_] = (A ++ [(⟨xo24_, x125_, x226_, x327_, x428_, x529_, xr30_, xm31_, xn32_, xg33_, rl34_, gl35_⟩ : KA)]).flatMap KA.cells) (by simp : (List.length A) + 1 = (List.length (A ++ [(⟨xo24_, x125_, x226_, x327_, x428_, x529_, xr30_, xm31_, xn32_, xg33_, rl34_, gl35_⟩ : KA)])))
   have H63_ : Holds w58_ (sl 43 10 v53_ (List.length (A ++ [(⟨xo24_, x125_, x226_, x327_, x428_, x529_, xr30_, xm31_, xn32_, xg33_, rl34_, gl35_⟩ : KA)])) ((A ++ [(⟨xo24_, x125_, x226_, x327_, x428_, x529_, xr30_, xm31_, xn32_, xg33_, rl34_, gl35_⟩ : KA)]).flatMap KA.cells) :: ro R17_ :: cl ob 22 [ov] :: cl ub 24 [v53_] :: cl zb 55 [(Value.pointer (some ⟨kb, 0, none⟩))] :: cl kb 104 [(Value.slice ka kl kc), (Value.int .i64 s1_.1), (Value.int .i64 s1_.2.1), gv19_] :: sl 106 4 gv19_ (List.length (N021_ ++ T22_)) ((N021_ ++ T22_).flatMap GN.cells) :: sl 58 2 lv20_ (List.length ll23_) (ll23_.flatMap RV.cells) :: F) := (Holds.pkF H62_ [5, 1, 4, 4, 4, 1, 1, 1] 1 :)
   exact ⟨⟨R17_, k + 1, s1_.1, s1_.2.1, gv19_, lv20_, v53_, N021_, T22_, ll23_, (A ++ [(⟨xo24_, x125_, x226_, x327_, x428_, x529_, xr30_, xm31_, xn32_, xg33_, rl34_, gl35_⟩ : KA)])⟩, ⟨_, congrArg (fun e => mkA 19 e []) (ch (ch (ch (ch rfl rfl) rfl) rfl) (congrArg (Value.int .i64) ((by first | rfl | omega | (simp; done) | (simp; omega)) : (k : Int) + 1 = ((k + 1 : Nat) : Int)))), H63_, S61_, (hz_R_R17_), (by first | assumption | omega | exact rfl), (he37_), (he38_), (he39_), (by rw [he36_]; exact hbd3_), (all_snoc (fun x hx => (hA x hx).mono hs16_) he40_), (by simp; omega), (by rw [he36_, List.map_append, List.map_singleton, he41_]; exact hr_)⟩, by first | omega | (dsimp only; omega) | (simp; omega)⟩
  refine AllR.cons ?_ AllR.nil
  obtain ⟨s1_, a1_, hd_, hr_⟩ := iRun_step hrun hx14_
  have hbd3_ := iDo_bd hbd hd_
  have H90_ := ((Holds.bring (Holds.bring (Holds.bring (Holds.bring H11_ 7 rfl) 7 rfl) 7 rfl) 4 rfl) :)
  refine A_op (ls' := #[false, true, true, true, true, true, true, false, false, false]) rfl (by kernel_rfl) (T_callG (al := [(Value.agg #[(Value.pointer (some ⟨kb, 0, none⟩))]), (Value.agg #[(Value.int .i64 x13_.kind), (Value.int .i64 x13_.rev_Main), (Value.int .i64 x13_.rev_Sub), (Value.int .i64 x13_.created_Main), (Value.int .i64 x13_.created_Sub), (Value.int .i64 x13_.ver), (Value.int .i64 x13_.at_)])]) (pre := [cl kb 104 [(Value.slice ka kl kc), (Value.int .i64 m), (Value.int .i64 n), gv], sl 106 4 gv (List.length (N0 ++ T)) ((N0 ++ T).flatMap GN.cells), sl 58 2 lv (List.length ll) (ll.flatMap RV.cells)]) rfl rfl cb23 (kKeyed R1 kb ka kl kc m n gv lv N0 T ll x13_ (B + k) s1_ a1_ (by first | assumption | omega) (by first | assumption | omega) (hN) (by first | assumption | omega) (by omega) (hd_)) H90_ ?_)
  rintro R65_ v66_ p94_ w91_ hs64_ ⟨gv67_, lv68_, N069_, T70_, ll71_, xo72_, x173_, x274_, x375_, x476_, x577_, xr78_, xm79_, xn80_, xg81_, rl82_, gl83_, rfl, rfl, he84_, he85_, he86_, he87_, he88_, he89_⟩ S93_ H92_
  have S95_ := Same.trans (Same.trans S6_ (Same.drew _)) S93_
  have hz_R_R65_ := Sub.trans' hsR1 hs64_
  refine ⟨⟨Holds.rd H92_ 5 rfl, Holds.rd H92_ 7 rfl, (Sub.trans' hs64_ (Holds.ro_at H92_ 0 rfl))⟩, ?_⟩
  refine A_ready (i := 0) (rs := [7]) (by kernel_rfl) ?_
  refine AllR.cons ?_ ?_
  ·skip
   refine A_op (ls' := #[true, true, true, true, true, true, true, false, false, false]) rfl (by kernel_rfl) (T_val (v := av) (x_load1 rfl Try.underlying24 rfl ((Holds.rd H92_ 6 rfl) 0 av rfl)) ?_)
   refine ⟨⟨Holds.rd H92_ 5 rfl, Holds.rd H92_ 7 rfl, (Sub.trans' hs64_ (Holds.ro_at H92_ 0 rfl))⟩, ?_⟩
   refine A_ready (i := 7) (rs := []) (by kernel_rfl) ?_
   refine AllR.cons ?_ AllR.nil
   refine A_op (ls' := #[true, true, true, true, true, true, true, true, false, false]) rfl (by kernel_rfl) (T_new (obj := .cells #[(Value.bool xo72_), (Value.int .i64 x173_), (Value.int .i64 x274_), (Value.int .i64 x375_), (Value.int .i64 x476_), (Value.int .i64 x577_), xr78_, (Value.int .i64 xm79_), (Value.int .i64 xn80_), xg81_] 43) (f := fun b__ => .slice (some ⟨b__, 0, none⟩) 1 1) (A := fun b__ => cl b__ 43 [(Value.bool xo72_), (Value.int .i64 x173_), (Value.int .i64 x274_), (Value.int .i64 x375_), (Value.int .i64 x476_), (Value.int .i64 x577_), xr78_, (Value.int .i64 xm79_), (Value.int .i64 xn80_), xg81_]) (by kernel_rfl) (fun l h => h.alloc _ _) H92_ ?_)
   intro b96_ w97_ S99_ H98_
   replace H98_ : Holds w97_ (cl b96_ 43 [(Value.bool xo72_), (Value.int .i64 x173_), (Value.int .i64 x274_), (Value.int .i64 x375_), (Value.int .i64 x476_), (Value.int .i64 x577_), xr78_, (Value.int .i64 xm79_), (Value.int .i64 xn80_), xg81_] :: ro R65_ :: cl kb 104 [(Value.slice ka kl kc), (Value.int .i64 s1_.1), (Value.int .i64 s1_.2.1), gv67_] :: sl 106 4 gv67_ (List.length (N069_ ++ T70_)) ((N069_ ++ T70_).flatMap GN.cells) :: sl 58 2 lv68_ (List.length ll71_) (ll71_.flatMap RV.cells) :: sl 43 10 av (List.length A) (A.flatMap KA.cells) :: cl ob 22 [ov] :: cl ub 24 [av] :: cl zb 55 [(Value.pointer (some ⟨kb, 0, none⟩))] :: F) := H98_
   have S100_ := Same.trans S95_ S99_
   refine ⟨⟨Holds.rd H98_ 6 rfl, Holds.rd H98_ 8 rfl, (Sub.trans' hs64_ (Holds.ro_at H98_ 1 rfl))⟩, ?_⟩
   refine A_ready (i := 8) (rs := []) (by kernel_rfl) ?_
   refine AllR.cons ?_ AllR.nil
   refine A_op (ls' := #[true, true, true, true, true, true, true, true, true, false]) rfl (by kernel_rfl) (T_append rfl rfl Try.underlying24 z43 rfl (by decide) H98_ 5 rfl (Holds.cl_src H98_ 0 rfl Try.underlying24 (List.forall_mem_cons.2 ⟨rfl, (List.forall_mem_cons.2 ⟨rfl, (List.forall_mem_cons.2 ⟨rfl, (List.forall_mem_cons.2 ⟨rfl, (List.forall_mem_cons.2 ⟨rfl, (List.forall_mem_cons.2 ⟨rfl, (List.forall_mem_cons.2 ⟨(RS.one he88_.1), (List.forall_mem_cons.2 ⟨rfl, (List.forall_mem_cons.2 ⟨rfl, (List.forall_mem_cons.2 ⟨(RS.one he88_.2.1), (fun _ h__ => by cases h__)⟩)⟩)⟩)⟩)⟩)⟩)⟩)⟩)⟩)⟩) rfl) (by omega) ?_)
   intro v101_ w102_ S104_ H103_
   have S105_ := Same.trans S100_ S104_
   refine ⟨⟨Holds.rd H103_ 6 rfl, Holds.rd H103_ 8 rfl, (Sub.trans' hs64_ (Holds.ro_at H103_ 1 rfl))⟩, ?_⟩
   refine A_ready (i := 9) (rs := []) (by kernel_rfl) ?_
   refine AllR.cons ?_ AllR.nil
   refine A_op0 (ls' := #[true, true, true, true, true, true, true, true, true, true]) rfl (by kernel_rfl) (T_store1 (v := v101_) rfl rfl z24 (Holds.sl_one H103_ 5 rfl) H103_ 7 rfl (Nat.le_of_ble_eq_true (by rfl)) ?_)
   intro w106_ S108_ H107_
   have S109_ := Same.trans S105_ S108_
   refine ⟨⟨Holds.rd H107_ 6 rfl, Holds.rd H107_ 8 rfl, (Sub.trans' hs64_ (Holds.ro_at H107_ 1 rfl))⟩, ?_⟩
   refine A_done (by kernel_rfl) ?_
   refine (X_blkN (X_then (hK10_ _ _ ?_)))
   clear hK10_
   refine C_reg ?_
   refine S_list (T_val (v := (Value.int .i64 (k : Int))) (x_move rfl) ?_)
   refine S_list (T_val (v := (Value.int .i64 ((k : Int) + 1))) (x_bin rfl rfl (ib_add (IntWalk.i64_in _ (by omega)))) ?_)
   refine S_list (T_val (v := (Value.int .i64 ((k : Int) + 1))) (x_assign rfl) ?_)
   refine wpList_nil ?_
   refine (X_then ?_)
   have H110_ := Holds.resl H107_ 5 rfl (by simp [KA.cells] : (A.flatMap KA.cells) ++ [(Value.bool xo72_), (Value.int .i64 x173_), (Value.int .i64 x274_), (Value.int .i64 x375_), (Value.int .i64 x476_), (Value.int .i64 x577_), xr78_, (Value.int .i64 xm79_), (Value.int .i64 xn80_), xg81_] = (A ++ [(⟨xo72_, x173_, x274_, x375_, x476_, x577_, xr78_, xm79_, xn80_, xg81_, rl82_, gl83_⟩ : KA)]).flatMap KA.cells) (by simp : (List.length A) + 1 = (List.length (A ++ [(⟨xo72_, x173_, x274_, x375_, x476_, x577_, xr78_, xm79_, xn80_, xg81_, rl82_, gl83_⟩ : KA)])))
   have H111_ : Holds w106_ (sl 43 10 v101_ (List.length (A ++ [(⟨xo72_, x173_, x274_, x375_, x476_, x577_, xr78_, xm79_, xn80_, xg81_, rl82_, gl83_⟩ : KA)])) ((A ++ [(⟨xo72_, x173_, x274_, x375_, x476_, x577_, xr78_, xm79_, xn80_, xg81_, rl82_, gl83_⟩ : KA)]).flatMap KA.cells) :: ro R65_ :: cl ob 22 [ov] :: cl ub 24 [v101_] :: cl zb 55 [(Value.pointer (some ⟨kb, 0, none⟩))] :: cl kb 104 [(Value.slice ka kl kc), (Value.int .i64 s1_.1), (Value.int .i64 s1_.2.1), gv67_] :: sl 106 4 gv67_ (List.length (N069_ ++ T70_)) ((N069_ ++ T70_).flatMap GN.cells) :: sl 58 2 lv68_ (List.length ll71_) (ll71_.flatMap RV.cells) :: F) := (Holds.pkF H110_ [5, 1, 4, 4, 4, 1, 1, 1] 1 :)
   exact ⟨⟨R65_, k + 1, s1_.1, s1_.2.1, gv67_, lv68_, v101_, N069_, T70_, ll71_, (A ++ [(⟨xo72_, x173_, x274_, x375_, x476_, x577_, xr78_, xm79_, xn80_, xg81_, rl82_, gl83_⟩ : KA)])⟩, ⟨_, congrArg (fun e => mkA 19 e []) (ch (ch (ch (ch rfl rfl) rfl) rfl) (congrArg (Value.int .i64) ((by first | rfl | omega | (simp; done) | (simp; omega)) : (k : Int) + 1 = ((k + 1 : Nat) : Int)))), H111_, S109_, (hz_R_R65_), (by first | assumption | omega | exact rfl), (he85_), (he86_), (he87_), (by rw [he84_]; exact hbd3_), (all_snoc (fun x hx => (hA x hx).mono hs64_) he88_), (by simp; omega), (by rw [he84_, List.map_append, List.map_singleton, he89_]; exact hr_)⟩, by first | omega | (dsimp only; omega) | (simp; omega)⟩
  refine AllR.cons ?_ AllR.nil
  refine A_op (ls' := #[false, true, true, true, true, true, true, true, false, false]) rfl (by kernel_rfl) (T_new (obj := .cells #[(Value.bool xo72_), (Value.int .i64 x173_), (Value.int .i64 x274_), (Value.int .i64 x375_), (Value.int .i64 x476_), (Value.int .i64 x577_), xr78_, (Value.int .i64 xm79_), (Value.int .i64 xn80_), xg81_] 43) (f := fun b__ => .slice (some ⟨b__, 0, none⟩) 1 1) (A := fun b__ => cl b__ 43 [(Value.bool xo72_), (Value.int .i64 x173_), (Value.int .i64 x274_), (Value.int .i64 x375_), (Value.int .i64 x476_), (Value.int .i64 x577_), xr78_, (Value.int .i64 xm79_), (Value.int .i64 xn80_), xg81_]) (by kernel_rfl) (fun l h => h.alloc _ _) H92_ ?_)
  intro b112_ w113_ S115_ H114_
  have S116_ := Same.trans S95_ S115_
  refine ⟨⟨Holds.rd H114_ 6 rfl, Holds.rd H114_ 8 rfl, (Sub.trans' hs64_ (Holds.ro_at H114_ 1 rfl))⟩, ?_⟩
  refine A_ready (i := 0) (rs := []) (by kernel_rfl) ?_
  refine AllR.cons ?_ AllR.nil
  refine A_op (ls' := #[true, true, true, true, true, true, true, true, false, false]) rfl (by kernel_rfl) (T_val (v := av) (x_load1 rfl Try.underlying24 rfl ((Holds.rd H114_ 7 rfl) 0 av rfl)) ?_)
  refine ⟨⟨Holds.rd H114_ 6 rfl, Holds.rd H114_ 8 rfl, (Sub.trans' hs64_ (Holds.ro_at H114_ 1 rfl))⟩, ?_⟩
  refine A_ready (i := 8) (rs := []) (by kernel_rfl) ?_
  refine AllR.cons ?_ AllR.nil
  refine A_op (ls' := #[true, true, true, true, true, true, true, true, true, false]) rfl (by kernel_rfl) (T_append rfl rfl Try.underlying24 z43 rfl (by decide) H114_ 5 rfl (Holds.cl_src H114_ 0 rfl Try.underlying24 (List.forall_mem_cons.2 ⟨rfl, (List.forall_mem_cons.2 ⟨rfl, (List.forall_mem_cons.2 ⟨rfl, (List.forall_mem_cons.2 ⟨rfl, (List.forall_mem_cons.2 ⟨rfl, (List.forall_mem_cons.2 ⟨rfl, (List.forall_mem_cons.2 ⟨(RS.one he88_.1), (List.forall_mem_cons.2 ⟨rfl, (List.forall_mem_cons.2 ⟨rfl, (List.forall_mem_cons.2 ⟨(RS.one he88_.2.1), (fun _ h__ => by cases h__)⟩)⟩)⟩)⟩)⟩)⟩)⟩)⟩)⟩)⟩) rfl) (by omega) ?_)
  intro v117_ w118_ S120_ H119_
  have S121_ := Same.trans S116_ S120_
  refine ⟨⟨Holds.rd H119_ 6 rfl, Holds.rd H119_ 8 rfl, (Sub.trans' hs64_ (Holds.ro_at H119_ 1 rfl))⟩, ?_⟩
  refine A_ready (i := 9) (rs := []) (by kernel_rfl) ?_
  refine AllR.cons ?_ AllR.nil
  refine A_op0 (ls' := #[true, true, true, true, true, true, true, true, true, true]) rfl (by kernel_rfl) (T_store1 (v := v117_) rfl rfl z24 (Holds.sl_one H119_ 5 rfl) H119_ 7 rfl (Nat.le_of_ble_eq_true (by rfl)) ?_)
  intro w122_ S124_ H123_
  replace H123_ : Holds w122_ (cl b112_ 43 [(Value.bool xo72_), (Value.int .i64 x173_), (Value.int .i64 x274_), (Value.int .i64 x375_), (Value.int .i64 x476_), (Value.int .i64 x577_), xr78_, (Value.int .i64 xm79_), (Value.int .i64 xn80_), xg81_] :: ro R65_ :: cl kb 104 [(Value.slice ka kl kc), (Value.int .i64 s1_.1), (Value.int .i64 s1_.2.1), gv67_] :: sl 106 4 gv67_ (List.length (N069_ ++ T70_)) ((N069_ ++ T70_).flatMap GN.cells) :: sl 58 2 lv68_ (List.length ll71_) (ll71_.flatMap RV.cells) :: sl 43 10 v117_ ((List.length A) + 1) ((A.flatMap KA.cells) ++ [(Value.bool xo72_), (Value.int .i64 x173_), (Value.int .i64 x274_), (Value.int .i64 x375_), (Value.int .i64 x476_), (Value.int .i64 x577_), xr78_, (Value.int .i64 xm79_), (Value.int .i64 xn80_), xg81_]) :: cl ob 22 [ov] :: cl ub 24 [v117_] :: cl zb 55 [(Value.pointer (some ⟨kb, 0, none⟩))] :: F) := H123_
  have S125_ := Same.trans S121_ S124_
  refine ⟨⟨Holds.rd H123_ 6 rfl, Holds.rd H123_ 8 rfl, (Sub.trans' hs64_ (Holds.ro_at H123_ 1 rfl))⟩, ?_⟩
  refine A_done (by kernel_rfl) ?_
  refine (X_blkN (X_then (hK10_ _ _ ?_)))
  clear hK10_
  refine C_reg ?_
  refine S_list (T_val (v := (Value.int .i64 (k : Int))) (x_move rfl) ?_)
  refine S_list (T_val (v := (Value.int .i64 ((k : Int) + 1))) (x_bin rfl rfl (ib_add (IntWalk.i64_in _ (by omega)))) ?_)
  refine S_list (T_val (v := (Value.int .i64 ((k : Int) + 1))) (x_assign rfl) ?_)
  refine wpList_nil ?_
  refine (X_then ?_)
  have H126_ := Holds.resl H123_ 5 rfl (by simp [KA.cells] : (A.flatMap KA.cells) ++ [(Value.bool xo72_), (Value.int .i64 x173_), (Value.int .i64 x274_), (Value.int .i64 x375_), (Value.int .i64 x476_), (Value.int .i64 x577_), xr78_, (Value.int .i64 xm79_), (Value.int .i64 xn80_), xg81_] = (A ++ [(⟨xo72_, x173_, x274_, x375_, x476_, x577_, xr78_, xm79_, xn80_, xg81_, rl82_, gl83_⟩ : KA)]).flatMap KA.cells) (by simp : (List.length A) + 1 = (List.length (A ++ [(⟨xo72_, x173_, x274_, x375_, x476_, x577_, xr78_, xm79_, xn80_, xg81_, rl82_, gl83_⟩ : KA)])))
  have H127_ : Holds w122_ (sl 43 10 v117_ (List.length (A ++ [(⟨xo72_, x173_, x274_, x375_, x476_, x577_, xr78_, xm79_, xn80_, xg81_, rl82_, gl83_⟩ : KA)])) ((A ++ [(⟨xo72_, x173_, x274_, x375_, x476_, x577_, xr78_, xm79_, xn80_, xg81_, rl82_, gl83_⟩ : KA)]).flatMap KA.cells) :: ro R65_ :: cl ob 22 [ov] :: cl ub 24 [v117_] :: cl zb 55 [(Value.pointer (some ⟨kb, 0, none⟩))] :: cl kb 104 [(Value.slice ka kl kc), (Value.int .i64 s1_.1), (Value.int .i64 s1_.2.1), gv67_] :: sl 106 4 gv67_ (List.length (N069_ ++ T70_)) ((N069_ ++ T70_).flatMap GN.cells) :: sl 58 2 lv68_ (List.length ll71_) (ll71_.flatMap RV.cells) :: F) := (Holds.pkF H126_ [5, 1, 4, 4, 4, 1, 1, 1] 1 :)
  exact ⟨⟨R65_, k + 1, s1_.1, s1_.2.1, gv67_, lv68_, v117_, N069_, T70_, ll71_, (A ++ [(⟨xo72_, x173_, x274_, x375_, x476_, x577_, xr78_, xm79_, xn80_, xg81_, rl82_, gl83_⟩ : KA)])⟩, ⟨_, congrArg (fun e => mkA 19 e []) (ch (ch (ch (ch rfl rfl) rfl) rfl) (congrArg (Value.int .i64) ((by first | rfl | omega | (simp; done) | (simp; omega)) : (k : Int) + 1 = ((k + 1 : Nat) : Int)))), H127_, S125_, (hz_R_R65_), (by first | assumption | omega | exact rfl), (he85_), (he86_), (he87_), (by rw [he84_]; exact hbd3_), (all_snoc (fun x hx => (hA x hx).mono hs64_) he88_), (by simp; omega), (by rw [he84_, List.map_append, List.map_singleton, he89_]; exact hr_)⟩, by first | omega | (dsimp only; omega) | (simp; omega)⟩
 ·have c9_fp : ¬ ((k : Int) < ((List.length O) : Int)) := of_decide_eq_false c9_f
  refine C_exit (X_thenX (X_thenX (X_blkHit ?_)))
  refine R_0 rfl ?_
  have H128_ := ((Holds.bring H5_ 1 rfl) :)
  obtain ⟨R129_, hs130_, ⟨R131_, ha132_, hs133_⟩, H134_⟩ := Holds.gift H128_
  have hz_R_R129_ := Sub.trans' hsR1 hs130_
  have hr135_ : RS R129_ 10 av (List.length A) (A.flatMap KA.cells) := (sl_RS ha132_ (Sub.rfl' _)).mono hs133_
  have hk3_ : k = O.length := (by omega)
  rw [hk3_, List.drop_length, iRun] at hrun
  have H136_ : Holds w4_ (ro R129_ :: cl ub 24 [av] :: F) := (Holds.pkF H134_ [0, 1] 5 :)
  exact ⟨R129_, _, _, rfl, hz_R_R129_, ⟨av, A, rfl, rfl, (hr135_), (fun x hx => (hA x hx).mono hs130_), (Option.some.inj hrun)⟩, S6_, H136_⟩
end Go.Proofs.Ytiblemgccgbhoaa
