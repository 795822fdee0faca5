/- Words, and proved steps, on which the proof leans. -/
import Derived.Lib.Bytealg
import Derived.Test.YtlnihndjepjagaaOf3
set_option linter.unusedVariables false
set_option linter.unusedSimpArgs false
namespace Go.Proofs.Ytlnihndjepjagaa
open Go Go.RowKit Gw Try
open Go.Value renaming int → vI, bool → vB, slice → vS, pointer → vP, agg → vA, tuple → vT

set_option maxHeartbeats 16000000 in
theorem itInsertW (R : HP) (K : Type) (O : KO K) (tb sb : Nat) (cnt : Int) (sc : List Value) (W : Tr K) (it jt vt : TypeId) (ix jx vx : Value) (kb ke : K) (hW : TOk O R W ∧ LocT O W ∧ blackT W) (hb : O.Val R (Value.iface it ix) kb) (he : O.Val R (Value.iface jt jx) ke) (hs : srt O (ino W)) :
    Tri Try.prog 147 #[(vQ tb), (vA #[((Value.iface it ix)), ((Value.iface jt jx))]), ((Value.iface vt vx))] R [cl tb 188 [(vQ (rt sb W)), (vI .i64 cnt), (vQ sb)], tr sb sb W, clf sb 185 sc] (fun v__ post__ => ∃ (W' : Tr K) (L1 L2 : List (ND K)) (z : ND K), v__ = (vT #[]) ∧ post__ = [cl tb 188 [(vQ (rt sb W')), (vI .i64 (IntKind.i64.wrap (cnt + 1))), (vQ sb)], tr sb sb W', clf sb 185 sc] ∧ (TOk O R W' ∧ LocT O W' ∧ blackT W') ∧ (ino W' = L1 ++ z.er :: L2) ∧ (ino W = L1 ++ L2) ∧ (z.b = (Value.iface it ix) ∧ z.e = (Value.iface jt jx) ∧ z.v = (Value.iface vt vx) ∧ z.kb = kb ∧ z.ke = ke) ∧ (srt O (ino W')) ∧ (∀ x ∈ L1, ¬ bef O kb ke x) ∧ (∀ y ∈ L2, bef O kb ke y)) := by
 have hW1 := hW
 refine Tri.into (n := 165) (al := [(vQ tb), (vA #[((Value.iface it ix)), ((Value.iface jt jx))]), ((Value.iface vt vx))]) func147 rfl ntmps147 rfl rfl fun w F H => ?_
 refine cr fun _ hK1_ => ?_
 refine S_list (T_box (v := (vA #[((Value.iface it ix)), ((Value.iface jt jx))])) rfl H ?_)
 intro b2_ w3_ S5_ H4_
 have S6_ := Same.trans (Same.refl w) S5_
 refine wn (hK1_ _ _ ?_)
 refine cr fun _ hK7_ => ?_
 refine sm (vQ tb) ?_
 refine sv (v := (vQ tb)) (by kernel_rfl) ?_
 refine sv (v := (vP (some ⟨tb, 2, none⟩))) (by kernel_rfl) ?_
 refine sv (v := (vQ sb)) (x_load1 rfl underlying182 rfl ((Holds.rd H4_ 2 rfl) 2 (vQ sb) rfl)) ?_
 refine sv (v := (vQ sb)) (x_assign rfl) ?_
 refine wn (hK7_ _ _ ?_)
 refine cr fun _ hK8_ => ?_
 refine sm (vQ tb) ?_
 refine sv (v := (vA #[((Value.iface it ix)), ((Value.iface jt jx))])) (x_loadN (vs := [((Value.iface it ix)), ((Value.iface jt jx))]) rfl underlying111 rfl z111 rfl (Rd.cells (Holds.rd H4_ 0 rfl) 0 rfl)) ?_
 refine sm ((Value.iface vt vx)) ?_
 refine S_list (T_callW (al := [(vQ tb), (vA #[((Value.iface it ix)), ((Value.iface jt jx))]), ((Value.iface vt vx))]) rfl rfl cb161 (Calls.into (n := 26) func161 rfl ntmps161 rfl rfl ?_))
 refine cr fun _ hK9_ => ?_
 refine S_list (T_box (v := (vA #[((Value.iface it ix)), ((Value.iface jt jx))])) rfl H4_ ?_)
 intro b10_ w11_ S13_ H12_
 have S14_ := Same.trans S6_ S13_
 refine sv (v := (vP none)) (x_assign rfl) ?_
 refine wn (hK9_ _ _ ?_)
 refine C_seq (fun _ hK15_ => ?_)
 refine A_start (S := fun w => Rd b10_ [((Value.iface it ix)), ((Value.iface jt jx))] w ∧ Rd tb [(vQ (rt sb W)), (vI .i64 cnt), (vQ sb)] w ∧ RtRd w (rt sb W) (rmx W) ∧ Sub R (hp w)) (N := 20) foll rfl rfl ?_
 have H16_ := Holds.drew_ H12_
 have hq17_ := And.intro (Holds.rd H16_ 0 rfl) (And.intro (Holds.rd H16_ 3 rfl) (And.intro (Holds.tr_rd H16_ 4 rfl 5 rfl) ((Holds.ro_at H16_ 2 rfl))))
 refine A_tk 0 (v := (vA #[((Value.iface it ix)), ((Value.iface jt jx))])) rfl (by kernel_rfl) (fun w hS => x_loadN (vs := [((Value.iface it ix)), ((Value.iface jt jx))]) rfl underlying111 rfl z111 rfl (Rd.cells hS.1 0 rfl)) hq17_ ?_
 refine A_tk 1 (v := ((Value.iface vt vx))) rfl (by kernel_rfl) (fun w hS => x_move rfl) hq17_ ?_
 refine A_tk 2 (v := (vA #[((Value.iface it ix)), ((Value.iface jt jx)), ((Value.iface vt vx))])) rfl (by kernel_rfl) (fun w hS => by kernel_rfl) hq17_ ?_
 refine A_tk 3 (v := (vP (some ⟨b10_, 1, none⟩))) rfl (by kernel_rfl) (fun w hS => by kernel_rfl) hq17_ ?_
 refine A_tk 4 (v := ((Value.iface jt jx))) rfl (by kernel_rfl) (fun w hS => x_load1 rfl underlying109 rfl (hS.1 1 ((Value.iface jt jx)) rfl)) hq17_ ?_
 refine A_tk 5 (v := (vQ tb)) rfl (by kernel_rfl) (fun w hS => x_move rfl) hq17_ ?_
 refine A_tk 6 (v := (vQ tb)) rfl (by kernel_rfl) (fun w hS => by kernel_rfl) hq17_ ?_
 refine A_tk 7 (v := (vP (some ⟨tb, 2, none⟩))) rfl (by kernel_rfl) (fun w hS => by kernel_rfl) hq17_ ?_
 refine A_tk 8 (v := (vQ sb)) rfl (by kernel_rfl) (fun w hS => x_load1 rfl underlying182 rfl (hS.2.1 2 (vQ sb) rfl)) hq17_ ?_
 refine A_tk 9 (v := (vQ tb)) rfl (by kernel_rfl) (fun w hS => x_move rfl) hq17_ ?_
 refine A_tk 10 (v := (vQ tb)) rfl (by kernel_rfl) (fun w hS => by kernel_rfl) hq17_ ?_
 refine A_tk 11 (v := (vP (some ⟨tb, 2, none⟩))) rfl (by kernel_rfl) (fun w hS => by kernel_rfl) hq17_ ?_
 refine A_tk 12 (v := (vQ sb)) rfl (by kernel_rfl) (fun w hS => x_load1 rfl underlying182 rfl (hS.2.1 2 (vQ sb) rfl)) hq17_ ?_
 refine A_tk 13 (v := (vQ tb)) rfl (by kernel_rfl) (fun w hS => x_move rfl) hq17_ ?_
 refine A_tk 14 (v := (vQ tb)) rfl (by kernel_rfl) (fun w hS => by kernel_rfl) hq17_ ?_
 refine A_tk 15 (v := (vP (some ⟨tb, 2, none⟩))) rfl (by kernel_rfl) (fun w hS => by kernel_rfl) hq17_ ?_
 refine A_tk 16 (v := (vQ sb)) rfl (by kernel_rfl) (fun w hS => x_load1 rfl underlying182 rfl (hS.2.1 2 (vQ sb) rfl)) hq17_ ?_
 refine A_tk 17 (v := (vA #[((Value.iface it ix)), ((Value.iface jt jx)), ((Value.iface vt vx)), ((Value.iface jt jx)), (vQ sb), (vQ sb), (vQ sb), (vI .i64 1)])) rfl (by kernel_rfl) (fun w hS => by kernel_rfl) hq17_ ?_
 refine A_ready (i := 18) (rs := []) (by kernel_rfl) ?_
 refine AllR.cons ?_ AllR.nil
 refine A_op (ls' := #[true, true, true, true, true, true, true, true, true, true, true, true, true, true, true, true, true, true, true, false]) rfl (by kernel_rfl) (T_boxf (v := (vA #[((Value.iface it ix)), ((Value.iface jt jx)), ((Value.iface vt vx)), ((Value.iface jt jx)), (vQ sb), (vQ sb), (vQ sb), (vI .i64 1)])) rfl H16_ ?_)
 intro b18_ w19_ S21_ H20_
 have S22_ := Same.trans (Same.trans S14_ (Same.drew _)) S21_
 refine ⟨⟨Holds.rd H20_ 1 rfl, Holds.rd H20_ 4 rfl, Holds.tr_rd H20_ 5 rfl 6 rfl, (Holds.ro_at H20_ 3 rfl)⟩, ?_⟩
 have hq23_ := And.intro (Holds.rd H20_ 1 rfl) (And.intro (Holds.rd H20_ 4 rfl) (And.intro (Holds.tr_rd H20_ 5 rfl 6 rfl) ((Holds.ro_at H20_ 3 rfl))))
 refine A_tk 19 (v := (vQ b18_)) rfl (by kernel_rfl) (fun w hS => x_assign rfl) hq23_ ?_
 refine A_done (by kernel_rfl) ?_
 refine (X_then (hK15_ _ _ ?_))
 refine C_ret ?_
 refine R_any (v := (vQ b18_)) (run_results1 rfl rfl) ⟨_, rfl, ?_⟩
 refine sv (v := (vQ b18_)) (x_assign rfl) ?_
 refine wn (hK8_ _ _ ?_)
 refine cr fun _ hK24_ => ?_
 refine sm (vQ tb) ?_
 refine sv (v := (vQ tb)) (by kernel_rfl) ?_
 refine sv (v := (vQ tb)) (by kernel_rfl) ?_
 refine sv (v := (vQ (rt sb W))) (x_load1 rfl underlying182 rfl ((Holds.rd H20_ 4 rfl) 0 (vQ (rt sb W)) rfl)) ?_
 refine sv (v := (vQ (rt sb W))) (x_assign rfl) ?_
 refine wn (hK24_ _ _ ?_)
 refine C_seq (fun _ hK25_ => ?_)
 refine C_block ?_
 have H26_ : Holds w19_ (cx sb (rt sb W) ([] : List (Fr K)) :: clf b18_ 185 [((Value.iface it ix)), ((Value.iface jt jx)), ((Value.iface vt vx)), ((Value.iface jt jx)), (vQ sb), (vQ sb), (vQ sb), (vI .i64 1)] :: cl b10_ 111 [((Value.iface it ix)), ((Value.iface jt jx))] :: cl b2_ 111 [((Value.iface it ix)), ((Value.iface jt jx))] :: ro R :: cl tb 188 [(vQ (rt sb W)), (vI .i64 cnt), (vQ sb)] :: tr sb sb W :: clf sb 185 sc :: F) := Holds.cx_nil H20_
 have eH27_ : tr sb sb W = tr sb (pa sb ([] : List (Fr K))) W := by first | rfl | (congr 1 <;> first | rfl | omega | (simp; done) | (simp; omega))
 have H27_ : Holds w19_ (cx sb (rt sb W) ([] : List (Fr K)) :: clf b18_ 185 [((Value.iface it ix)), ((Value.iface jt jx)), ((Value.iface vt vx)), ((Value.iface jt jx)), (vQ sb), (vQ sb), (vQ sb), (vI .i64 1)] :: cl b10_ 111 [((Value.iface it ix)), ((Value.iface jt jx))] :: cl b2_ 111 [((Value.iface it ix)), ((Value.iface jt jx))] :: ro R :: cl tb 188 [(vQ (rt sb W)), (vI .i64 cnt), (vQ sb)] :: tr sb (pa sb ([] : List (Fr K))) W :: clf sb 185 sc :: F) := cast1 (P := fun c__ => Holds w19_ (cx sb (rt sb W) ([] : List (Fr K)) :: clf b18_ 185 [((Value.iface it ix)), ((Value.iface jt jx)), ((Value.iface vt vx)), ((Value.iface jt jx)), (vQ sb), (vQ sb), (vQ sb), (vI .i64 1)] :: cl b10_ 111 [((Value.iface it ix)), ((Value.iface jt jx))] :: cl b2_ 111 [((Value.iface it ix)), ((Value.iface jt jx))] :: ro R :: cl tb 188 [(vQ (rt sb W)), (vI .i64 cnt), (vQ sb)] :: c__ :: clf sb 185 sc :: F)) eH27_ H26_
 refine C_loop (γ := (List (Fr K)) × (Tr K)) (fun x__ a__ w1__ => match x__ with | ⟨C1, T⟩ => ∃ h : Env, a__ = mkA 165 (upd (upd (upd (upd h 0 (vQ tb)) 6 (vQ (pa sb C1))) 7 (vQ b18_)) 8 (vQ (rt sb T))) [] ∧ Holds w1__ (cx sb (rt sb T) C1 :: clf b18_ 185 [((Value.iface it ix)), ((Value.iface jt jx)), ((Value.iface vt vx)), ((Value.iface jt jx)), (vQ sb), (vQ sb), (vQ sb), (vI .i64 1)] :: cl b10_ 111 [((Value.iface it ix)), ((Value.iface jt jx))] :: cl b2_ 111 [((Value.iface it ix)), ((Value.iface jt jx))] :: ro R :: cl tb 188 [(vQ (rt sb W)), (vI .i64 cnt), (vQ sb)] :: tr sb (pa sb C1) T :: clf sb 185 sc :: F) ∧ Same w w1__ ∧ (plug C1 T = W) ∧ (way O kb ke C1) ∧ (TOk O R T) ∧ (COk O R C1)) (fun x__ => match x__ with | ⟨C1, T⟩ => (ino T).length) (⟨([] : List (Fr K)), W⟩) ⟨_, congrArg (fun e => mkA 165 e []) (ch (ch (ch (ch rfl rfl) ((by first | rfl | omega | (simp; done) | (simp; omega)) : (vQ sb) = (vQ ((pa sb ([] : List (Fr K))))))) rfl) rfl), H27_, S22_, (rfl), (trivial), (hW.1), (fun f hf => by cases hf)⟩ ?_
 rintro ⟨C1, T⟩ _ w28_ ⟨h, rfl, H29_, S30_, hpl, hway, hTk, hCk⟩
 refine C_seq (fun _ hK31_ => ?_)
 refine cr fun _ hK32_ => ?_
 rcases T with _ | ⟨f33_n, f33_a, f33_b⟩
 ·skip
  have H34_ : Holds w28_ (cx sb sb C1 :: clf b18_ 185 [((Value.iface it ix)), ((Value.iface jt jx)), ((Value.iface vt vx)), ((Value.iface jt jx)), (vQ sb), (vQ sb), (vQ sb), (vI .i64 1)] :: cl b10_ 111 [((Value.iface it ix)), ((Value.iface jt jx))] :: cl b2_ 111 [((Value.iface it ix)), ((Value.iface jt jx))] :: ro R :: cl tb 188 [(vQ (rt sb W)), (vI .i64 cnt), (vQ sb)] :: tr sb (pa sb C1) (Tr.lf : Tr K) :: clf sb 185 sc :: F) := (H29_)
  refine sm (vQ sb) ?_
  refine sm (vQ tb) ?_
  refine sv (v := (vQ tb)) (by kernel_rfl) ?_
  refine sv (v := (vP (some ⟨tb, 2, none⟩))) (by kernel_rfl) ?_
  refine sv (v := (vQ sb)) (x_load1 rfl underlying182 rfl ((Holds.rd H34_ 5 rfl) 2 (vQ sb) rfl)) ?_
  refine sv (v := (vB false)) (x_neP rfl rfl underlying182 z185) ?_
  refine wn (hK32_ _ _ ?_)
  refine C_condF rfl ?_
  refine C_exit (X_thenX (X_thenX (X_blkHit ?_)))
  refine (X_then (hK25_ _ _ ?_))
  refine cr fun _ hK35_ => ?_
  rcases C1 with _ | ⟨⟨_ | _, f36_p, f36_o⟩, f36_C⟩
  ·skip
   subst hpl
   have H37_ := H34_
   refine sm (vQ b18_) ?_
   refine sm (vQ sb) ?_
   refine sv (v := (vQ b18_)) (by kernel_rfl) ?_
   refine sv (v := (vP (some ⟨b18_, 6, none⟩))) (by kernel_rfl) ?_
   refine S_list0 (T_store1f (v := (vQ sb)) rfl rfl z182 rfl H37_ 1 rfl (Nat.le_of_ble_eq_true (by rfl)) ?_)
   intro w38_ S40_ H39_
   have S41_ := Same.trans S30_ S40_
   refine wn (hK35_ _ _ ?_)
   refine C_seq (fun _ hK42_ => ?_)
   refine cr fun _ hK43_ => ?_
   refine sm (vQ sb) ?_
   refine sm (vQ tb) ?_
   refine sv (v := (vQ tb)) (by kernel_rfl) ?_
   refine sv (v := (vP (some ⟨tb, 2, none⟩))) (by kernel_rfl) ?_
   refine sv (v := (vQ sb)) (x_load1 rfl underlying182 rfl ((Holds.rd H39_ 5 rfl) 2 (vQ sb) rfl)) ?_
   refine sv (v := (vB true)) (x_eqP rfl rfl underlying182 z185) ?_
   refine wn (hK43_ _ _ ?_)
   refine C_condT rfl ?_
   refine C_reg ?_
   refine sm (vQ tb) ?_
   refine sm (vQ b18_) ?_
   refine sv (v := (vQ tb)) (by kernel_rfl) ?_
   refine sv (v := (vQ tb)) (by kernel_rfl) ?_
   refine S_list0 (T_store1 (v := (vQ b18_)) rfl rfl z182 rfl H39_ 5 rfl (Nat.le_of_ble_eq_true (by rfl)) ?_)
   intro w44_ S46_ H45_
   have S47_ := Same.trans S41_ S46_
   refine wn (hK42_ _ _ ?_)
   refine cr fun _ hK48_ => ?_
   refine sm (vQ b18_) ?_
   refine sv (v := (vQ b18_)) (by kernel_rfl) ?_
   refine sv (v := (vP (some ⟨b18_, 7, none⟩))) (by kernel_rfl) ?_
   refine S_list0 (T_store1f (v := (vI .i64 1)) rfl rfl z183 rfl H45_ 1 rfl (Nat.le_of_ble_eq_true (by rfl)) ?_)
   intro w49_ S51_ H50_
   have S52_ := Same.trans S47_ S51_
   refine wn (hK48_ _ _ ?_)
   refine cr fun _ hK53_ => ?_
   refine sm (vQ tb) ?_
   refine sm (vQ b18_) ?_
   have H54_ := Holds.pkF H50_ [0, 0, 0, 0, 0, 0, 1] 1
   have H55_ : Holds w49_ (tr sb b18_ (Tr.lf : Tr K) :: cx sb sb ([] : List (Fr K)) :: clf b18_ 185 [((Value.iface it ix)), ((Value.iface jt jx)), ((Value.iface vt vx)), ((Value.iface jt jx)), (vQ sb), (vQ sb), (vQ sb), (vI .i64 1)] :: cl b10_ 111 [((Value.iface it ix)), ((Value.iface jt jx))] :: cl b2_ 111 [((Value.iface it ix)), ((Value.iface jt jx))] :: ro R :: cl tb 188 [(vQ b18_), (vI .i64 cnt), (vQ sb)] :: clf sb 185 sc :: F) := Holds.lf_tr H54_
   have H56_ : Holds w49_ (tr sb b18_ (Tr.lf : Tr K) :: tr sb b18_ (Tr.lf : Tr K) :: cx sb sb ([] : List (Fr K)) :: clf b18_ 185 [((Value.iface it ix)), ((Value.iface jt jx)), ((Value.iface vt vx)), ((Value.iface jt jx)), (vQ sb), (vQ sb), (vQ sb), (vI .i64 1)] :: cl b10_ 111 [((Value.iface it ix)), ((Value.iface jt jx))] :: cl b2_ 111 [((Value.iface it ix)), ((Value.iface jt jx))] :: ro R :: cl tb 188 [(vQ b18_), (vI .i64 cnt), (vQ sb)] :: clf sb 185 sc :: F) := Holds.lf_tr H55_
   have H57_ := ((Holds.bring (Holds.bring (Holds.bring H56_ 1 rfl) 1 rfl) 3 rfl) :)
   have H58_ := Holds.nd_tr (n := (⟨b18_, (Value.iface it ix), (Value.iface jt jx), (Value.iface vt vx), (Value.iface jt jx), 1, kb, ke, ke⟩ : ND K)) (a := (Tr.lf : Tr K)) (b := (Tr.lf : Tr K)) H57_
   have H59_ : Holds w49_ (tr sb (pa sb ([] : List (Fr K))) (Tr.nd (⟨b18_, (Value.iface it ix), (Value.iface jt jx), (Value.iface vt vx), (Value.iface jt jx), 1, kb, ke, ke⟩ : ND K) (Tr.lf : Tr K) (Tr.lf : Tr K)) :: cx sb b18_ ([] : List (Fr K)) :: cl b10_ 111 [((Value.iface it ix)), ((Value.iface jt jx))] :: cl b2_ 111 [((Value.iface it ix)), ((Value.iface jt jx))] :: ro R :: cl tb 188 [(vQ ((ra b18_ ([] : List (Fr K))))), (vI .i64 cnt), (vQ sb)] :: clf sb 185 sc :: F) := (H58_)
   have H60_ := H59_; rw [← pa_upC (O := O) sb ([] : List (Fr K)) (some ((Value.iface jt jx), ke)), ← ra_upC O ([] : List (Fr K)) b18_ (some ((Value.iface jt jx), ke))] at H60_
   have H61_ := H60_
   have hFx_ : FxI O R (inl ([] : List (Fr K)) ++ (⟨b18_, (Value.iface it ix), (Value.iface jt jx), (Value.iface vt vx), (Value.iface jt jx), 1, kb, ke, ke⟩ : ND K).er :: inr ([] : List (Fr K))) (upC O (some ((Value.iface jt jx), ke)) ([] : List (Fr K))) (Tr.nd (⟨b18_, (Value.iface it ix), (Value.iface jt jx), (Value.iface vt vx), (Value.iface jt jx), 1, kb, ke, ke⟩ : ND K) (Tr.lf : Tr K) (Tr.lf : Tr K)) := ins_fx hW1 hCk hb he
   have H62_ := Holds.recl H61_ 5 rfl ((lcons ((by first | rfl | omega | (simp; done) | (simp; omega)) : (vQ ((ra b18_ (upC O (some ((Value.iface jt jx), ke)) ([] : List (Fr K)))))) = (vP (some ⟨(ra (⟨b18_, (Value.iface it ix), (Value.iface jt jx), (Value.iface vt vx), (Value.iface jt jx), 1, kb, ke, ke⟩ : ND K).a (upC O (some ((Value.iface jt jx), ke)) ([] : List (Fr K)))), 0, none⟩))) rfl) : [(vQ ((ra b18_ (upC O (some ((Value.iface jt jx), ke)) ([] : List (Fr K)))))), (vI .i64 cnt), (vQ sb)] = [(vP (some ⟨(ra (⟨b18_, (Value.iface it ix), (Value.iface jt jx), (Value.iface vt vx), (Value.iface jt jx), 1, kb, ke, ke⟩ : ND K).a (upC O (some ((Value.iface jt jx), ke)) ([] : List (Fr K)))), 0, none⟩)), (vI .i64 cnt), (vQ sb)])
   have eH63_ : cx sb b18_ (upC O (some ((Value.iface jt jx), ke)) ([] : List (Fr K))) = cx sb ((⟨b18_, (Value.iface it ix), (Value.iface jt jx), (Value.iface vt vx), (Value.iface jt jx), 1, kb, ke, ke⟩ : ND K).a) (upC O (some ((Value.iface jt jx), ke)) ([] : List (Fr K))) := by first | rfl | (congr 1 <;> first | rfl | omega | (simp; done) | (simp; omega))
   have H63_ : Holds w49_ (tr sb (pa sb (upC O (some ((Value.iface jt jx), ke)) ([] : List (Fr K)))) (Tr.nd (⟨b18_, (Value.iface it ix), (Value.iface jt jx), (Value.iface vt vx), (Value.iface jt jx), 1, kb, ke, ke⟩ : ND K) (Tr.lf : Tr K) (Tr.lf : Tr K)) :: cx sb ((⟨b18_, (Value.iface it ix), (Value.iface jt jx), (Value.iface vt vx), (Value.iface jt jx), 1, kb, ke, ke⟩ : ND K).a) (upC O (some ((Value.iface jt jx), ke)) ([] : List (Fr K))) :: cl b10_ 111 [((Value.iface it ix)), ((Value.iface jt jx))] :: cl b2_ 111 [((Value.iface it ix)), ((Value.iface jt jx))] :: ro R :: cl tb 188 [(vP (some ⟨(ra (⟨b18_, (Value.iface it ix), (Value.iface jt jx), (Value.iface vt vx), (Value.iface jt jx), 1, kb, ke, ke⟩ : ND K).a (upC O (some ((Value.iface jt jx), ke)) ([] : List (Fr K)))), 0, none⟩)), (vI .i64 cnt), (vQ sb)] :: clf sb 185 sc :: F) := cast1 (P := fun c__ => Holds w49_ (tr sb (pa sb (upC O (some ((Value.iface jt jx), ke)) ([] : List (Fr K)))) (Tr.nd (⟨b18_, (Value.iface it ix), (Value.iface jt jx), (Value.iface vt vx), (Value.iface jt jx), 1, kb, ke, ke⟩ : ND K) (Tr.lf : Tr K) (Tr.lf : Tr K)) :: c__ :: cl b10_ 111 [((Value.iface it ix)), ((Value.iface jt jx))] :: cl b2_ 111 [((Value.iface it ix)), ((Value.iface jt jx))] :: ro R :: cl tb 188 [(vP (some ⟨(ra (⟨b18_, (Value.iface it ix), (Value.iface jt jx), (Value.iface vt vx), (Value.iface jt jx), 1, kb, ke, ke⟩ : ND K).a (upC O (some ((Value.iface jt jx), ke)) ([] : List (Fr K)))), 0, none⟩)), (vI .i64 cnt), (vQ sb)] :: clf sb 185 sc :: F)) eH63_ H62_
   have H67_ := ((Holds.bring (Holds.bring (Holds.bring (Holds.bring (Holds.bring H63_ 6 rfl) 2 rfl) 2 rfl) 6 rfl) 6 rfl) :)
   refine S_list (T_call (al := [(vQ tb), (vP (some ⟨(⟨b18_, (Value.iface it ix), (Value.iface jt jx), (Value.iface vt vx), (Value.iface jt jx), 1, kb, ke, ke⟩ : ND K).a, 0, none⟩))]) (pre := [cl tb 188 [(vP (some ⟨(ra (⟨b18_, (Value.iface it ix), (Value.iface jt jx), (Value.iface vt vx), (Value.iface jt jx), 1, kb, ke, ke⟩ : ND K).a (upC O (some ((Value.iface jt jx), ke)) ([] : List (Fr K)))), 0, none⟩)), (vI .i64 cnt), (vQ sb)], tr sb (pa sb (upC O (some ((Value.iface jt jx), ke)) ([] : List (Fr K)))) (Tr.nd (⟨b18_, (Value.iface it ix), (Value.iface jt jx), (Value.iface vt vx), (Value.iface jt jx), 1, kb, ke, ke⟩ : ND K) (Tr.lf : Tr K) (Tr.lf : Tr K)), cx sb ((⟨b18_, (Value.iface it ix), (Value.iface jt jx), (Value.iface vt vx), (Value.iface jt jx), 1, kb, ke, ke⟩ : ND K).a) (upC O (some ((Value.iface jt jx), ke)) ([] : List (Fr K))), clf sb 185 sc]) rfl (lcons rfl (lcons ((by first | rfl | omega | (simp; done) | (simp; omega)) : (vQ b18_) = (vP (some ⟨(⟨b18_, (Value.iface it ix), (Value.iface jt jx), (Value.iface vt vx), (Value.iface jt jx), 1, kb, ke, ke⟩ : ND K).a, 0, none⟩))) rfl)) cb162 (itFix R K O tb sb cnt sc (⟨b18_, (Value.iface it ix), (Value.iface jt jx), (Value.iface vt vx), (Value.iface jt jx), 1, kb, ke, ke⟩ : ND K) (Tr.lf : Tr K) (Tr.lf : Tr K) (upC O (some ((Value.iface jt jx), ke)) ([] : List (Fr K))) (inl ([] : List (Fr K)) ++ (⟨b18_, (Value.iface it ix), (Value.iface jt jx), (Value.iface vt vx), (Value.iface jt jx), 1, kb, ke, ke⟩ : ND K).er :: inr ([] : List (Fr K))) (hFx_)) H67_ ?_)
   rintro v64_ p71_ w68_ ⟨W65_, rfl, rfl, he66_⟩ S70_ H69_
   have S72_ := Same.trans S52_ S70_
   refine wn (hK53_ _ _ ?_)
   refine C_reg ?_
   refine sm (vQ tb) ?_
   refine sv (v := (vQ tb)) (by kernel_rfl) ?_
   refine sv (v := (vP (some ⟨tb, 1, none⟩))) (by kernel_rfl) ?_
   refine sv (v := (vI .i64 cnt)) (x_load1 rfl underlying3 rfl ((Holds.rd H69_ 1 rfl) 1 (vI .i64 cnt) rfl)) ?_
   refine sv (v := (vI .i64 (IntKind.i64.wrap (cnt + 1)))) (x_bin rfl rfl rfl) ?_
   refine sv (v := (vQ tb)) (by kernel_rfl) ?_
   refine sv (v := (vP (some ⟨tb, 1, none⟩))) (by kernel_rfl) ?_
   refine S_list0 (T_store1 (v := (vI .i64 (IntKind.i64.wrap (cnt + 1)))) rfl rfl z3 rfl H69_ 1 rfl (Nat.le_of_ble_eq_true (by rfl)) ?_)
   intro w73_ S75_ H74_
   have S76_ := Same.trans S72_ S75_
   refine wpList_nil ?_
   refine R_0 rfl ?_
   have H77_ := Holds.pkF H74_ [0, 0, 0, 0] 2
   exact ⟨_, _, rfl, ⟨W65_, (inl ([] : List (Fr K))), (inr ([] : List (Fr K))), (⟨b18_, (Value.iface it ix), (Value.iface jt jx), (Value.iface vt vx), (Value.iface jt jx), 1, kb, ke, ke⟩ : ND K), rfl, rfl, (⟨he66_.1, he66_.2.1, he66_.2.2.2⟩), (he66_.2.2.1), (by rw [ino_plug]; simp [ino]), (⟨rfl, rfl, rfl, rfl, rfl⟩), (by rw [he66_.2.2.1]; exact ins_srt hway (by have := hs; rw [ino_plug] at this; simpa [ino] using this)), ((way_in (C := ([] : List (Fr K))) (M := []) hway (by have := hs; rw [ino_plug] at this; simpa [ino] using this)).1), ((way_in (C := ([] : List (Fr K))) (M := []) hway (by have := hs; rw [ino_plug] at this; simpa [ino] using this)).2)⟩, S76_, H77_⟩
  ·skip
   subst hpl
   have H78_ := H34_; rw [show rt sb (plug ((⟨false, f36_p, f36_o⟩ : Fr K) :: f36_C) (Tr.lf : Tr K)) = ra f36_p.a f36_C from rt_plug sb f36_C f36_p f36_o (Tr.lf : Tr K)] at H78_
   have H79_ := H78_
   have H80_ := Holds.cx_cons H79_
   obtain ⟨ht_, hcx_⟩ : LocT O (Tr.lf : Tr K) ∧ LocC O none ((⟨false, f36_p, f36_o⟩ : Fr K) :: f36_C) := loc_unplug (C := ((⟨false, f36_p, f36_o⟩ : Fr K) :: f36_C)) (t := (Tr.lf : Tr K)) hW1.2.1
   have hck_ : COk O R ((⟨false, f36_p, f36_o⟩ : Fr K) :: f36_C) := hCk
   have hkp_ := (hck_ _ (List.mem_cons_self ..)).1
   have hw_ := hway.1; unfold bef at hw_; simp only [if_true, if_false, Bool.false_eq_true] at hw_
   refine sm (vQ b18_) ?_
   refine sm (vQ f36_p.a) ?_
   refine sv (v := (vQ b18_)) (by kernel_rfl) ?_
   refine sv (v := (vP (some ⟨b18_, 6, none⟩))) (by kernel_rfl) ?_
   refine S_list0 (T_store1f (v := (vQ f36_p.a)) rfl rfl z182 rfl H80_ 3 rfl (Nat.le_of_ble_eq_true (by rfl)) ?_)
   intro w81_ S83_ H82_
   have S84_ := Same.trans S30_ S83_
   refine wn (hK35_ _ _ ?_)
   refine C_seq (fun _ hK85_ => ?_)
   refine cr fun _ hK86_ => ?_
   refine sm (vQ f36_p.a) ?_
   refine sm (vQ tb) ?_
   refine sv (v := (vQ tb)) (by kernel_rfl) ?_
   refine sv (v := (vP (some ⟨tb, 2, none⟩))) (by kernel_rfl) ?_
   refine sv (v := (vQ sb)) (x_load1 rfl underlying182 rfl ((Holds.rd H82_ 7 rfl) 2 (vQ sb) rfl)) ?_
   have hpc87_ : f36_p.a ≠ sb := Holds.ne_f H82_ 0 rfl 9 rfl (by decide)
   refine sv (v := (vB false)) (x_cast (x_eqPN rfl rfl underlying182 z185 (by decide) (Holds.blk H82_ 0 rfl) (Holds.blk H82_ 9 rfl)) (congrArg vB (decide_eq_false hpc87_))) ?_
   refine wn (hK86_ _ _ ?_)
   refine C_condF rfl ?_
   refine C_seq (fun _ hK88_ => ?_)
   refine A_start (S := fun w => (Rd f36_p.a [f36_p.b, f36_p.e, f36_p.v, f36_p.mx, (vQ (rt sb f36_o)), (vQ sb), (vQ (pa sb f36_C)), (vI .i64 f36_p.c)] w ∧ Blk w f36_p.a) ∧ RtRd w (rt sb f36_o) (rmx f36_o) ∧ (Rd b18_ [((Value.iface it ix)), ((Value.iface jt jx)), ((Value.iface vt vx)), ((Value.iface jt jx)), (vQ sb), (vQ sb), (vQ f36_p.a), (vI .i64 1)] w ∧ Blk w b18_) ∧ RtRd w (rt sb (Tr.lf : Tr K)) (rmx (Tr.lf : Tr K)) ∧ Sub R (hp w)) (N := 16) foll rfl rfl ?_
   have H89_ := Holds.drew_ H82_
   have hq90_ := And.intro ((And.intro (Holds.rdf H89_ 0 rfl) (Holds.blk H89_ 0 rfl))) (And.intro (Holds.tr_rd H89_ 1 rfl 9 rfl) (And.intro ((And.intro (Holds.rdf H89_ 3 rfl) (Holds.blk H89_ 3 rfl))) (And.intro (Holds.tr_rd H89_ 8 rfl 9 rfl) ((Holds.ro_at H89_ 6 rfl)))))
   refine A_tk 0 (v := (vQ b18_)) rfl (by kernel_rfl) (fun w hS => x_move rfl) hq90_ ?_
   refine A_tk 1 (v := (vQ b18_)) rfl (by kernel_rfl) (fun w hS => by kernel_rfl) hq90_ ?_
   refine A_tk 2 (v := (vQ b18_)) rfl (by kernel_rfl) (fun w hS => by kernel_rfl) hq90_ ?_
   refine A_tk 3 (v := (vQ b18_)) rfl (by kernel_rfl) (fun w hS => by kernel_rfl) hq90_ ?_
   refine A_tk 4 (v := (vQ b18_)) rfl (by kernel_rfl) (fun w hS => by kernel_rfl) hq90_ ?_
   refine A_tk 5 (v := ((Value.iface it ix))) rfl (by kernel_rfl) (fun w hS => x_load1 rfl underlying109 rfl (hS.2.2.1.1 0 ((Value.iface it ix)) rfl)) hq90_ ?_
   refine A_tk 6 (v := (vQ f36_p.a)) rfl (by kernel_rfl) (fun w hS => x_move rfl) hq90_ ?_
   refine A_tk 7 (v := (vQ f36_p.a)) rfl (by kernel_rfl) (fun w hS => by kernel_rfl) hq90_ ?_
   refine A_tk 8 (v := (vQ f36_p.a)) rfl (by kernel_rfl) (fun w hS => by kernel_rfl) hq90_ ?_
   refine A_tk 9 (v := (vQ f36_p.a)) rfl (by kernel_rfl) (fun w hS => by kernel_rfl) hq90_ ?_
   refine A_tk 10 (v := (vQ f36_p.a)) rfl (by kernel_rfl) (fun w hS => by kernel_rfl) hq90_ ?_
   refine A_tk 11 (v := f36_p.b) rfl (by kernel_rfl) (fun w hS => x_load1 rfl underlying109 rfl (hS.1.1 0 f36_p.b rfl)) hq90_ ?_
   refine A_tk 12 (v := ((Value.iface it ix))) rfl (by kernel_rfl) (fun w hS => by kernel_rfl) hq90_ ?_
   refine A_tk 13 (v := ((Value.iface it ix))) rfl (by kernel_rfl) (fun w hS => x_move rfl) hq90_ ?_
   refine A_ready (i := 14) (rs := []) (by kernel_rfl) ?_
   refine AllR.cons ?_ AllR.nil
   refine A_op (ls' := #[true, true, true, true, true, true, true, true, true, true, true, true, true, true, true, false]) rfl (by kernel_rfl) (T_cmp rfl rfl (O.cmp hb (hkp_.b)) H89_ 6 rfl ?_)
   intro w91_ S93_ H92_
   have S94_ := Same.trans (Same.trans S84_ (Same.drew _)) S93_
   refine ⟨⟨(And.intro (Holds.rdf H92_ 0 rfl) (Holds.blk H92_ 0 rfl)), Holds.tr_rd H92_ 1 rfl 9 rfl, (And.intro (Holds.rdf H92_ 3 rfl) (Holds.blk H92_ 3 rfl)), Holds.tr_rd H92_ 8 rfl 9 rfl, (Holds.ro_at H92_ 6 rfl)⟩, ?_⟩
   have hq95_ := And.intro ((And.intro (Holds.rdf H92_ 0 rfl) (Holds.blk H92_ 0 rfl))) (And.intro (Holds.tr_rd H92_ 1 rfl 9 rfl) (And.intro ((And.intro (Holds.rdf H92_ 3 rfl) (Holds.blk H92_ 3 rfl))) (And.intro (Holds.tr_rd H92_ 8 rfl 9 rfl) ((Holds.ro_at H92_ 6 rfl)))))
   refine A_tk 15 (v := (vI .i64 (O.cm kb f36_p.kb))) rfl (by kernel_rfl) (fun w hS => x_assign rfl) hq95_ ?_
   refine A_done (by kernel_rfl) ?_
   refine (X_then (hK88_ _ _ ?_))
   refine C_seq (fun _ hK96_ => ?_)
   refine cr fun _ hK97_ => ?_
   refine sm (vI .i64 (O.cm kb f36_p.kb)) ?_
   refine sv (v := (vB (decide (O.cm kb f36_p.kb < 0)))) (x_bin rfl rfl rfl) ?_
   refine wn (hK97_ _ _ ?_)
   refine C_cond (b := decide (O.cm kb f36_p.kb < 0)) rfl (fun c98_t => ?_) (fun c98_f => ?_)
   ·have c98_tp : O.cm kb f36_p.kb < 0 := of_decide_eq_true c98_t
    omega
   ·have c98_fp : ¬ (O.cm kb f36_p.kb < 0) := of_decide_eq_false c98_f
    refine cr fun _ hK99_ => ?_
    refine sm (vI .i64 (O.cm kb f36_p.kb)) ?_
    refine sv (v := (vB (decide (O.cm kb f36_p.kb = 0)))) (x_bin rfl rfl rfl) ?_
    refine wn (hK99_ _ _ ?_)
    refine C_cond (b := decide (O.cm kb f36_p.kb = 0)) rfl (fun c100_t => ?_) (fun c100_f => ?_)
    ·have c100_tp : O.cm kb f36_p.kb = 0 := of_decide_eq_true c100_t
     refine C_seq (fun _ hK101_ => ?_)
     refine A_start (S := fun w => (Rd f36_p.a [f36_p.b, f36_p.e, f36_p.v, f36_p.mx, (vQ (rt sb f36_o)), (vQ sb), (vQ (pa sb f36_C)), (vI .i64 f36_p.c)] w ∧ Blk w f36_p.a) ∧ RtRd w (rt sb f36_o) (rmx f36_o) ∧ (Rd b18_ [((Value.iface it ix)), ((Value.iface jt jx)), ((Value.iface vt vx)), ((Value.iface jt jx)), (vQ sb), (vQ sb), (vQ f36_p.a), (vI .i64 1)] w ∧ Blk w b18_) ∧ RtRd w (rt sb (Tr.lf : Tr K)) (rmx (Tr.lf : Tr K)) ∧ Sub R (hp w)) (N := 16) foll rfl rfl ?_
     have H102_ := Holds.drew_ H92_
     have hq103_ := And.intro ((And.intro (Holds.rdf H102_ 0 rfl) (Holds.blk H102_ 0 rfl))) (And.intro (Holds.tr_rd H102_ 1 rfl 9 rfl) (And.intro ((And.intro (Holds.rdf H102_ 3 rfl) (Holds.blk H102_ 3 rfl))) (And.intro (Holds.tr_rd H102_ 8 rfl 9 rfl) ((Holds.ro_at H102_ 6 rfl)))))
     refine A_tk 0 (v := (vQ b18_)) rfl (by kernel_rfl) (fun w hS => x_move rfl) hq103_ ?_
     refine A_tk 1 (v := (vQ b18_)) rfl (by kernel_rfl) (fun w hS => by kernel_rfl) hq103_ ?_
     refine A_tk 2 (v := (vQ b18_)) rfl (by kernel_rfl) (fun w hS => by kernel_rfl) hq103_ ?_
     refine A_tk 3 (v := (vQ b18_)) rfl (by kernel_rfl) (fun w hS => by kernel_rfl) hq103_ ?_
     refine A_tk 4 (v := (vP (some ⟨b18_, 1, none⟩))) rfl (by kernel_rfl) (fun w hS => by kernel_rfl) hq103_ ?_
     refine A_tk 5 (v := ((Value.iface jt jx))) rfl (by kernel_rfl) (fun w hS => x_load1 rfl underlying109 rfl (hS.2.2.1.1 1 ((Value.iface jt jx)) rfl)) hq103_ ?_
     refine A_tk 6 (v := (vQ f36_p.a)) rfl (by kernel_rfl) (fun w hS => x_move rfl) hq103_ ?_
     refine A_tk 7 (v := (vQ f36_p.a)) rfl (by kernel_rfl) (fun w hS => by kernel_rfl) hq103_ ?_
     refine A_tk 8 (v := (vQ f36_p.a)) rfl (by kernel_rfl) (fun w hS => by kernel_rfl) hq103_ ?_
     refine A_tk 9 (v := (vQ f36_p.a)) rfl (by kernel_rfl) (fun w hS => by kernel_rfl) hq103_ ?_
     refine A_tk 10 (v := (vP (some ⟨f36_p.a, 1, none⟩))) rfl (by kernel_rfl) (fun w hS => by kernel_rfl) hq103_ ?_
     refine A_tk 11 (v := f36_p.e) rfl (by kernel_rfl) (fun w hS => x_load1 rfl underlying109 rfl (hS.1.1 1 f36_p.e rfl)) hq103_ ?_
     refine A_tk 12 (v := ((Value.iface jt jx))) rfl (by kernel_rfl) (fun w hS => by kernel_rfl) hq103_ ?_
     refine A_tk 13 (v := ((Value.iface jt jx))) rfl (by kernel_rfl) (fun w hS => x_move rfl) hq103_ ?_
     refine A_ready (i := 14) (rs := []) (by kernel_rfl) ?_
     refine AllR.cons ?_ AllR.nil
     refine A_op (ls' := #[true, true, true, true, true, true, true, true, true, true, true, true, true, true, true, false]) rfl (by kernel_rfl) (T_cmp rfl rfl (O.cmp he (hkp_.e)) H102_ 6 rfl ?_)
     intro w104_ S106_ H105_
     have S107_ := Same.trans (Same.trans S94_ (Same.drew _)) S106_
     refine ⟨⟨(And.intro (Holds.rdf H105_ 0 rfl) (Holds.blk H105_ 0 rfl)), Holds.tr_rd H105_ 1 rfl 9 rfl, (And.intro (Holds.rdf H105_ 3 rfl) (Holds.blk H105_ 3 rfl)), Holds.tr_rd H105_ 8 rfl 9 rfl, (Holds.ro_at H105_ 6 rfl)⟩, ?_⟩
     have hq108_ := And.intro ((And.intro (Holds.rdf H105_ 0 rfl) (Holds.blk H105_ 0 rfl))) (And.intro (Holds.tr_rd H105_ 1 rfl 9 rfl) (And.intro ((And.intro (Holds.rdf H105_ 3 rfl) (Holds.blk H105_ 3 rfl))) (And.intro (Holds.tr_rd H105_ 8 rfl 9 rfl) ((Holds.ro_at H105_ 6 rfl)))))
     refine A_tk 15 (v := (vB (decide (O.cm ke f36_p.ke < 0)))) rfl (by kernel_rfl) (fun w hS => x_bin rfl rfl rfl) hq108_ ?_
     refine A_done (by kernel_rfl) ?_
     refine (X_then (hK101_ _ _ ?_))
     refine C_cond (b := decide (O.cm ke f36_p.ke < 0)) rfl (fun c109_t => ?_) (fun c109_f => ?_)
     ·have c109_tp : O.cm ke f36_p.ke < 0 := of_decide_eq_true c109_t
      omega
     ·have c109_fp : ¬ (O.cm ke f36_p.ke < 0) := of_decide_eq_false c109_f
      refine C_reg ?_
      refine sm (vQ f36_p.a) ?_
      refine sm (vQ b18_) ?_
      refine sv (v := (vQ f36_p.a)) (by kernel_rfl) ?_
      refine sv (v := (vP (some ⟨f36_p.a, 5, none⟩))) (by kernel_rfl) ?_
      refine S_list0 (T_store1f (v := (vQ b18_)) rfl rfl z182 rfl H105_ 0 rfl (Nat.le_of_ble_eq_true (by rfl)) ?_)
      intro w110_ S112_ H111_
      have S113_ := Same.trans S107_ S112_
      refine wn (hK96_ _ _ ?_)
      refine C_reg ?_
      refine sm (vQ f36_p.a) ?_
      refine sm (vQ tb) ?_
      refine sv (v := (vQ tb)) (by kernel_rfl) ?_
      refine sv (v := (vP (some ⟨tb, 2, none⟩))) (by kernel_rfl) ?_
      refine sv (v := (vQ sb)) (x_load1 rfl underlying182 rfl ((Holds.rd H111_ 7 rfl) 2 (vQ sb) rfl)) ?_
      have H114_ := Holds.cons_cx (sb := sb) (f := (⟨false, f36_p, f36_o⟩ : Fr K)) (C := f36_C) (x := b18_) H111_
      have H115_ := H114_
      have H117_ := ((Holds.bring (Holds.bring (Holds.bring (Holds.bring H115_ 7 rfl) 1 rfl) 2 rfl) 5 rfl) :)
      refine S_list (T_call (al := [(vP (some ⟨(pa sb ((⟨false, f36_p, f36_o⟩ : Fr K) :: f36_C)), 0, none⟩)), (vQ sb)]) (pre := [hol (some ((⟨b18_, (Value.iface it ix), (Value.iface jt jx), (Value.iface vt vx), (Value.iface jt jx), 1, kb, ke, ke⟩ : ND K), sb, sb, f36_p.a)), cx sb (ha sb (some ((⟨b18_, (Value.iface it ix), (Value.iface jt jx), (Value.iface vt vx), (Value.iface jt jx), 1, kb, ke, ke⟩ : ND K), sb, sb, f36_p.a))) ((⟨false, f36_p, f36_o⟩ : Fr K) :: f36_C), clf sb 185 sc]) rfl (lcons ((by first | rfl | omega | (simp; done) | (simp; omega)) : (vQ f36_p.a) = (vP (some ⟨(pa sb ((⟨false, f36_p, f36_o⟩ : Fr K) :: f36_C)), 0, none⟩))) rfl) cb142 (itUpMax R K O sb sc (some ((⟨b18_, (Value.iface it ix), (Value.iface jt jx), (Value.iface vt vx), (Value.iface jt jx), 1, kb, ke, ke⟩ : ND K), sb, sb, f36_p.a)) ((⟨false, f36_p, f36_o⟩ : Fr K) :: f36_C) (hck_) (fun q hq => by cases hq; exact he)) H117_ ?_)
      rintro v116_ p121_ w118_ ⟨rfl, rfl⟩ S120_ H119_
      have S122_ := Same.trans S113_ S120_
      have H123_ := H119_
      refine wn (hK85_ _ _ ?_)
      refine cr fun _ hK124_ => ?_
      refine sm (vQ b18_) ?_
      refine sv (v := (vQ b18_)) (by kernel_rfl) ?_
      refine sv (v := (vP (some ⟨b18_, 7, none⟩))) (by kernel_rfl) ?_
      refine S_list0 (T_store1f (v := (vI .i64 1)) rfl rfl z183 rfl H123_ 1 rfl (Nat.le_of_ble_eq_true (by rfl)) ?_)
      intro w125_ S127_ H126_
      have S128_ := Same.trans S122_ S127_
      refine wn (hK124_ _ _ ?_)
      refine cr fun _ hK129_ => ?_
      refine sm (vQ tb) ?_
      refine sm (vQ b18_) ?_
      have H130_ := Holds.pkF H126_ [0, 0, 0, 0, 0, 0, 0] 1
      have H131_ : Holds w125_ (tr sb b18_ (Tr.lf : Tr K) :: ro R :: clf b18_ 185 [((Value.iface it ix)), ((Value.iface jt jx)), ((Value.iface vt vx)), ((Value.iface jt jx)), (vQ sb), (vQ sb), (vQ f36_p.a), (vI .i64 1)] :: cx sb b18_ (upC O (some ((Value.iface jt jx), ke)) ((⟨false, f36_p, f36_o⟩ : Fr K) :: f36_C)) :: clf sb 185 sc :: cl b10_ 111 [((Value.iface it ix)), ((Value.iface jt jx))] :: cl b2_ 111 [((Value.iface it ix)), ((Value.iface jt jx))] :: cl tb 188 [(vQ (ra f36_p.a f36_C)), (vI .i64 cnt), (vQ sb)] :: F) := Holds.lf_tr H130_
      have H132_ : Holds w125_ (tr sb b18_ (Tr.lf : Tr K) :: tr sb b18_ (Tr.lf : Tr K) :: ro R :: clf b18_ 185 [((Value.iface it ix)), ((Value.iface jt jx)), ((Value.iface vt vx)), ((Value.iface jt jx)), (vQ sb), (vQ sb), (vQ f36_p.a), (vI .i64 1)] :: cx sb b18_ (upC O (some ((Value.iface jt jx), ke)) ((⟨false, f36_p, f36_o⟩ : Fr K) :: f36_C)) :: clf sb 185 sc :: cl b10_ 111 [((Value.iface it ix)), ((Value.iface jt jx))] :: cl b2_ 111 [((Value.iface it ix)), ((Value.iface jt jx))] :: cl tb 188 [(vQ (ra f36_p.a f36_C)), (vI .i64 cnt), (vQ sb)] :: F) := Holds.lf_tr H131_
      have H133_ := ((Holds.bring (Holds.bring (Holds.bring H132_ 1 rfl) 1 rfl) 3 rfl) :)
      have H134_ := Holds.nd_tr (n := (⟨b18_, (Value.iface it ix), (Value.iface jt jx), (Value.iface vt vx), (Value.iface jt jx), 1, kb, ke, ke⟩ : ND K)) (a := (Tr.lf : Tr K)) (b := (Tr.lf : Tr K)) H133_
      have H135_ : Holds w125_ (tr sb (pa sb ((⟨false, f36_p, f36_o⟩ : Fr K) :: f36_C)) (Tr.nd (⟨b18_, (Value.iface it ix), (Value.iface jt jx), (Value.iface vt vx), (Value.iface jt jx), 1, kb, ke, ke⟩ : ND K) (Tr.lf : Tr K) (Tr.lf : Tr K)) :: ro R :: cx sb b18_ (upC O (some ((Value.iface jt jx), ke)) ((⟨false, f36_p, f36_o⟩ : Fr K) :: f36_C)) :: clf sb 185 sc :: cl b10_ 111 [((Value.iface it ix)), ((Value.iface jt jx))] :: cl b2_ 111 [((Value.iface it ix)), ((Value.iface jt jx))] :: cl tb 188 [(vP (some ⟨(ra b18_ ((⟨false, f36_p, f36_o⟩ : Fr K) :: f36_C)), 0, none⟩)), (vI .i64 cnt), (vQ sb)] :: F) := (H134_)
      have H136_ := H135_; rw [← pa_upC (O := O) sb ((⟨false, f36_p, f36_o⟩ : Fr K) :: f36_C) (some ((Value.iface jt jx), ke)), ← ra_upC O ((⟨false, f36_p, f36_o⟩ : Fr K) :: f36_C) b18_ (some ((Value.iface jt jx), ke))] at H136_
      have H137_ := H136_
      have hFx_ : FxI O R (inl ((⟨false, f36_p, f36_o⟩ : Fr K) :: f36_C) ++ (⟨b18_, (Value.iface it ix), (Value.iface jt jx), (Value.iface vt vx), (Value.iface jt jx), 1, kb, ke, ke⟩ : ND K).er :: inr ((⟨false, f36_p, f36_o⟩ : Fr K) :: f36_C)) (upC O (some ((Value.iface jt jx), ke)) ((⟨false, f36_p, f36_o⟩ : Fr K) :: f36_C)) (Tr.nd (⟨b18_, (Value.iface it ix), (Value.iface jt jx), (Value.iface vt vx), (Value.iface jt jx), 1, kb, ke, ke⟩ : ND K) (Tr.lf : Tr K) (Tr.lf : Tr K)) := ins_fx hW1 hCk hb he
      have H138_ := Holds.recl H137_ 6 rfl ((lcons ((by first | rfl | omega | (simp; done) | (simp; omega)) : (vP (some ⟨(ra b18_ (upC O (some ((Value.iface jt jx), ke)) ((⟨false, f36_p, f36_o⟩ : Fr K) :: f36_C))), 0, none⟩)) = (vP (some ⟨(ra (⟨b18_, (Value.iface it ix), (Value.iface jt jx), (Value.iface vt vx), (Value.iface jt jx), 1, kb, ke, ke⟩ : ND K).a (upC O (some ((Value.iface jt jx), ke)) ((⟨false, f36_p, f36_o⟩ : Fr K) :: f36_C))), 0, none⟩))) rfl) : [(vP (some ⟨(ra b18_ (upC O (some ((Value.iface jt jx), ke)) ((⟨false, f36_p, f36_o⟩ : Fr K) :: f36_C))), 0, none⟩)), (vI .i64 cnt), (vQ sb)] = [(vP (some ⟨(ra (⟨b18_, (Value.iface it ix), (Value.iface jt jx), (Value.iface vt vx), (Value.iface jt jx), 1, kb, ke, ke⟩ : ND K).a (upC O (some ((Value.iface jt jx), ke)) ((⟨false, f36_p, f36_o⟩ : Fr K) :: f36_C))), 0, none⟩)), (vI .i64 cnt), (vQ sb)])
      have eH139_ : cx sb b18_ (upC O (some ((Value.iface jt jx), ke)) ((⟨false, f36_p, f36_o⟩ : Fr K) :: f36_C)) = cx sb ((⟨b18_, (Value.iface it ix), (Value.iface jt jx), (Value.iface vt vx), (Value.iface jt jx), 1, kb, ke, ke⟩ : ND K).a) (upC O (some ((Value.iface jt jx), ke)) ((⟨false, f36_p, f36_o⟩ : Fr K) :: f36_C)) := by first | rfl | (congr 1 <;> first | rfl | omega | (simp; done) | (simp; omega))
      have H139_ : Holds w125_ (tr sb (pa sb (upC O (some ((Value.iface jt jx), ke)) ((⟨false, f36_p, f36_o⟩ : Fr K) :: f36_C))) (Tr.nd (⟨b18_, (Value.iface it ix), (Value.iface jt jx), (Value.iface vt vx), (Value.iface jt jx), 1, kb, ke, ke⟩ : ND K) (Tr.lf : Tr K) (Tr.lf : Tr K)) :: ro R :: cx sb ((⟨b18_, (Value.iface it ix), (Value.iface jt jx), (Value.iface vt vx), (Value.iface jt jx), 1, kb, ke, ke⟩ : ND K).a) (upC O (some ((Value.iface jt jx), ke)) ((⟨false, f36_p, f36_o⟩ : Fr K) :: f36_C)) :: clf sb 185 sc :: cl b10_ 111 [((Value.iface it ix)), ((Value.iface jt jx))] :: cl b2_ 111 [((Value.iface it ix)), ((Value.iface jt jx))] :: cl tb 188 [(vP (some ⟨(ra (⟨b18_, (Value.iface it ix), (Value.iface jt jx), (Value.iface vt vx), (Value.iface jt jx), 1, kb, ke, ke⟩ : ND K).a (upC O (some ((Value.iface jt jx), ke)) ((⟨false, f36_p, f36_o⟩ : Fr K) :: f36_C))), 0, none⟩)), (vI .i64 cnt), (vQ sb)] :: F) := cast1 (P := fun c__ => Holds w125_ (tr sb (pa sb (upC O (some ((Value.iface jt jx), ke)) ((⟨false, f36_p, f36_o⟩ : Fr K) :: f36_C))) (Tr.nd (⟨b18_, (Value.iface it ix), (Value.iface jt jx), (Value.iface vt vx), (Value.iface jt jx), 1, kb, ke, ke⟩ : ND K) (Tr.lf : Tr K) (Tr.lf : Tr K)) :: ro R :: c__ :: clf sb 185 sc :: cl b10_ 111 [((Value.iface it ix)), ((Value.iface jt jx))] :: cl b2_ 111 [((Value.iface it ix)), ((Value.iface jt jx))] :: cl tb 188 [(vP (some ⟨(ra (⟨b18_, (Value.iface it ix), (Value.iface jt jx), (Value.iface vt vx), (Value.iface jt jx), 1, kb, ke, ke⟩ : ND K).a (upC O (some ((Value.iface jt jx), ke)) ((⟨false, f36_p, f36_o⟩ : Fr K) :: f36_C))), 0, none⟩)), (vI .i64 cnt), (vQ sb)] :: F)) eH139_ H138_
      have H143_ := ((Holds.bring (Holds.bring (Holds.bring (Holds.bring (Holds.bring H139_ 3 rfl) 3 rfl) 2 rfl) 6 rfl) 4 rfl) :)
      refine S_list (T_call (al := [(vQ tb), (vP (some ⟨(⟨b18_, (Value.iface it ix), (Value.iface jt jx), (Value.iface vt vx), (Value.iface jt jx), 1, kb, ke, ke⟩ : ND K).a, 0, none⟩))]) (pre := [cl tb 188 [(vP (some ⟨(ra (⟨b18_, (Value.iface it ix), (Value.iface jt jx), (Value.iface vt vx), (Value.iface jt jx), 1, kb, ke, ke⟩ : ND K).a (upC O (some ((Value.iface jt jx), ke)) ((⟨false, f36_p, f36_o⟩ : Fr K) :: f36_C))), 0, none⟩)), (vI .i64 cnt), (vQ sb)], tr sb (pa sb (upC O (some ((Value.iface jt jx), ke)) ((⟨false, f36_p, f36_o⟩ : Fr K) :: f36_C))) (Tr.nd (⟨b18_, (Value.iface it ix), (Value.iface jt jx), (Value.iface vt vx), (Value.iface jt jx), 1, kb, ke, ke⟩ : ND K) (Tr.lf : Tr K) (Tr.lf : Tr K)), cx sb ((⟨b18_, (Value.iface it ix), (Value.iface jt jx), (Value.iface vt vx), (Value.iface jt jx), 1, kb, ke, ke⟩ : ND K).a) (upC O (some ((Value.iface jt jx), ke)) ((⟨false, f36_p, f36_o⟩ : Fr K) :: f36_C)), clf sb 185 sc]) rfl (lcons rfl (lcons ((by first | rfl | omega | (simp; done) | (simp; omega)) : (vQ b18_) = (vP (some ⟨(⟨b18_, (Value.iface it ix), (Value.iface jt jx), (Value.iface vt vx), (Value.iface jt jx), 1, kb, ke, ke⟩ : ND K).a, 0, none⟩))) rfl)) cb162 (itFix R K O tb sb cnt sc (⟨b18_, (Value.iface it ix), (Value.iface jt jx), (Value.iface vt vx), (Value.iface jt jx), 1, kb, ke, ke⟩ : ND K) (Tr.lf : Tr K) (Tr.lf : Tr K) (upC O (some ((Value.iface jt jx), ke)) ((⟨false, f36_p, f36_o⟩ : Fr K) :: f36_C)) (inl ((⟨false, f36_p, f36_o⟩ : Fr K) :: f36_C) ++ (⟨b18_, (Value.iface it ix), (Value.iface jt jx), (Value.iface vt vx), (Value.iface jt jx), 1, kb, ke, ke⟩ : ND K).er :: inr ((⟨false, f36_p, f36_o⟩ : Fr K) :: f36_C)) (hFx_)) H143_ ?_)
      rintro v140_ p147_ w144_ ⟨W141_, rfl, rfl, he142_⟩ S146_ H145_
      have S148_ := Same.trans S128_ S146_
      refine wn (hK129_ _ _ ?_)
      refine C_reg ?_
      refine sm (vQ tb) ?_
      refine sv (v := (vQ tb)) (by kernel_rfl) ?_
      refine sv (v := (vP (some ⟨tb, 1, none⟩))) (by kernel_rfl) ?_
      refine sv (v := (vI .i64 cnt)) (x_load1 rfl underlying3 rfl ((Holds.rd H145_ 1 rfl) 1 (vI .i64 cnt) rfl)) ?_
      refine sv (v := (vI .i64 (IntKind.i64.wrap (cnt + 1)))) (x_bin rfl rfl rfl) ?_
      refine sv (v := (vQ tb)) (by kernel_rfl) ?_
      refine sv (v := (vP (some ⟨tb, 1, none⟩))) (by kernel_rfl) ?_
      refine S_list0 (T_store1 (v := (vI .i64 (IntKind.i64.wrap (cnt + 1)))) rfl rfl z3 rfl H145_ 1 rfl (Nat.le_of_ble_eq_true (by rfl)) ?_)
      intro w149_ S151_ H150_
      have S152_ := Same.trans S148_ S151_
      refine wpList_nil ?_
      refine R_0 rfl ?_
      have H153_ := Holds.pkF H150_ [0, 0, 0, 0] 2
      exact ⟨_, _, rfl, ⟨W141_, (inl ((⟨false, f36_p, f36_o⟩ : Fr K) :: f36_C)), (inr ((⟨false, f36_p, f36_o⟩ : Fr K) :: f36_C)), (⟨b18_, (Value.iface it ix), (Value.iface jt jx), (Value.iface vt vx), (Value.iface jt jx), 1, kb, ke, ke⟩ : ND K), rfl, rfl, (⟨he142_.1, he142_.2.1, he142_.2.2.2⟩), (he142_.2.2.1), (by rw [ino_plug]; simp [ino]), (⟨rfl, rfl, rfl, rfl, rfl⟩), (by rw [he142_.2.2.1]; exact ins_srt hway (by have := hs; rw [ino_plug] at this; simpa [ino] using this)), ((way_in (C := ((⟨false, f36_p, f36_o⟩ : Fr K) :: f36_C)) (M := []) hway (by have := hs; rw [ino_plug] at this; simpa [ino] using this)).1), ((way_in (C := ((⟨false, f36_p, f36_o⟩ : Fr K) :: f36_C)) (M := []) hway (by have := hs; rw [ino_plug] at this; simpa [ino] using this)).2)⟩, S152_, H153_⟩
    ·have c100_fp : ¬ (O.cm kb f36_p.kb = 0) := of_decide_eq_false c100_f
     refine C_reg ?_
     refine sm (vQ f36_p.a) ?_
     refine sm (vQ b18_) ?_
     refine sv (v := (vQ f36_p.a)) (by kernel_rfl) ?_
     refine sv (v := (vP (some ⟨f36_p.a, 5, none⟩))) (by kernel_rfl) ?_
     refine S_list0 (T_store1f (v := (vQ b18_)) rfl rfl z182 rfl H92_ 0 rfl (Nat.le_of_ble_eq_true (by rfl)) ?_)
     intro w154_ S156_ H155_
     have S157_ := Same.trans S94_ S156_
     refine wn (hK96_ _ _ ?_)
     refine C_reg ?_
     refine sm (vQ f36_p.a) ?_
     refine sm (vQ tb) ?_
     refine sv (v := (vQ tb)) (by kernel_rfl) ?_
     refine sv (v := (vP (some ⟨tb, 2, none⟩))) (by kernel_rfl) ?_
     refine sv (v := (vQ sb)) (x_load1 rfl underlying182 rfl ((Holds.rd H155_ 7 rfl) 2 (vQ sb) rfl)) ?_
     have H158_ := Holds.cons_cx (sb := sb) (f := (⟨false, f36_p, f36_o⟩ : Fr K)) (C := f36_C) (x := b18_) H155_
     have H159_ := H158_
     have H161_ := ((Holds.bring (Holds.bring (Holds.bring (Holds.bring H159_ 7 rfl) 1 rfl) 2 rfl) 5 rfl) :)
     refine S_list (T_call (al := [(vP (some ⟨(pa sb ((⟨false, f36_p, f36_o⟩ : Fr K) :: f36_C)), 0, none⟩)), (vQ sb)]) (pre := [hol (some ((⟨b18_, (Value.iface it ix), (Value.iface jt jx), (Value.iface vt vx), (Value.iface jt jx), 1, kb, ke, ke⟩ : ND K), sb, sb, f36_p.a)), cx sb (ha sb (some ((⟨b18_, (Value.iface it ix), (Value.iface jt jx), (Value.iface vt vx), (Value.iface jt jx), 1, kb, ke, ke⟩ : ND K), sb, sb, f36_p.a))) ((⟨false, f36_p, f36_o⟩ : Fr K) :: f36_C), clf sb 185 sc]) rfl (lcons ((by first | rfl | omega | (simp; done) | (simp; omega)) : (vQ f36_p.a) = (vP (some ⟨(pa sb ((⟨false, f36_p, f36_o⟩ : Fr K) :: f36_C)), 0, none⟩))) rfl) cb142 (itUpMax R K O sb sc (some ((⟨b18_, (Value.iface it ix), (Value.iface jt jx), (Value.iface vt vx), (Value.iface jt jx), 1, kb, ke, ke⟩ : ND K), sb, sb, f36_p.a)) ((⟨false, f36_p, f36_o⟩ : Fr K) :: f36_C) (hck_) (fun q hq => by cases hq; exact he)) H161_ ?_)
     rintro v160_ p165_ w162_ ⟨rfl, rfl⟩ S164_ H163_
     have S166_ := Same.trans S157_ S164_
     have H167_ := H163_
     refine wn (hK85_ _ _ ?_)
     refine cr fun _ hK168_ => ?_
     refine sm (vQ b18_) ?_
     refine sv (v := (vQ b18_)) (by kernel_rfl) ?_
     refine sv (v := (vP (some ⟨b18_, 7, none⟩))) (by kernel_rfl) ?_
     refine S_list0 (T_store1f (v := (vI .i64 1)) rfl rfl z183 rfl H167_ 1 rfl (Nat.le_of_ble_eq_true (by rfl)) ?_)
     intro w169_ S171_ H170_
     have S172_ := Same.trans S166_ S171_
     refine wn (hK168_ _ _ ?_)
     refine cr fun _ hK173_ => ?_
     refine sm (vQ tb) ?_
     refine sm (vQ b18_) ?_
     have H174_ := Holds.pkF H170_ [0, 0, 0, 0, 0, 0, 0] 1
     have H175_ : Holds w169_ (tr sb b18_ (Tr.lf : Tr K) :: ro R :: clf b18_ 185 [((Value.iface it ix)), ((Value.iface jt jx)), ((Value.iface vt vx)), ((Value.iface jt jx)), (vQ sb), (vQ sb), (vQ f36_p.a), (vI .i64 1)] :: cx sb b18_ (upC O (some ((Value.iface jt jx), ke)) ((⟨false, f36_p, f36_o⟩ : Fr K) :: f36_C)) :: clf sb 185 sc :: cl b10_ 111 [((Value.iface it ix)), ((Value.iface jt jx))] :: cl b2_ 111 [((Value.iface it ix)), ((Value.iface jt jx))] :: cl tb 188 [(vQ (ra f36_p.a f36_C)), (vI .i64 cnt), (vQ sb)] :: F) := Holds.lf_tr H174_
     have H176_ : Holds w169_ (tr sb b18_ (Tr.lf : Tr K) :: tr sb b18_ (Tr.lf : Tr K) :: ro R :: clf b18_ 185 [((Value.iface it ix)), ((Value.iface jt jx)), ((Value.iface vt vx)), ((Value.iface jt jx)), (vQ sb), (vQ sb), (vQ f36_p.a), (vI .i64 1)] :: cx sb b18_ (upC O (some ((Value.iface jt jx), ke)) ((⟨false, f36_p, f36_o⟩ : Fr K) :: f36_C)) :: clf sb 185 sc :: cl b10_ 111 [((Value.iface it ix)), ((Value.iface jt jx))] :: cl b2_ 111 [((Value.iface it ix)), ((Value.iface jt jx))] :: cl tb 188 [(vQ (ra f36_p.a f36_C)), (vI .i64 cnt), (vQ sb)] :: F) := Holds.lf_tr H175_
     have H177_ := ((Holds.bring (Holds.bring (Holds.bring H176_ 1 rfl) 1 rfl) 3 rfl) :)
     have H178_ := Holds.nd_tr (n := (⟨b18_, (Value.iface it ix), (Value.iface jt jx), (Value.iface vt vx), (Value.iface jt jx), 1, kb, ke, ke⟩ : ND K)) (a := (Tr.lf : Tr K)) (b := (Tr.lf : Tr K)) H177_
     have H179_ : Holds w169_ (tr sb (pa sb ((⟨false, f36_p, f36_o⟩ : Fr K) :: f36_C)) (Tr.nd (⟨b18_, (Value.iface it ix), (Value.iface jt jx), (Value.iface vt vx), (Value.iface jt jx), 1, kb, ke, ke⟩ : ND K) (Tr.lf : Tr K) (Tr.lf : Tr K)) :: ro R :: cx sb b18_ (upC O (some ((Value.iface jt jx), ke)) ((⟨false, f36_p, f36_o⟩ : Fr K) :: f36_C)) :: clf sb 185 sc :: cl b10_ 111 [((Value.iface it ix)), ((Value.iface jt jx))] :: cl b2_ 111 [((Value.iface it ix)), ((Value.iface jt jx))] :: cl tb 188 [(vP (some ⟨(ra b18_ ((⟨false, f36_p, f36_o⟩ : Fr K) :: f36_C)), 0, none⟩)), (vI .i64 cnt), (vQ sb)] :: F) := (H178_)
     have H180_ := H179_; rw [← pa_upC (O := O) sb ((⟨false, f36_p, f36_o⟩ : Fr K) :: f36_C) (some ((Value.iface jt jx), ke)), ← ra_upC O ((⟨false, f36_p, f36_o⟩ : Fr K) :: f36_C) b18_ (some ((Value.iface jt jx), ke))] at H180_
     have H181_ := H180_
     have hFx_ : FxI O R (inl ((⟨false, f36_p, f36_o⟩ : Fr K) :: f36_C) ++ (⟨b18_, (Value.iface it ix), (Value.iface jt jx), (Value.iface vt vx), (Value.iface jt jx), 1, kb, ke, ke⟩ : ND K).er :: inr ((⟨false, f36_p, f36_o⟩ : Fr K) :: f36_C)) (upC O (some ((Value.iface jt jx), ke)) ((⟨false, f36_p, f36_o⟩ : Fr K) :: f36_C)) (Tr.nd (⟨b18_, (Value.iface it ix), (Value.iface jt jx), (Value.iface vt vx), (Value.iface jt jx), 1, kb, ke, ke⟩ : ND K) (Tr.lf : Tr K) (Tr.lf : Tr K)) := ins_fx hW1 hCk hb he
     have H182_ := Holds.recl H181_ 6 rfl ((lcons ((by first | rfl | omega | (simp; done) | (simp; omega)) : (vP (some ⟨(ra b18_ (upC O (some ((Value.iface jt jx), ke)) ((⟨false, f36_p, f36_o⟩ : Fr K) :: f36_C))), 0, none⟩)) = (vP (some ⟨(ra (⟨b18_, (Value.iface it ix), (Value.iface jt jx), (Value.iface vt vx), (Value.iface jt jx), 1, kb, ke, ke⟩ : ND K).a (upC O (some ((Value.iface jt jx), ke)) ((⟨false, f36_p, f36_o⟩ : Fr K) :: f36_C))), 0, none⟩))) rfl) : [(vP (some ⟨(ra b18_ (upC O (some ((Value.iface jt jx), ke)) ((⟨false, f36_p, f36_o⟩ : Fr K) :: f36_C))), 0, none⟩)), (vI .i64 cnt), (vQ sb)] = [(vP (some ⟨(ra (⟨b18_, (Value.iface it ix), (Value.iface jt jx), (Value.iface vt vx), (Value.iface jt jx), 1, kb, ke, ke⟩ : ND K).a (upC O (some ((Value.iface jt jx), ke)) ((⟨false, f36_p, f36_o⟩ : Fr K) :: f36_C))), 0, none⟩)), (vI .i64 cnt), (vQ sb)])
     have eH183_ : cx sb b18_ (upC O (some ((Value.iface jt jx), ke)) ((⟨false, f36_p, f36_o⟩ : Fr K) :: f36_C)) = cx sb ((⟨b18_, (Value.iface it ix), (Value.iface jt jx), (Value.iface vt vx), (Value.iface jt jx), 1, kb, ke, ke⟩ : ND K).a) (upC O (some ((Value.iface jt jx), ke)) ((⟨false, f36_p, f36_o⟩ : Fr K) :: f36_C)) := by first | rfl | (congr 1 <;> first | rfl | omega | (simp; done) | (simp; omega))
     have H183_ : Holds w169_ (tr sb (pa sb (upC O (some ((Value.iface jt jx), ke)) ((⟨false, f36_p, f36_o⟩ : Fr K) :: f36_C))) (Tr.nd (⟨b18_, (Value.iface it ix), (Value.iface jt jx), (Value.iface vt vx), (Value.iface jt jx), 1, kb, ke, ke⟩ : ND K) (Tr.lf : Tr K) (Tr.lf : Tr K)) :: ro R :: cx sb ((⟨b18_, (Value.iface it ix), (Value.iface jt jx), (Value.iface vt vx), (Value.iface jt jx), 1, kb, ke, ke⟩ : ND K).a) (upC O (some ((Value.iface jt jx), ke)) ((⟨false, f36_p, f36_o⟩ : Fr K) :: f36_C)) :: clf sb 185 sc :: cl b10_ 111 [((Value.iface it ix)), ((Value.iface jt jx))] :: cl b2_ 111 [((Value.iface it ix)), ((Value.iface jt jx))] :: cl tb 188 [(vP (some ⟨(ra (⟨b18_, (Value.iface it ix), (Value.iface jt jx), (Value.iface vt vx), (Value.iface jt jx), 1, kb, ke, ke⟩ : ND K).a (upC O (some ((Value.iface jt jx), ke)) ((⟨false, f36_p, f36_o⟩ : Fr K) :: f36_C))), 0, none⟩)), (vI .i64 cnt), (vQ sb)] :: F) := cast1 (P := fun c__ => Holds w169_ (tr sb (pa sb (upC O (some ((Value.iface jt jx), ke)) ((⟨false, f36_p, f36_o⟩ : Fr K) :: f36_C))) (Tr.nd (⟨b18_, (Value.iface it ix), (Value.iface jt jx), (Value.iface vt vx), (Value.iface jt jx), 1, kb, ke, ke⟩ : ND K) (Tr.lf : Tr K) (Tr.lf : Tr K)) :: ro R :: c__ :: clf sb 185 sc :: cl b10_ 111 [((Value.iface it ix)), ((Value.iface jt jx))] :: cl b2_ 111 [((Value.iface it ix)), ((Value.iface jt jx))] :: cl tb 188 [(vP (some ⟨(ra (⟨b18_, (Value.iface it ix), (Value.iface jt jx), (Value.iface vt vx), (Value.iface jt jx), 1, kb, ke, ke⟩ : ND K).a (upC O (some ((Value.iface jt jx), ke)) ((⟨false, f36_p, f36_o⟩ : Fr K) :: f36_C))), 0, none⟩)), (vI .i64 cnt), (vQ sb)] :: F)) eH183_ H182_
     have H187_ := ((Holds.bring (Holds.bring (Holds.bring (Holds.bring (Holds.bring H183_ 3 rfl) 3 rfl) 2 rfl) 6 rfl) 4 rfl) :)
     refine S_list (T_call (al := [(vQ tb), (vP (some ⟨(⟨b18_, (Value.iface it ix), (Value.iface jt jx), (Value.iface vt vx), (Value.iface jt jx), 1, kb, ke, ke⟩ : ND K).a, 0, none⟩))]) (pre := [cl tb 188 [(vP (some ⟨(ra (⟨b18_, (Value.iface it ix), (Value.iface jt jx), (Value.iface vt vx), (Value.iface jt jx), 1, kb, ke, ke⟩ : ND K).a (upC O (some ((Value.iface jt jx), ke)) ((⟨false, f36_p, f36_o⟩ : Fr K) :: f36_C))), 0, none⟩)), (vI .i64 cnt), (vQ sb)], tr sb (pa sb (upC O (some ((Value.iface jt jx), ke)) ((⟨false, f36_p, f36_o⟩ : Fr K) :: f36_C))) (Tr.nd (⟨b18_, (Value.iface it ix), (Value.iface jt jx), (Value.iface vt vx), (Value.iface jt jx), 1, kb, ke, ke⟩ : ND K) (Tr.lf : Tr K) (Tr.lf : Tr K)), cx sb ((⟨b18_, (Value.iface it ix), (Value.iface jt jx), (Value.iface vt vx), (Value.iface jt jx), 1, kb, ke, ke⟩ : ND K).a) (upC O (some ((Value.iface jt jx), ke)) ((⟨false, f36_p, f36_o⟩ : Fr K) :: f36_C)), clf sb 185 sc]) rfl (lcons rfl (lcons ((by first | rfl | omega | (simp; done) | (simp; omega)) : (vQ b18_) = (vP (some ⟨(⟨b18_, (Value.iface it ix), (Value.iface jt jx), (Value.iface vt vx), (Value.iface jt jx), 1, kb, ke, ke⟩ : ND K).a, 0, none⟩))) rfl)) cb162 (itFix R K O tb sb cnt sc (⟨b18_, (Value.iface it ix), (Value.iface jt jx), (Value.iface vt vx), (Value.iface jt jx), 1, kb, ke, ke⟩ : ND K) (Tr.lf : Tr K) (Tr.lf : Tr K) (upC O (some ((Value.iface jt jx), ke)) ((⟨false, f36_p, f36_o⟩ : Fr K) :: f36_C)) (inl ((⟨false, f36_p, f36_o⟩ : Fr K) :: f36_C) ++ (⟨b18_, (Value.iface it ix), (Value.iface jt jx), (Value.iface vt vx), (Value.iface jt jx), 1, kb, ke, ke⟩ : ND K).er :: inr ((⟨false, f36_p, f36_o⟩ : Fr K) :: f36_C)) (hFx_)) H187_ ?_)
     rintro v184_ p191_ w188_ ⟨W185_, rfl, rfl, he186_⟩ S190_ H189_
     have S192_ := Same.trans S172_ S190_
     refine wn (hK173_ _ _ ?_)
     refine C_reg ?_
     refine sm (vQ tb) ?_
     refine sv (v := (vQ tb)) (by kernel_rfl) ?_
     refine sv (v := (vP (some ⟨tb, 1, none⟩))) (by kernel_rfl) ?_
     refine sv (v := (vI .i64 cnt)) (x_load1 rfl underlying3 rfl ((Holds.rd H189_ 1 rfl) 1 (vI .i64 cnt) rfl)) ?_
     refine sv (v := (vI .i64 (IntKind.i64.wrap (cnt + 1)))) (x_bin rfl rfl rfl) ?_
     refine sv (v := (vQ tb)) (by kernel_rfl) ?_
     refine sv (v := (vP (some ⟨tb, 1, none⟩))) (by kernel_rfl) ?_
     refine S_list0 (T_store1 (v := (vI .i64 (IntKind.i64.wrap (cnt + 1)))) rfl rfl z3 rfl H189_ 1 rfl (Nat.le_of_ble_eq_true (by rfl)) ?_)
     intro w193_ S195_ H194_
     have S196_ := Same.trans S192_ S195_
     refine wpList_nil ?_
     refine R_0 rfl ?_
     have H197_ := Holds.pkF H194_ [0, 0, 0, 0] 2
     exact ⟨_, _, rfl, ⟨W185_, (inl ((⟨false, f36_p, f36_o⟩ : Fr K) :: f36_C)), (inr ((⟨false, f36_p, f36_o⟩ : Fr K) :: f36_C)), (⟨b18_, (Value.iface it ix), (Value.iface jt jx), (Value.iface vt vx), (Value.iface jt jx), 1, kb, ke, ke⟩ : ND K), rfl, rfl, (⟨he186_.1, he186_.2.1, he186_.2.2.2⟩), (he186_.2.2.1), (by rw [ino_plug]; simp [ino]), (⟨rfl, rfl, rfl, rfl, rfl⟩), (by rw [he186_.2.2.1]; exact ins_srt hway (by have := hs; rw [ino_plug] at this; simpa [ino] using this)), ((way_in (C := ((⟨false, f36_p, f36_o⟩ : Fr K) :: f36_C)) (M := []) hway (by have := hs; rw [ino_plug] at this; simpa [ino] using this)).1), ((way_in (C := ((⟨false, f36_p, f36_o⟩ : Fr K) :: f36_C)) (M := []) hway (by have := hs; rw [ino_plug] at this; simpa [ino] using this)).2)⟩, S196_, H197_⟩
  ·skip
   subst hpl
   have H198_ := H34_; rw [show rt sb (plug ((⟨true, f36_p, f36_o⟩ : Fr K) :: f36_C) (Tr.lf : Tr K)) = ra f36_p.a f36_C from rt_plug sb f36_C f36_p (Tr.lf : Tr K) f36_o] at H198_
   have H199_ := H198_
   have H200_ := Holds.cx_cons H199_
   obtain ⟨ht_, hcx_⟩ : LocT O (Tr.lf : Tr K) ∧ LocC O none ((⟨true, f36_p, f36_o⟩ : Fr K) :: f36_C) := loc_unplug (C := ((⟨true, f36_p, f36_o⟩ : Fr K) :: f36_C)) (t := (Tr.lf : Tr K)) hW1.2.1
   have hck_ : COk O R ((⟨true, f36_p, f36_o⟩ : Fr K) :: f36_C) := hCk
   have hkp_ := (hck_ _ (List.mem_cons_self ..)).1
   have hw_ := hway.1; unfold bef at hw_; simp only [if_true, if_false, Bool.false_eq_true] at hw_
   refine sm (vQ b18_) ?_
   refine sm (vQ f36_p.a) ?_
   refine sv (v := (vQ b18_)) (by kernel_rfl) ?_
   refine sv (v := (vP (some ⟨b18_, 6, none⟩))) (by kernel_rfl) ?_
   refine S_list0 (T_store1f (v := (vQ f36_p.a)) rfl rfl z182 rfl H200_ 3 rfl (Nat.le_of_ble_eq_true (by rfl)) ?_)
   intro w201_ S203_ H202_
   have S204_ := Same.trans S30_ S203_
   refine wn (hK35_ _ _ ?_)
   refine C_seq (fun _ hK205_ => ?_)
   refine cr fun _ hK206_ => ?_
   refine sm (vQ f36_p.a) ?_
   refine sm (vQ tb) ?_
   refine sv (v := (vQ tb)) (by kernel_rfl) ?_
   refine sv (v := (vP (some ⟨tb, 2, none⟩))) (by kernel_rfl) ?_
   refine sv (v := (vQ sb)) (x_load1 rfl underlying182 rfl ((Holds.rd H202_ 7 rfl) 2 (vQ sb) rfl)) ?_
   have hpc207_ : f36_p.a ≠ sb := Holds.ne_f H202_ 0 rfl 9 rfl (by decide)
   refine sv (v := (vB false)) (x_cast (x_eqPN rfl rfl underlying182 z185 (by decide) (Holds.blk H202_ 0 rfl) (Holds.blk H202_ 9 rfl)) (congrArg vB (decide_eq_false hpc207_))) ?_
   refine wn (hK206_ _ _ ?_)
   refine C_condF rfl ?_
   refine C_seq (fun _ hK208_ => ?_)
   refine A_start (S := fun w => (Rd f36_p.a [f36_p.b, f36_p.e, f36_p.v, f36_p.mx, (vQ sb), (vQ (rt sb f36_o)), (vQ (pa sb f36_C)), (vI .i64 f36_p.c)] w ∧ Blk w f36_p.a) ∧ RtRd w (rt sb f36_o) (rmx f36_o) ∧ (Rd b18_ [((Value.iface it ix)), ((Value.iface jt jx)), ((Value.iface vt vx)), ((Value.iface jt jx)), (vQ sb), (vQ sb), (vQ f36_p.a), (vI .i64 1)] w ∧ Blk w b18_) ∧ RtRd w (rt sb (Tr.lf : Tr K)) (rmx (Tr.lf : Tr K)) ∧ Sub R (hp w)) (N := 16) foll rfl rfl ?_
   have H209_ := Holds.drew_ H202_
   have hq210_ := And.intro ((And.intro (Holds.rdf H209_ 0 rfl) (Holds.blk H209_ 0 rfl))) (And.intro (Holds.tr_rd H209_ 1 rfl 9 rfl) (And.intro ((And.intro (Holds.rdf H209_ 3 rfl) (Holds.blk H209_ 3 rfl))) (And.intro (Holds.tr_rd H209_ 8 rfl 9 rfl) ((Holds.ro_at H209_ 6 rfl)))))
   refine A_tk 0 (v := (vQ b18_)) rfl (by kernel_rfl) (fun w hS => x_move rfl) hq210_ ?_
   refine A_tk 1 (v := (vQ b18_)) rfl (by kernel_rfl) (fun w hS => by kernel_rfl) hq210_ ?_
   refine A_tk 2 (v := (vQ b18_)) rfl (by kernel_rfl) (fun w hS => by kernel_rfl) hq210_ ?_
   refine A_tk 3 (v := (vQ b18_)) rfl (by kernel_rfl) (fun w hS => by kernel_rfl) hq210_ ?_
   refine A_tk 4 (v := (vQ b18_)) rfl (by kernel_rfl) (fun w hS => by kernel_rfl) hq210_ ?_
   refine A_tk 5 (v := ((Value.iface it ix))) rfl (by kernel_rfl) (fun w hS => x_load1 rfl underlying109 rfl (hS.2.2.1.1 0 ((Value.iface it ix)) rfl)) hq210_ ?_
   refine A_tk 6 (v := (vQ f36_p.a)) rfl (by kernel_rfl) (fun w hS => x_move rfl) hq210_ ?_
   refine A_tk 7 (v := (vQ f36_p.a)) rfl (by kernel_rfl) (fun w hS => by kernel_rfl) hq210_ ?_
   refine A_tk 8 (v := (vQ f36_p.a)) rfl (by kernel_rfl) (fun w hS => by kernel_rfl) hq210_ ?_
   refine A_tk 9 (v := (vQ f36_p.a)) rfl (by kernel_rfl) (fun w hS => by kernel_rfl) hq210_ ?_
   refine A_tk 10 (v := (vQ f36_p.a)) rfl (by kernel_rfl) (fun w hS => by kernel_rfl) hq210_ ?_
   refine A_tk 11 (v := f36_p.b) rfl (by kernel_rfl) (fun w hS => x_load1 rfl underlying109 rfl (hS.1.1 0 f36_p.b rfl)) hq210_ ?_
   refine A_tk 12 (v := ((Value.iface it ix))) rfl (by kernel_rfl) (fun w hS => by kernel_rfl) hq210_ ?_
   refine A_tk 13 (v := ((Value.iface it ix))) rfl (by kernel_rfl) (fun w hS => x_move rfl) hq210_ ?_
   refine A_ready (i := 14) (rs := []) (by kernel_rfl) ?_
   refine AllR.cons ?_ AllR.nil
   refine A_op (ls' := #[true, true, true, true, true, true, true, true, true, true, true, true, true, true, true, false]) rfl (by kernel_rfl) (T_cmp rfl rfl (O.cmp hb (hkp_.b)) H209_ 6 rfl ?_)
   intro w211_ S213_ H212_
   have S214_ := Same.trans (Same.trans S204_ (Same.drew _)) S213_
   refine ⟨⟨(And.intro (Holds.rdf H212_ 0 rfl) (Holds.blk H212_ 0 rfl)), Holds.tr_rd H212_ 1 rfl 9 rfl, (And.intro (Holds.rdf H212_ 3 rfl) (Holds.blk H212_ 3 rfl)), Holds.tr_rd H212_ 8 rfl 9 rfl, (Holds.ro_at H212_ 6 rfl)⟩, ?_⟩
   have hq215_ := And.intro ((And.intro (Holds.rdf H212_ 0 rfl) (Holds.blk H212_ 0 rfl))) (And.intro (Holds.tr_rd H212_ 1 rfl 9 rfl) (And.intro ((And.intro (Holds.rdf H212_ 3 rfl) (Holds.blk H212_ 3 rfl))) (And.intro (Holds.tr_rd H212_ 8 rfl 9 rfl) ((Holds.ro_at H212_ 6 rfl)))))
   refine A_tk 15 (v := (vI .i64 (O.cm kb f36_p.kb))) rfl (by kernel_rfl) (fun w hS => x_assign rfl) hq215_ ?_
   refine A_done (by kernel_rfl) ?_
   refine (X_then (hK208_ _ _ ?_))
   refine C_seq (fun _ hK216_ => ?_)
   refine cr fun _ hK217_ => ?_
   refine sm (vI .i64 (O.cm kb f36_p.kb)) ?_
   refine sv (v := (vB (decide (O.cm kb f36_p.kb < 0)))) (x_bin rfl rfl rfl) ?_
   refine wn (hK217_ _ _ ?_)
   refine C_cond (b := decide (O.cm kb f36_p.kb < 0)) rfl (fun c218_t => ?_) (fun c218_f => ?_)
   ·have c218_tp : O.cm kb f36_p.kb < 0 := of_decide_eq_true c218_t
    refine C_reg ?_
    refine sm (vQ f36_p.a) ?_
    refine sm (vQ b18_) ?_
    refine sv (v := (vQ f36_p.a)) (by kernel_rfl) ?_
    refine sv (v := (vP (some ⟨f36_p.a, 4, none⟩))) (by kernel_rfl) ?_
    refine S_list0 (T_store1f (v := (vQ b18_)) rfl rfl z182 rfl H212_ 0 rfl (Nat.le_of_ble_eq_true (by rfl)) ?_)
    intro w219_ S221_ H220_
    have S222_ := Same.trans S214_ S221_
    refine wn (hK216_ _ _ ?_)
    refine C_reg ?_
    refine sm (vQ f36_p.a) ?_
    refine sm (vQ tb) ?_
    refine sv (v := (vQ tb)) (by kernel_rfl) ?_
    refine sv (v := (vP (some ⟨tb, 2, none⟩))) (by kernel_rfl) ?_
    refine sv (v := (vQ sb)) (x_load1 rfl underlying182 rfl ((Holds.rd H220_ 7 rfl) 2 (vQ sb) rfl)) ?_
    have H223_ := Holds.cons_cx (sb := sb) (f := (⟨true, f36_p, f36_o⟩ : Fr K)) (C := f36_C) (x := b18_) H220_
    have H224_ := H223_
    have H226_ := ((Holds.bring (Holds.bring (Holds.bring (Holds.bring H224_ 7 rfl) 1 rfl) 2 rfl) 5 rfl) :)
    refine S_list (T_call (al := [(vP (some ⟨(pa sb ((⟨true, f36_p, f36_o⟩ : Fr K) :: f36_C)), 0, none⟩)), (vQ sb)]) (pre := [hol (some ((⟨b18_, (Value.iface it ix), (Value.iface jt jx), (Value.iface vt vx), (Value.iface jt jx), 1, kb, ke, ke⟩ : ND K), sb, sb, f36_p.a)), cx sb (ha sb (some ((⟨b18_, (Value.iface it ix), (Value.iface jt jx), (Value.iface vt vx), (Value.iface jt jx), 1, kb, ke, ke⟩ : ND K), sb, sb, f36_p.a))) ((⟨true, f36_p, f36_o⟩ : Fr K) :: f36_C), clf sb 185 sc]) rfl (lcons ((by first | rfl | omega | (simp; done) | (simp; omega)) : (vQ f36_p.a) = (vP (some ⟨(pa sb ((⟨true, f36_p, f36_o⟩ : Fr K) :: f36_C)), 0, none⟩))) rfl) cb142 (itUpMax R K O sb sc (some ((⟨b18_, (Value.iface it ix), (Value.iface jt jx), (Value.iface vt vx), (Value.iface jt jx), 1, kb, ke, ke⟩ : ND K), sb, sb, f36_p.a)) ((⟨true, f36_p, f36_o⟩ : Fr K) :: f36_C) (hck_) (fun q hq => by cases hq; exact he)) H226_ ?_)
    rintro v225_ p230_ w227_ ⟨rfl, rfl⟩ S229_ H228_
    have S231_ := Same.trans S222_ S229_
    have H232_ := H228_
    refine wn (hK205_ _ _ ?_)
    refine cr fun _ hK233_ => ?_
    refine sm (vQ b18_) ?_
    refine sv (v := (vQ b18_)) (by kernel_rfl) ?_
    refine sv (v := (vP (some ⟨b18_, 7, none⟩))) (by kernel_rfl) ?_
    refine S_list0 (T_store1f (v := (vI .i64 1)) rfl rfl z183 rfl H232_ 1 rfl (Nat.le_of_ble_eq_true (by rfl)) ?_)
    intro w234_ S236_ H235_
    have S237_ := Same.trans S231_ S236_
    refine wn (hK233_ _ _ ?_)
    refine cr fun _ hK238_ => ?_
    refine sm (vQ tb) ?_
    refine sm (vQ b18_) ?_
    have H239_ := Holds.pkF H235_ [0, 0, 0, 0, 0, 0, 0] 1
    have H240_ : Holds w234_ (tr sb b18_ (Tr.lf : Tr K) :: ro R :: clf b18_ 185 [((Value.iface it ix)), ((Value.iface jt jx)), ((Value.iface vt vx)), ((Value.iface jt jx)), (vQ sb), (vQ sb), (vQ f36_p.a), (vI .i64 1)] :: cx sb b18_ (upC O (some ((Value.iface jt jx), ke)) ((⟨true, f36_p, f36_o⟩ : Fr K) :: f36_C)) :: clf sb 185 sc :: cl b10_ 111 [((Value.iface it ix)), ((Value.iface jt jx))] :: cl b2_ 111 [((Value.iface it ix)), ((Value.iface jt jx))] :: cl tb 188 [(vQ (ra f36_p.a f36_C)), (vI .i64 cnt), (vQ sb)] :: F) := Holds.lf_tr H239_
    have H241_ : Holds w234_ (tr sb b18_ (Tr.lf : Tr K) :: tr sb b18_ (Tr.lf : Tr K) :: ro R :: clf b18_ 185 [((Value.iface it ix)), ((Value.iface jt jx)), ((Value.iface vt vx)), ((Value.iface jt jx)), (vQ sb), (vQ sb), (vQ f36_p.a), (vI .i64 1)] :: cx sb b18_ (upC O (some ((Value.iface jt jx), ke)) ((⟨true, f36_p, f36_o⟩ : Fr K) :: f36_C)) :: clf sb 185 sc :: cl b10_ 111 [((Value.iface it ix)), ((Value.iface jt jx))] :: cl b2_ 111 [((Value.iface it ix)), ((Value.iface jt jx))] :: cl tb 188 [(vQ (ra f36_p.a f36_C)), (vI .i64 cnt), (vQ sb)] :: F) := Holds.lf_tr H240_
    have H242_ := ((Holds.bring (Holds.bring (Holds.bring H241_ 1 rfl) 1 rfl) 3 rfl) :)
    have H243_ := Holds.nd_tr (n := (⟨b18_, (Value.iface it ix), (Value.iface jt jx), (Value.iface vt vx), (Value.iface jt jx), 1, kb, ke, ke⟩ : ND K)) (a := (Tr.lf : Tr K)) (b := (Tr.lf : Tr K)) H242_
    have H244_ : Holds w234_ (tr sb (pa sb ((⟨true, f36_p, f36_o⟩ : Fr K) :: f36_C)) (Tr.nd (⟨b18_, (Value.iface it ix), (Value.iface jt jx), (Value.iface vt vx), (Value.iface jt jx), 1, kb, ke, ke⟩ : ND K) (Tr.lf : Tr K) (Tr.lf : Tr K)) :: ro R :: cx sb b18_ (upC O (some ((Value.iface jt jx), ke)) ((⟨true, f36_p, f36_o⟩ : Fr K) :: f36_C)) :: clf sb 185 sc :: cl b10_ 111 [((Value.iface it ix)), ((Value.iface jt jx))] :: cl b2_ 111 [((Value.iface it ix)), ((Value.iface jt jx))] :: cl tb 188 [(vP (some ⟨(ra b18_ ((⟨true, f36_p, f36_o⟩ : Fr K) :: f36_C)), 0, none⟩)), (vI .i64 cnt), (vQ sb)] :: F) := (H243_)
    have H245_ := H244_; rw [← pa_upC (O := O) sb ((⟨true, f36_p, f36_o⟩ : Fr K) :: f36_C) (some ((Value.iface jt jx), ke)), ← ra_upC O ((⟨true, f36_p, f36_o⟩ : Fr K) :: f36_C) b18_ (some ((Value.iface jt jx), ke))] at H245_
    have H246_ := H245_
    have hFx_ : FxI O R (inl ((⟨true, f36_p, f36_o⟩ : Fr K) :: f36_C) ++ (⟨b18_, (Value.iface it ix), (Value.iface jt jx), (Value.iface vt vx), (Value.iface jt jx), 1, kb, ke, ke⟩ : ND K).er :: inr ((⟨true, f36_p, f36_o⟩ : Fr K) :: f36_C)) (upC O (some ((Value.iface jt jx), ke)) ((⟨true, f36_p, f36_o⟩ : Fr K) :: f36_C)) (Tr.nd (⟨b18_, (Value.iface it ix), (Value.iface jt jx), (Value.iface vt vx), (Value.iface jt jx), 1, kb, ke, ke⟩ : ND K) (Tr.lf : Tr K) (Tr.lf : Tr K)) := ins_fx hW1 hCk hb he
    have H247_ := Holds.recl H246_ 6 rfl ((lcons ((by first | rfl | omega | (simp; done) | (simp; omega)) : (vP (some ⟨(ra b18_ (upC O (some ((Value.iface jt jx), ke)) ((⟨true, f36_p, f36_o⟩ : Fr K) :: f36_C))), 0, none⟩)) = (vP (some ⟨(ra (⟨b18_, (Value.iface it ix), (Value.iface jt jx), (Value.iface vt vx), (Value.iface jt jx), 1, kb, ke, ke⟩ : ND K).a (upC O (some ((Value.iface jt jx), ke)) ((⟨true, f36_p, f36_o⟩ : Fr K) :: f36_C))), 0, none⟩))) rfl) : [(vP (some ⟨(ra b18_ (upC O (some ((Value.iface jt jx), ke)) ((⟨true, f36_p, f36_o⟩ : Fr K) :: f36_C))), 0, none⟩)), (vI .i64 cnt), (vQ sb)] = [(vP (some ⟨(ra (⟨b18_, (Value.iface it ix), (Value.iface jt jx), (Value.iface vt vx), (Value.iface jt jx), 1, kb, ke, ke⟩ : ND K).a (upC O (some ((Value.iface jt jx), ke)) ((⟨true, f36_p, f36_o⟩ : Fr K) :: f36_C))), 0, none⟩)), (vI .i64 cnt), (vQ sb)])
    have eH248_ : cx sb b18_ (upC O (some ((Value.iface jt jx), ke)) ((⟨true, f36_p, f36_o⟩ : Fr K) :: f36_C)) = cx sb ((⟨b18_, (Value.iface it ix), (Value.iface jt jx), (Value.iface vt vx), (Value.iface jt jx), 1, kb, ke, ke⟩ : ND K).a) (upC O (some ((Value.iface jt jx), ke)) ((⟨true, f36_p, f36_o⟩ : Fr K) :: f36_C)) := by first | rfl | (congr 1 <;> first | rfl | omega | (simp; done) | (simp; omega))
    have H248_ : Holds w234_ (tr sb (pa sb (upC O (some ((Value.iface jt jx), ke)) ((⟨true, f36_p, f36_o⟩ : Fr K) :: f36_C))) (Tr.nd (⟨b18_, (Value.iface it ix), (Value.iface jt jx), (Value.iface vt vx), (Value.iface jt jx), 1, kb, ke, ke⟩ : ND K) (Tr.lf : Tr K) (Tr.lf : Tr K)) :: ro R :: cx sb ((⟨b18_, (Value.iface it ix), (Value.iface jt jx), (Value.iface vt vx), (Value.iface jt jx), 1, kb, ke, ke⟩ : ND K).a) (upC O (some ((Value.iface jt jx), ke)) ((⟨true, f36_p, f36_o⟩ : Fr K) :: f36_C)) :: clf sb 185 sc :: cl b10_ 111 [((Value.iface it ix)), ((Value.iface jt jx))] :: cl b2_ 111 [((Value.iface it ix)), ((Value.iface jt jx))] :: cl tb 188 [(vP (some ⟨(ra (⟨b18_, (Value.iface it ix), (Value.iface jt jx), (Value.iface vt vx), (Value.iface jt jx), 1, kb, ke, ke⟩ : ND K).a (upC O (some ((Value.iface jt jx), ke)) ((⟨true, f36_p, f36_o⟩ : Fr K) :: f36_C))), 0, none⟩)), (vI .i64 cnt), (vQ sb)] :: F) := cast1 (P := fun c__ => Holds w234_ (tr sb (pa sb (upC O (some ((Value.iface jt jx), ke)) ((⟨true, f36_p, f36_o⟩ : Fr K) :: f36_C))) (Tr.nd (⟨b18_, (Value.iface it ix), (Value.iface jt jx), (Value.iface vt vx), (Value.iface jt jx), 1, kb, ke, ke⟩ : ND K) (Tr.lf : Tr K) (Tr.lf : Tr K)) :: ro R :: c__ :: clf sb 185 sc :: cl b10_ 111 [((Value.iface it ix)), ((Value.iface jt jx))] :: cl b2_ 111 [((Value.iface it ix)), ((Value.iface jt jx))] :: cl tb 188 [(vP (some ⟨(ra (⟨b18_, (Value.iface it ix), (Value.iface jt jx), (Value.iface vt vx), (Value.iface jt jx), 1, kb, ke, ke⟩ : ND K).a (upC O (some ((Value.iface jt jx), ke)) ((⟨true, f36_p, f36_o⟩ : Fr K) :: f36_C))), 0, none⟩)), (vI .i64 cnt), (vQ sb)] :: F)) eH248_ H247_
    have H252_ := ((Holds.bring (Holds.bring (Holds.bring (Holds.bring (Holds.bring H248_ 3 rfl) 3 rfl) 2 rfl) 6 rfl) 4 rfl) :)
    refine S_list (T_call (al := [(vQ tb), (vP (some ⟨(⟨b18_, (Value.iface it ix), (Value.iface jt jx), (Value.iface vt vx), (Value.iface jt jx), 1, kb, ke, ke⟩ : ND K).a, 0, none⟩))]) (pre := [cl tb 188 [(vP (some ⟨(ra (⟨b18_, (Value.iface it ix), (Value.iface jt jx), (Value.iface vt vx), (Value.iface jt jx), 1, kb, ke, ke⟩ : ND K).a (upC O (some ((Value.iface jt jx), ke)) ((⟨true, f36_p, f36_o⟩ : Fr K) :: f36_C))), 0, none⟩)), (vI .i64 cnt), (vQ sb)], tr sb (pa sb (upC O (some ((Value.iface jt jx), ke)) ((⟨true, f36_p, f36_o⟩ : Fr K) :: f36_C))) (Tr.nd (⟨b18_, (Value.iface it ix), (Value.iface jt jx), (Value.iface vt vx), (Value.iface jt jx), 1, kb, ke, ke⟩ : ND K) (Tr.lf : Tr K) (Tr.lf : Tr K)), cx sb ((⟨b18_, (Value.iface it ix), (Value.iface jt jx), (Value.iface vt vx), (Value.iface jt jx), 1, kb, ke, ke⟩ : ND K).a) (upC O (some ((Value.iface jt jx), ke)) ((⟨true, f36_p, f36_o⟩ : Fr K) :: f36_C)), clf sb 185 sc]) rfl (lcons rfl (lcons ((by first | rfl | omega | (simp; done) | (simp; omega)) : (vQ b18_) = (vP (some ⟨(⟨b18_, (Value.iface it ix), (Value.iface jt jx), (Value.iface vt vx), (Value.iface jt jx), 1, kb, ke, ke⟩ : ND K).a, 0, none⟩))) rfl)) cb162 (itFix R K O tb sb cnt sc (⟨b18_, (Value.iface it ix), (Value.iface jt jx), (Value.iface vt vx), (Value.iface jt jx), 1, kb, ke, ke⟩ : ND K) (Tr.lf : Tr K) (Tr.lf : Tr K) (upC O (some ((Value.iface jt jx), ke)) ((⟨true, f36_p, f36_o⟩ : Fr K) :: f36_C)) (inl ((⟨true, f36_p, f36_o⟩ : Fr K) :: f36_C) ++ (⟨b18_, (Value.iface it ix), (Value.iface jt jx), (Value.iface vt vx), (Value.iface jt jx), 1, kb, ke, ke⟩ : ND K).er :: inr ((⟨true, f36_p, f36_o⟩ : Fr K) :: f36_C)) (hFx_)) H252_ ?_)
    rintro v249_ p256_ w253_ ⟨W250_, rfl, rfl, he251_⟩ S255_ H254_
    have S257_ := Same.trans S237_ S255_
    refine wn (hK238_ _ _ ?_)
    refine C_reg ?_
    refine sm (vQ tb) ?_
    refine sv (v := (vQ tb)) (by kernel_rfl) ?_
    refine sv (v := (vP (some ⟨tb, 1, none⟩))) (by kernel_rfl) ?_
    refine sv (v := (vI .i64 cnt)) (x_load1 rfl underlying3 rfl ((Holds.rd H254_ 1 rfl) 1 (vI .i64 cnt) rfl)) ?_
    refine sv (v := (vI .i64 (IntKind.i64.wrap (cnt + 1)))) (x_bin rfl rfl rfl) ?_
    refine sv (v := (vQ tb)) (by kernel_rfl) ?_
    refine sv (v := (vP (some ⟨tb, 1, none⟩))) (by kernel_rfl) ?_
    refine S_list0 (T_store1 (v := (vI .i64 (IntKind.i64.wrap (cnt + 1)))) rfl rfl z3 rfl H254_ 1 rfl (Nat.le_of_ble_eq_true (by rfl)) ?_)
    intro w258_ S260_ H259_
    have S261_ := Same.trans S257_ S260_
    refine wpList_nil ?_
    refine R_0 rfl ?_
    have H262_ := Holds.pkF H259_ [0, 0, 0, 0] 2
    exact ⟨_, _, rfl, ⟨W250_, (inl ((⟨true, f36_p, f36_o⟩ : Fr K) :: f36_C)), (inr ((⟨true, f36_p, f36_o⟩ : Fr K) :: f36_C)), (⟨b18_, (Value.iface it ix), (Value.iface jt jx), (Value.iface vt vx), (Value.iface jt jx), 1, kb, ke, ke⟩ : ND K), rfl, rfl, (⟨he251_.1, he251_.2.1, he251_.2.2.2⟩), (he251_.2.2.1), (by rw [ino_plug]; simp [ino]), (⟨rfl, rfl, rfl, rfl, rfl⟩), (by rw [he251_.2.2.1]; exact ins_srt hway (by have := hs; rw [ino_plug] at this; simpa [ino] using this)), ((way_in (C := ((⟨true, f36_p, f36_o⟩ : Fr K) :: f36_C)) (M := []) hway (by have := hs; rw [ino_plug] at this; simpa [ino] using this)).1), ((way_in (C := ((⟨true, f36_p, f36_o⟩ : Fr K) :: f36_C)) (M := []) hway (by have := hs; rw [ino_plug] at this; simpa [ino] using this)).2)⟩, S261_, H262_⟩
   ·have c218_fp : ¬ (O.cm kb f36_p.kb < 0) := of_decide_eq_false c218_f
    refine cr fun _ hK263_ => ?_
    refine sm (vI .i64 (O.cm kb f36_p.kb)) ?_
    refine sv (v := (vB (decide (O.cm kb f36_p.kb = 0)))) (x_bin rfl rfl rfl) ?_
    refine wn (hK263_ _ _ ?_)
    refine C_cond (b := decide (O.cm kb f36_p.kb = 0)) rfl (fun c264_t => ?_) (fun c264_f => ?_)
    ·have c264_tp : O.cm kb f36_p.kb = 0 := of_decide_eq_true c264_t
     refine C_seq (fun _ hK265_ => ?_)
     refine A_start (S := fun w => (Rd f36_p.a [f36_p.b, f36_p.e, f36_p.v, f36_p.mx, (vQ sb), (vQ (rt sb f36_o)), (vQ (pa sb f36_C)), (vI .i64 f36_p.c)] w ∧ Blk w f36_p.a) ∧ RtRd w (rt sb f36_o) (rmx f36_o) ∧ (Rd b18_ [((Value.iface it ix)), ((Value.iface jt jx)), ((Value.iface vt vx)), ((Value.iface jt jx)), (vQ sb), (vQ sb), (vQ f36_p.a), (vI .i64 1)] w ∧ Blk w b18_) ∧ RtRd w (rt sb (Tr.lf : Tr K)) (rmx (Tr.lf : Tr K)) ∧ Sub R (hp w)) (N := 16) foll rfl rfl ?_
     have H266_ := Holds.drew_ H212_
     have hq267_ := And.intro ((And.intro (Holds.rdf H266_ 0 rfl) (Holds.blk H266_ 0 rfl))) (And.intro (Holds.tr_rd H266_ 1 rfl 9 rfl) (And.intro ((And.intro (Holds.rdf H266_ 3 rfl) (Holds.blk H266_ 3 rfl))) (And.intro (Holds.tr_rd H266_ 8 rfl 9 rfl) ((Holds.ro_at H266_ 6 rfl)))))
     refine A_tk 0 (v := (vQ b18_)) rfl (by kernel_rfl) (fun w hS => x_move rfl) hq267_ ?_
     refine A_tk 1 (v := (vQ b18_)) rfl (by kernel_rfl) (fun w hS => by kernel_rfl) hq267_ ?_
     refine A_tk 2 (v := (vQ b18_)) rfl (by kernel_rfl) (fun w hS => by kernel_rfl) hq267_ ?_
     refine A_tk 3 (v := (vQ b18_)) rfl (by kernel_rfl) (fun w hS => by kernel_rfl) hq267_ ?_
     refine A_tk 4 (v := (vP (some ⟨b18_, 1, none⟩))) rfl (by kernel_rfl) (fun w hS => by kernel_rfl) hq267_ ?_
     refine A_tk 5 (v := ((Value.iface jt jx))) rfl (by kernel_rfl) (fun w hS => x_load1 rfl underlying109 rfl (hS.2.2.1.1 1 ((Value.iface jt jx)) rfl)) hq267_ ?_
     refine A_tk 6 (v := (vQ f36_p.a)) rfl (by kernel_rfl) (fun w hS => x_move rfl) hq267_ ?_
     refine A_tk 7 (v := (vQ f36_p.a)) rfl (by kernel_rfl) (fun w hS => by kernel_rfl) hq267_ ?_
     refine A_tk 8 (v := (vQ f36_p.a)) rfl (by kernel_rfl) (fun w hS => by kernel_rfl) hq267_ ?_
     refine A_tk 9 (v := (vQ f36_p.a)) rfl (by kernel_rfl) (fun w hS => by kernel_rfl) hq267_ ?_
     refine A_tk 10 (v := (vP (some ⟨f36_p.a, 1, none⟩))) rfl (by kernel_rfl) (fun w hS => by kernel_rfl) hq267_ ?_
     refine A_tk 11 (v := f36_p.e) rfl (by kernel_rfl) (fun w hS => x_load1 rfl underlying109 rfl (hS.1.1 1 f36_p.e rfl)) hq267_ ?_
     refine A_tk 12 (v := ((Value.iface jt jx))) rfl (by kernel_rfl) (fun w hS => by kernel_rfl) hq267_ ?_
     refine A_tk 13 (v := ((Value.iface jt jx))) rfl (by kernel_rfl) (fun w hS => x_move rfl) hq267_ ?_
     refine A_ready (i := 14) (rs := []) (by kernel_rfl) ?_
     refine AllR.cons ?_ AllR.nil
     refine A_op (ls' := #[true, true, true, true, true, true, true, true, true, true, true, true, true, true, true, false]) rfl (by kernel_rfl) (T_cmp rfl rfl (O.cmp he (hkp_.e)) H266_ 6 rfl ?_)
     intro w268_ S270_ H269_
     have S271_ := Same.trans (Same.trans S214_ (Same.drew _)) S270_
     refine ⟨⟨(And.intro (Holds.rdf H269_ 0 rfl) (Holds.blk H269_ 0 rfl)), Holds.tr_rd H269_ 1 rfl 9 rfl, (And.intro (Holds.rdf H269_ 3 rfl) (Holds.blk H269_ 3 rfl)), Holds.tr_rd H269_ 8 rfl 9 rfl, (Holds.ro_at H269_ 6 rfl)⟩, ?_⟩
     have hq272_ := And.intro ((And.intro (Holds.rdf H269_ 0 rfl) (Holds.blk H269_ 0 rfl))) (And.intro (Holds.tr_rd H269_ 1 rfl 9 rfl) (And.intro ((And.intro (Holds.rdf H269_ 3 rfl) (Holds.blk H269_ 3 rfl))) (And.intro (Holds.tr_rd H269_ 8 rfl 9 rfl) ((Holds.ro_at H269_ 6 rfl)))))
     refine A_tk 15 (v := (vB (decide (O.cm ke f36_p.ke < 0)))) rfl (by kernel_rfl) (fun w hS => x_bin rfl rfl rfl) hq272_ ?_
     refine A_done (by kernel_rfl) ?_
     refine (X_then (hK265_ _ _ ?_))
     refine C_cond (b := decide (O.cm ke f36_p.ke < 0)) rfl (fun c273_t => ?_) (fun c273_f => ?_)
     ·have c273_tp : O.cm ke f36_p.ke < 0 := of_decide_eq_true c273_t
      refine C_reg ?_
      refine sm (vQ f36_p.a) ?_
      refine sm (vQ b18_) ?_
      refine sv (v := (vQ f36_p.a)) (by kernel_rfl) ?_
      refine sv (v := (vP (some ⟨f36_p.a, 4, none⟩))) (by kernel_rfl) ?_
      refine S_list0 (T_store1f (v := (vQ b18_)) rfl rfl z182 rfl H269_ 0 rfl (Nat.le_of_ble_eq_true (by rfl)) ?_)
      intro w274_ S276_ H275_
      have S277_ := Same.trans S271_ S276_
      refine wn (hK216_ _ _ ?_)
      refine C_reg ?_
      refine sm (vQ f36_p.a) ?_
      refine sm (vQ tb) ?_
      refine sv (v := (vQ tb)) (by kernel_rfl) ?_
      refine sv (v := (vP (some ⟨tb, 2, none⟩))) (by kernel_rfl) ?_
      refine sv (v := (vQ sb)) (x_load1 rfl underlying182 rfl ((Holds.rd H275_ 7 rfl) 2 (vQ sb) rfl)) ?_
      have H278_ := Holds.cons_cx (sb := sb) (f := (⟨true, f36_p, f36_o⟩ : Fr K)) (C := f36_C) (x := b18_) H275_
      have H279_ := H278_
      have H281_ := ((Holds.bring (Holds.bring (Holds.bring (Holds.bring H279_ 7 rfl) 1 rfl) 2 rfl) 5 rfl) :)
      refine S_list (T_call (al := [(vP (some ⟨(pa sb ((⟨true, f36_p, f36_o⟩ : Fr K) :: f36_C)), 0, none⟩)), (vQ sb)]) (pre := [hol (some ((⟨b18_, (Value.iface it ix), (Value.iface jt jx), (Value.iface vt vx), (Value.iface jt jx), 1, kb, ke, ke⟩ : ND K), sb, sb, f36_p.a)), cx sb (ha sb (some ((⟨b18_, (Value.iface it ix), (Value.iface jt jx), (Value.iface vt vx), (Value.iface jt jx), 1, kb, ke, ke⟩ : ND K), sb, sb, f36_p.a))) ((⟨true, f36_p, f36_o⟩ : Fr K) :: f36_C), clf sb 185 sc]) rfl (lcons ((by first | rfl | omega | (simp; done) | (simp; omega)) : (vQ f36_p.a) = (vP (some ⟨(pa sb ((⟨true, f36_p, f36_o⟩ : Fr K) :: f36_C)), 0, none⟩))) rfl) cb142 (itUpMax R K O sb sc (some ((⟨b18_, (Value.iface it ix), (Value.iface jt jx), (Value.iface vt vx), (Value.iface jt jx), 1, kb, ke, ke⟩ : ND K), sb, sb, f36_p.a)) ((⟨true, f36_p, f36_o⟩ : Fr K) :: f36_C) (hck_) (fun q hq => by cases hq; exact he)) H281_ ?_)
      rintro v280_ p285_ w282_ ⟨rfl, rfl⟩ S284_ H283_
      have S286_ := Same.trans S277_ S284_
      have H287_ := H283_
      refine wn (hK205_ _ _ ?_)
      refine cr fun _ hK288_ => ?_
      refine sm (vQ b18_) ?_
      refine sv (v := (vQ b18_)) (by kernel_rfl) ?_
      refine sv (v := (vP (some ⟨b18_, 7, none⟩))) (by kernel_rfl) ?_
      refine S_list0 (T_store1f (v := (vI .i64 1)) rfl rfl z183 rfl H287_ 1 rfl (Nat.le_of_ble_eq_true (by rfl)) ?_)
      intro w289_ S291_ H290_
      have S292_ := Same.trans S286_ S291_
      refine wn (hK288_ _ _ ?_)
      refine cr fun _ hK293_ => ?_
      refine sm (vQ tb) ?_
      refine sm (vQ b18_) ?_
      have H294_ := Holds.pkF H290_ [0, 0, 0, 0, 0, 0, 0] 1
      have H295_ : Holds w289_ (tr sb b18_ (Tr.lf : Tr K) :: ro R :: clf b18_ 185 [((Value.iface it ix)), ((Value.iface jt jx)), ((Value.iface vt vx)), ((Value.iface jt jx)), (vQ sb), (vQ sb), (vQ f36_p.a), (vI .i64 1)] :: cx sb b18_ (upC O (some ((Value.iface jt jx), ke)) ((⟨true, f36_p, f36_o⟩ : Fr K) :: f36_C)) :: clf sb 185 sc :: cl b10_ 111 [((Value.iface it ix)), ((Value.iface jt jx))] :: cl b2_ 111 [((Value.iface it ix)), ((Value.iface jt jx))] :: cl tb 188 [(vQ (ra f36_p.a f36_C)), (vI .i64 cnt), (vQ sb)] :: F) := Holds.lf_tr H294_
      have H296_ : Holds w289_ (tr sb b18_ (Tr.lf : Tr K) :: tr sb b18_ (Tr.lf : Tr K) :: ro R :: clf b18_ 185 [((Value.iface it ix)), ((Value.iface jt jx)), ((Value.iface vt vx)), ((Value.iface jt jx)), (vQ sb), (vQ sb), (vQ f36_p.a), (vI .i64 1)] :: cx sb b18_ (upC O (some ((Value.iface jt jx), ke)) ((⟨true, f36_p, f36_o⟩ : Fr K) :: f36_C)) :: clf sb 185 sc :: cl b10_ 111 [((Value.iface it ix)), ((Value.iface jt jx))] :: cl b2_ 111 [((Value.iface it ix)), ((Value.iface jt jx))] :: cl tb 188 [(vQ (ra f36_p.a f36_C)), (vI .i64 cnt), (vQ sb)] :: F) := Holds.lf_tr H295_
      have H297_ := ((Holds.bring (Holds.bring (Holds.bring H296_ 1 rfl) 1 rfl) 3 rfl) :)
      have H298_ := Holds.nd_tr (n := (⟨b18_, (Value.iface it ix), (Value.iface jt jx), (Value.iface vt vx), (Value.iface jt jx), 1, kb, ke, ke⟩ : ND K)) (a := (Tr.lf : Tr K)) (b := (Tr.lf : Tr K)) H297_
      have H299_ : Holds w289_ (tr sb (pa sb ((⟨true, f36_p, f36_o⟩ : Fr K) :: f36_C)) (Tr.nd (⟨b18_, (Value.iface it ix), (Value.iface jt jx), (Value.iface vt vx), (Value.iface jt jx), 1, kb, ke, ke⟩ : ND K) (Tr.lf : Tr K) (Tr.lf : Tr K)) :: ro R :: cx sb b18_ (upC O (some ((Value.iface jt jx), ke)) ((⟨true, f36_p, f36_o⟩ : Fr K) :: f36_C)) :: clf sb 185 sc :: cl b10_ 111 [((Value.iface it ix)), ((Value.iface jt jx))] :: cl b2_ 111 [((Value.iface it ix)), ((Value.iface jt jx))] :: cl tb 188 [(vP (some ⟨(ra b18_ ((⟨true, f36_p, f36_o⟩ : Fr K) :: f36_C)), 0, none⟩)), (vI .i64 cnt), (vQ sb)] :: F) := (H298_)
      have H300_ := H299_; rw [← pa_upC (O := O) sb ((⟨true, f36_p, f36_o⟩ : Fr K) :: f36_C) (some ((Value.iface jt jx), ke)), ← ra_upC O ((⟨true, f36_p, f36_o⟩ : Fr K) :: f36_C) b18_ (some ((Value.iface jt jx), ke))] at H300_
      have H301_ := H300_
      have hFx_ : FxI O R (inl ((⟨true, f36_p, f36_o⟩ : Fr K) :: f36_C) ++ (⟨b18_, (Value.iface it ix), (Value.iface jt jx), (Value.iface vt vx), (Value.iface jt jx), 1, kb, ke, ke⟩ : ND K).er :: inr ((⟨true, f36_p, f36_o⟩ : Fr K) :: f36_C)) (upC O (some ((Value.iface jt jx), ke)) ((⟨true, f36_p, f36_o⟩ : Fr K) :: f36_C)) (Tr.nd (⟨b18_, (Value.iface it ix), (Value.iface jt jx), (Value.iface vt vx), (Value.iface jt jx), 1, kb, ke, ke⟩ : ND K) (Tr.lf : Tr K) (Tr.lf : Tr K)) := ins_fx hW1 hCk hb he
      have H302_ := Holds.recl H301_ 6 rfl ((lcons ((by first | rfl | omega | (simp; done) | (simp; omega)) : (vP (some ⟨(ra b18_ (upC O (some ((Value.iface jt jx), ke)) ((⟨true, f36_p, f36_o⟩ : Fr K) :: f36_C))), 0, none⟩)) = (vP (some ⟨(ra (⟨b18_, (Value.iface it ix), (Value.iface jt jx), (Value.iface vt vx), (Value.iface jt jx), 1, kb, ke, ke⟩ : ND K).a (upC O (some ((Value.iface jt jx), ke)) ((⟨true, f36_p, f36_o⟩ : Fr K) :: f36_C))), 0, none⟩))) rfl) : [(vP (some ⟨(ra b18_ (upC O (some ((Value.iface jt jx), ke)) ((⟨true, f36_p, f36_o⟩ : Fr K) :: f36_C))), 0, none⟩)), (vI .i64 cnt), (vQ sb)] = [(vP (some ⟨(ra (⟨b18_, (Value.iface it ix), (Value.iface jt jx), (Value.iface vt vx), (Value.iface jt jx), 1, kb, ke, ke⟩ : ND K).a (upC O (some ((Value.iface jt jx), ke)) ((⟨true, f36_p, f36_o⟩ : Fr K) :: f36_C))), 0, none⟩)), (vI .i64 cnt), (vQ sb)])
      have eH303_ : cx sb b18_ (upC O (some ((Value.iface jt jx), ke)) ((⟨true, f36_p, f36_o⟩ : Fr K) :: f36_C)) = cx sb ((⟨b18_, (Value.iface it ix), (Value.iface jt jx), (Value.iface vt vx), (Value.iface jt jx), 1, kb, ke, ke⟩ : ND K).a) (upC O (some ((Value.iface jt jx), ke)) ((⟨true, f36_p, f36_o⟩ : Fr K) :: f36_C)) := by first | rfl | (congr 1 <;> first | rfl | omega | (simp; done) | (simp; omega))
      have H303_ : Holds w289_ (tr sb (pa sb (upC O (some ((Value.iface jt jx), ke)) ((⟨true, f36_p, f36_o⟩ : Fr K) :: f36_C))) (Tr.nd (⟨b18_, (Value.iface it ix), (Value.iface jt jx), (Value.iface vt vx), (Value.iface jt jx), 1, kb, ke, ke⟩ : ND K) (Tr.lf : Tr K) (Tr.lf : Tr K)) :: ro R :: cx sb ((⟨b18_, (Value.iface it ix), (Value.iface jt jx), (Value.iface vt vx), (Value.iface jt jx), 1, kb, ke, ke⟩ : ND K).a) (upC O (some ((Value.iface jt jx), ke)) ((⟨true, f36_p, f36_o⟩ : Fr K) :: f36_C)) :: clf sb 185 sc :: cl b10_ 111 [((Value.iface it ix)), ((Value.iface jt jx))] :: cl b2_ 111 [((Value.iface it ix)), ((Value.iface jt jx))] :: cl tb 188 [(vP (some ⟨(ra (⟨b18_, (Value.iface it ix), (Value.iface jt jx), (Value.iface vt vx), (Value.iface jt jx), 1, kb, ke, ke⟩ : ND K).a (upC O (some ((Value.iface jt jx), ke)) ((⟨true, f36_p, f36_o⟩ : Fr K) :: f36_C))), 0, none⟩)), (vI .i64 cnt), (vQ sb)] :: F) := cast1 (P := fun c__ => Holds w289_ (tr sb (pa sb (upC O (some ((Value.iface jt jx), ke)) ((⟨true, f36_p, f36_o⟩ : Fr K) :: f36_C))) (Tr.nd (⟨b18_, (Value.iface it ix), (Value.iface jt jx), (Value.iface vt vx), (Value.iface jt jx), 1, kb, ke, ke⟩ : ND K) (Tr.lf : Tr K) (Tr.lf : Tr K)) :: ro R :: c__ :: clf sb 185 sc :: cl b10_ 111 [((Value.iface it ix)), ((Value.iface jt jx))] :: cl b2_ 111 [((Value.iface it ix)), ((Value.iface jt jx))] :: cl tb 188 [(vP (some ⟨(ra (⟨b18_, (Value.iface it ix), (Value.iface jt jx), (Value.iface vt vx), (Value.iface jt jx), 1, kb, ke, ke⟩ : ND K).a (upC O (some ((Value.iface jt jx), ke)) ((⟨true, f36_p, f36_o⟩ : Fr K) :: f36_C))), 0, none⟩)), (vI .i64 cnt), (vQ sb)] :: F)) eH303_ H302_
      have H307_ := ((Holds.bring (Holds.bring (Holds.bring (Holds.bring (Holds.bring H303_ 3 rfl) 3 rfl) 2 rfl) 6 rfl) 4 rfl) :)
      refine S_list (T_call (al := [(vQ tb), (vP (some ⟨(⟨b18_, (Value.iface it ix), (Value.iface jt jx), (Value.iface vt vx), (Value.iface jt jx), 1, kb, ke, ke⟩ : ND K).a, 0, none⟩))]) (pre := [cl tb 188 [(vP (some ⟨(ra (⟨b18_, (Value.iface it ix), (Value.iface jt jx), (Value.iface vt vx), (Value.iface jt jx), 1, kb, ke, ke⟩ : ND K).a (upC O (some ((Value.iface jt jx), ke)) ((⟨true, f36_p, f36_o⟩ : Fr K) :: f36_C))), 0, none⟩)), (vI .i64 cnt), (vQ sb)], tr sb (pa sb (upC O (some ((Value.iface jt jx), ke)) ((⟨true, f36_p, f36_o⟩ : Fr K) :: f36_C))) (Tr.nd (⟨b18_, (Value.iface it ix), (Value.iface jt jx), (Value.iface vt vx), (Value.iface jt jx), 1, kb, ke, ke⟩ : ND K) (Tr.lf : Tr K) (Tr.lf : Tr K)), cx sb ((⟨b18_, (Value.iface it ix), (Value.iface jt jx), (Value.iface vt vx), (Value.iface jt jx), 1, kb, ke, ke⟩ : ND K).a) (upC O (some ((Value.iface jt jx), ke)) ((⟨true, f36_p, f36_o⟩ : Fr K) :: f36_C)), clf sb 185 sc]) rfl (lcons rfl (lcons ((by first | rfl | omega | (simp; done) | (simp; omega)) : (vQ b18_) = (vP (some ⟨(⟨b18_, (Value.iface it ix), (Value.iface jt jx), (Value.iface vt vx), (Value.iface jt jx), 1, kb, ke, ke⟩ : ND K).a, 0, none⟩))) rfl)) cb162 (itFix R K O tb sb cnt sc (⟨b18_, (Value.iface it ix), (Value.iface jt jx), (Value.iface vt vx), (Value.iface jt jx), 1, kb, ke, ke⟩ : ND K) (Tr.lf : Tr K) (Tr.lf : Tr K) (upC O (some ((Value.iface jt jx), ke)) ((⟨true, f36_p, f36_o⟩ : Fr K) :: f36_C)) (inl ((⟨true, f36_p, f36_o⟩ : Fr K) :: f36_C) ++ (⟨b18_, (Value.iface it ix), (Value.iface jt jx), (Value.iface vt vx), (Value.iface jt jx), 1, kb, ke, ke⟩ : ND K).er :: inr ((⟨true, f36_p, f36_o⟩ : Fr K) :: f36_C)) (hFx_)) H307_ ?_)
      rintro v304_ p311_ w308_ ⟨W305_, rfl, rfl, he306_⟩ S310_ H309_
      have S312_ := Same.trans S292_ S310_
      refine wn (hK293_ _ _ ?_)
      refine C_reg ?_
      refine sm (vQ tb) ?_
      refine sv (v := (vQ tb)) (by kernel_rfl) ?_
      refine sv (v := (vP (some ⟨tb, 1, none⟩))) (by kernel_rfl) ?_
      refine sv (v := (vI .i64 cnt)) (x_load1 rfl underlying3 rfl ((Holds.rd H309_ 1 rfl) 1 (vI .i64 cnt) rfl)) ?_
      refine sv (v := (vI .i64 (IntKind.i64.wrap (cnt + 1)))) (x_bin rfl rfl rfl) ?_
      refine sv (v := (vQ tb)) (by kernel_rfl) ?_
      refine sv (v := (vP (some ⟨tb, 1, none⟩))) (by kernel_rfl) ?_
      refine S_list0 (T_store1 (v := (vI .i64 (IntKind.i64.wrap (cnt + 1)))) rfl rfl z3 rfl H309_ 1 rfl (Nat.le_of_ble_eq_true (by rfl)) ?_)
      intro w313_ S315_ H314_
      have S316_ := Same.trans S312_ S315_
      refine wpList_nil ?_
      refine R_0 rfl ?_
      have H317_ := Holds.pkF H314_ [0, 0, 0, 0] 2
      exact ⟨_, _, rfl, ⟨W305_, (inl ((⟨true, f36_p, f36_o⟩ : Fr K) :: f36_C)), (inr ((⟨true, f36_p, f36_o⟩ : Fr K) :: f36_C)), (⟨b18_, (Value.iface it ix), (Value.iface jt jx), (Value.iface vt vx), (Value.iface jt jx), 1, kb, ke, ke⟩ : ND K), rfl, rfl, (⟨he306_.1, he306_.2.1, he306_.2.2.2⟩), (he306_.2.2.1), (by rw [ino_plug]; simp [ino]), (⟨rfl, rfl, rfl, rfl, rfl⟩), (by rw [he306_.2.2.1]; exact ins_srt hway (by have := hs; rw [ino_plug] at this; simpa [ino] using this)), ((way_in (C := ((⟨true, f36_p, f36_o⟩ : Fr K) :: f36_C)) (M := []) hway (by have := hs; rw [ino_plug] at this; simpa [ino] using this)).1), ((way_in (C := ((⟨true, f36_p, f36_o⟩ : Fr K) :: f36_C)) (M := []) hway (by have := hs; rw [ino_plug] at this; simpa [ino] using this)).2)⟩, S316_, H317_⟩
     ·have c273_fp : ¬ (O.cm ke f36_p.ke < 0) := of_decide_eq_false c273_f
      omega
    ·have c264_fp : ¬ (O.cm kb f36_p.kb = 0) := of_decide_eq_false c264_f
     omega
 ·skip
  have H318_ := H29_
  have H319_ := ((Holds.bring H318_ 6 rfl) :)
  have H320_ := Holds.tr_nd H319_
  have hk_ := hTk.1
  refine sm (vQ f33_n.a) ?_
  refine sm (vQ tb) ?_
  refine sv (v := (vQ tb)) (by kernel_rfl) ?_
  refine sv (v := (vP (some ⟨tb, 2, none⟩))) (by kernel_rfl) ?_
  refine sv (v := (vQ sb)) (x_load1 rfl underlying182 rfl ((Holds.rd H320_ 8 rfl) 2 (vQ sb) rfl)) ?_
  have hpc321_ : f33_n.a ≠ sb := Holds.ne_f H320_ 0 rfl 9 rfl (by decide)
  refine sv (v := (vB true)) (x_cast (x_nePN rfl rfl underlying182 z185 (by decide) (Holds.blk H320_ 0 rfl) (Holds.blk H320_ 9 rfl)) (congrArg vB (decide_eq_true hpc321_))) ?_
  refine wn (hK32_ _ _ ?_)
  refine C_condT rfl ?_
  refine C_skip (X_then (hK31_ _ _ ?_))
  refine C_block ?_
  refine cr fun _ hK322_ => ?_
  refine sm (vQ f33_n.a) ?_
  refine sv (v := (vQ f33_n.a)) (x_assign rfl) ?_
  refine wn (hK322_ _ _ ?_)
  refine C_seq (fun _ hK323_ => ?_)
  refine A_start (S := fun w => (Rd f33_n.a [f33_n.b, f33_n.e, f33_n.v, f33_n.mx, (vQ (rt sb f33_a)), (vQ (rt sb f33_b)), (vQ (pa sb C1)), (vI .i64 f33_n.c)] w ∧ Blk w f33_n.a) ∧ RtRd w (rt sb f33_a) (rmx f33_a) ∧ RtRd w (rt sb f33_b) (rmx f33_b) ∧ (Rd b18_ [((Value.iface it ix)), ((Value.iface jt jx)), ((Value.iface vt vx)), ((Value.iface jt jx)), (vQ sb), (vQ sb), (vQ sb), (vI .i64 1)] w ∧ Blk w b18_) ∧ Sub R (hp w)) (N := 16) foll rfl rfl ?_
  have H324_ := Holds.drew_ H320_
  have hq325_ := And.intro ((And.intro (Holds.rdf H324_ 0 rfl) (Holds.blk H324_ 0 rfl))) (And.intro (Holds.tr_rd H324_ 1 rfl 9 rfl) (And.intro (Holds.tr_rd H324_ 2 rfl 9 rfl) (And.intro ((And.intro (Holds.rdf H324_ 4 rfl) (Holds.blk H324_ 4 rfl))) ((Holds.ro_at H324_ 7 rfl)))))
  refine A_tk 0 (v := (vQ b18_)) rfl (by kernel_rfl) (fun w hS => x_move rfl) hq325_ ?_
  refine A_tk 1 (v := (vQ b18_)) rfl (by kernel_rfl) (fun w hS => by kernel_rfl) hq325_ ?_
  refine A_tk 2 (v := (vQ b18_)) rfl (by kernel_rfl) (fun w hS => by kernel_rfl) hq325_ ?_
  refine A_tk 3 (v := (vQ b18_)) rfl (by kernel_rfl) (fun w hS => by kernel_rfl) hq325_ ?_
  refine A_tk 4 (v := (vQ b18_)) rfl (by kernel_rfl) (fun w hS => by kernel_rfl) hq325_ ?_
  refine A_tk 5 (v := ((Value.iface it ix))) rfl (by kernel_rfl) (fun w hS => x_load1 rfl underlying109 rfl (hS.2.2.2.1.1 0 ((Value.iface it ix)) rfl)) hq325_ ?_
  refine A_tk 6 (v := (vQ f33_n.a)) rfl (by kernel_rfl) (fun w hS => x_move rfl) hq325_ ?_
  refine A_tk 7 (v := (vQ f33_n.a)) rfl (by kernel_rfl) (fun w hS => by kernel_rfl) hq325_ ?_
  refine A_tk 8 (v := (vQ f33_n.a)) rfl (by kernel_rfl) (fun w hS => by kernel_rfl) hq325_ ?_
  refine A_tk 9 (v := (vQ f33_n.a)) rfl (by kernel_rfl) (fun w hS => by kernel_rfl) hq325_ ?_
  refine A_tk 10 (v := (vQ f33_n.a)) rfl (by kernel_rfl) (fun w hS => by kernel_rfl) hq325_ ?_
  refine A_tk 11 (v := f33_n.b) rfl (by kernel_rfl) (fun w hS => x_load1 rfl underlying109 rfl (hS.1.1 0 f33_n.b rfl)) hq325_ ?_
  refine A_tk 12 (v := ((Value.iface it ix))) rfl (by kernel_rfl) (fun w hS => by kernel_rfl) hq325_ ?_
  refine A_tk 13 (v := ((Value.iface it ix))) rfl (by kernel_rfl) (fun w hS => x_move rfl) hq325_ ?_
  refine A_ready (i := 14) (rs := []) (by kernel_rfl) ?_
  refine AllR.cons ?_ AllR.nil
  refine A_op (ls' := #[true, true, true, true, true, true, true, true, true, true, true, true, true, true, true, false]) rfl (by kernel_rfl) (T_cmp rfl rfl (O.cmp hb (hk_.b)) H324_ 7 rfl ?_)
  intro w326_ S328_ H327_
  have S329_ := Same.trans (Same.trans S30_ (Same.drew _)) S328_
  refine ⟨⟨(And.intro (Holds.rdf H327_ 0 rfl) (Holds.blk H327_ 0 rfl)), Holds.tr_rd H327_ 1 rfl 9 rfl, Holds.tr_rd H327_ 2 rfl 9 rfl, (And.intro (Holds.rdf H327_ 4 rfl) (Holds.blk H327_ 4 rfl)), (Holds.ro_at H327_ 7 rfl)⟩, ?_⟩
  have hq330_ := And.intro ((And.intro (Holds.rdf H327_ 0 rfl) (Holds.blk H327_ 0 rfl))) (And.intro (Holds.tr_rd H327_ 1 rfl 9 rfl) (And.intro (Holds.tr_rd H327_ 2 rfl 9 rfl) (And.intro ((And.intro (Holds.rdf H327_ 4 rfl) (Holds.blk H327_ 4 rfl))) ((Holds.ro_at H327_ 7 rfl)))))
  refine A_tk 15 (v := (vI .i64 (O.cm kb f33_n.kb))) rfl (by kernel_rfl) (fun w hS => x_assign rfl) hq330_ ?_
  refine A_done (by kernel_rfl) ?_
  refine (X_then (hK323_ _ _ ?_))
  refine cr fun _ hK331_ => ?_
  refine sm (vI .i64 (O.cm kb f33_n.kb)) ?_
  refine sv (v := (vB (decide (O.cm kb f33_n.kb < 0)))) (x_bin rfl rfl rfl) ?_
  refine wn (hK331_ _ _ ?_)
  refine C_cond (b := decide (O.cm kb f33_n.kb < 0)) rfl (fun c332_t => ?_) (fun c332_f => ?_)
  ·have c332_tp : O.cm kb f33_n.kb < 0 := of_decide_eq_true c332_t
   refine C_reg ?_
   refine sm (vQ f33_n.a) ?_
   refine sv (v := (vQ f33_n.a)) (by kernel_rfl) ?_
   refine sv (v := (vP (some ⟨f33_n.a, 4, none⟩))) (by kernel_rfl) ?_
   refine sv (v := (vQ (rt sb f33_a))) (x_load1 rfl underlying182 rfl ((Holds.rdf H327_ 0 rfl) 4 (vQ (rt sb f33_a)) rfl)) ?_
   refine sv (v := (vQ (rt sb f33_a))) (x_assign rfl) ?_
   refine wpList_nil (X_blkN (X_then ?_))
   have H333_ := ((Holds.bring (Holds.bring (Holds.bring H327_ 3 rfl) 3 rfl) 2 rfl) :)
   have H334_ := Holds.cons_cx (sb := sb) (f := (⟨true, f33_n, f33_b⟩ : Fr K)) (C := C1) (x := (rt sb f33_a)) H333_
   have H335_ := H334_
   have H336_ := Holds.pkF H335_ [0, 1, 1, 1, 1, 1, 0, 0] 0
   exact ⟨⟨((⟨true, f33_n, f33_b⟩ : Fr K) :: C1), f33_a⟩, ⟨_, congrArg (fun e => mkA 165 e []) (ch (ch (ch (ch rfl rfl) ((by first | rfl | omega | (simp; done) | (simp; omega)) : (vQ f33_n.a) = (vP (some ⟨(pa sb ((⟨true, f33_n, f33_b⟩ : Fr K) :: C1)), 0, none⟩)))) rfl) rfl), H336_, S329_, (hpl), (⟨by unfold bef; first | omega | (simp; omega), hway⟩), (hTk.2.1), (COk.cons (f := (⟨true, f33_n, f33_b⟩ : Fr K)) hTk.1 hTk.2.2 hCk)⟩, (by first | (simp [ino]; done) | (simp [ino]; omega))⟩
  ·have c332_fp : ¬ (O.cm kb f33_n.kb < 0) := of_decide_eq_false c332_f
   refine cr fun _ hK337_ => ?_
   refine sm (vI .i64 (O.cm kb f33_n.kb)) ?_
   refine sv (v := (vB (decide (O.cm kb f33_n.kb = 0)))) (x_bin rfl rfl rfl) ?_
   refine wn (hK337_ _ _ ?_)
   refine C_cond (b := decide (O.cm kb f33_n.kb = 0)) rfl (fun c338_t => ?_) (fun c338_f => ?_)
   ·have c338_tp : O.cm kb f33_n.kb = 0 := of_decide_eq_true c338_t
    refine C_seq (fun _ hK339_ => ?_)
    refine A_start (S := fun w => (Rd f33_n.a [f33_n.b, f33_n.e, f33_n.v, f33_n.mx, (vQ (rt sb f33_a)), (vQ (rt sb f33_b)), (vQ (pa sb C1)), (vI .i64 f33_n.c)] w ∧ Blk w f33_n.a) ∧ RtRd w (rt sb f33_a) (rmx f33_a) ∧ RtRd w (rt sb f33_b) (rmx f33_b) ∧ (Rd b18_ [((Value.iface it ix)), ((Value.iface jt jx)), ((Value.iface vt vx)), ((Value.iface jt jx)), (vQ sb), (vQ sb), (vQ sb), (vI .i64 1)] w ∧ Blk w b18_) ∧ Sub R (hp w)) (N := 16) foll rfl rfl ?_
    have H340_ := Holds.drew_ H327_
    have hq341_ := And.intro ((And.intro (Holds.rdf H340_ 0 rfl) (Holds.blk H340_ 0 rfl))) (And.intro (Holds.tr_rd H340_ 1 rfl 9 rfl) (And.intro (Holds.tr_rd H340_ 2 rfl 9 rfl) (And.intro ((And.intro (Holds.rdf H340_ 4 rfl) (Holds.blk H340_ 4 rfl))) ((Holds.ro_at H340_ 7 rfl)))))
    refine A_tk 0 (v := (vQ b18_)) rfl (by kernel_rfl) (fun w hS => x_move rfl) hq341_ ?_
    refine A_tk 1 (v := (vQ b18_)) rfl (by kernel_rfl) (fun w hS => by kernel_rfl) hq341_ ?_
    refine A_tk 2 (v := (vQ b18_)) rfl (by kernel_rfl) (fun w hS => by kernel_rfl) hq341_ ?_
    refine A_tk 3 (v := (vQ b18_)) rfl (by kernel_rfl) (fun w hS => by kernel_rfl) hq341_ ?_
    refine A_tk 4 (v := (vP (some ⟨b18_, 1, none⟩))) rfl (by kernel_rfl) (fun w hS => by kernel_rfl) hq341_ ?_
    refine A_tk 5 (v := ((Value.iface jt jx))) rfl (by kernel_rfl) (fun w hS => x_load1 rfl underlying109 rfl (hS.2.2.2.1.1 1 ((Value.iface jt jx)) rfl)) hq341_ ?_
    refine A_tk 6 (v := (vQ f33_n.a)) rfl (by kernel_rfl) (fun w hS => x_move rfl) hq341_ ?_
    refine A_tk 7 (v := (vQ f33_n.a)) rfl (by kernel_rfl) (fun w hS => by kernel_rfl) hq341_ ?_
    refine A_tk 8 (v := (vQ f33_n.a)) rfl (by kernel_rfl) (fun w hS => by kernel_rfl) hq341_ ?_
    refine A_tk 9 (v := (vQ f33_n.a)) rfl (by kernel_rfl) (fun w hS => by kernel_rfl) hq341_ ?_
    refine A_tk 10 (v := (vP (some ⟨f33_n.a, 1, none⟩))) rfl (by kernel_rfl) (fun w hS => by kernel_rfl) hq341_ ?_
    refine A_tk 11 (v := f33_n.e) rfl (by kernel_rfl) (fun w hS => x_load1 rfl underlying109 rfl (hS.1.1 1 f33_n.e rfl)) hq341_ ?_
    refine A_tk 12 (v := ((Value.iface jt jx))) rfl (by kernel_rfl) (fun w hS => by kernel_rfl) hq341_ ?_
    refine A_tk 13 (v := ((Value.iface jt jx))) rfl (by kernel_rfl) (fun w hS => x_move rfl) hq341_ ?_
    refine A_ready (i := 14) (rs := []) (by kernel_rfl) ?_
    refine AllR.cons ?_ AllR.nil
    refine A_op (ls' := #[true, true, true, true, true, true, true, true, true, true, true, true, true, true, true, false]) rfl (by kernel_rfl) (T_cmp rfl rfl (O.cmp he (hk_.e)) H340_ 7 rfl ?_)
    intro w342_ S344_ H343_
    have S345_ := Same.trans (Same.trans S329_ (Same.drew _)) S344_
    refine ⟨⟨(And.intro (Holds.rdf H343_ 0 rfl) (Holds.blk H343_ 0 rfl)), Holds.tr_rd H343_ 1 rfl 9 rfl, Holds.tr_rd H343_ 2 rfl 9 rfl, (And.intro (Holds.rdf H343_ 4 rfl) (Holds.blk H343_ 4 rfl)), (Holds.ro_at H343_ 7 rfl)⟩, ?_⟩
    have hq346_ := And.intro ((And.intro (Holds.rdf H343_ 0 rfl) (Holds.blk H343_ 0 rfl))) (And.intro (Holds.tr_rd H343_ 1 rfl 9 rfl) (And.intro (Holds.tr_rd H343_ 2 rfl 9 rfl) (And.intro ((And.intro (Holds.rdf H343_ 4 rfl) (Holds.blk H343_ 4 rfl))) ((Holds.ro_at H343_ 7 rfl)))))
    refine A_tk 15 (v := (vB (decide (O.cm ke f33_n.ke < 0)))) rfl (by kernel_rfl) (fun w hS => x_bin rfl rfl rfl) hq346_ ?_
    refine A_done (by kernel_rfl) ?_
    refine (X_then (hK339_ _ _ ?_))
    refine C_cond (b := decide (O.cm ke f33_n.ke < 0)) rfl (fun c347_t => ?_) (fun c347_f => ?_)
    ·have c347_tp : O.cm ke f33_n.ke < 0 := of_decide_eq_true c347_t
     refine C_reg ?_
     refine sm (vQ f33_n.a) ?_
     refine sv (v := (vQ f33_n.a)) (by kernel_rfl) ?_
     refine sv (v := (vP (some ⟨f33_n.a, 4, none⟩))) (by kernel_rfl) ?_
     refine sv (v := (vQ (rt sb f33_a))) (x_load1 rfl underlying182 rfl ((Holds.rdf H343_ 0 rfl) 4 (vQ (rt sb f33_a)) rfl)) ?_
     refine sv (v := (vQ (rt sb f33_a))) (x_assign rfl) ?_
     refine wpList_nil (X_blkN (X_then ?_))
     have H348_ := ((Holds.bring (Holds.bring (Holds.bring H343_ 3 rfl) 3 rfl) 2 rfl) :)
     have H349_ := Holds.cons_cx (sb := sb) (f := (⟨true, f33_n, f33_b⟩ : Fr K)) (C := C1) (x := (rt sb f33_a)) H348_
     have H350_ := H349_
     have H351_ := Holds.pkF H350_ [0, 1, 1, 1, 1, 1, 0, 0] 0
     exact ⟨⟨((⟨true, f33_n, f33_b⟩ : Fr K) :: C1), f33_a⟩, ⟨_, congrArg (fun e => mkA 165 e []) (ch (ch (ch (ch rfl rfl) ((by first | rfl | omega | (simp; done) | (simp; omega)) : (vQ f33_n.a) = (vP (some ⟨(pa sb ((⟨true, f33_n, f33_b⟩ : Fr K) :: C1)), 0, none⟩)))) rfl) rfl), H351_, S345_, (hpl), (⟨by unfold bef; first | omega | (simp; omega), hway⟩), (hTk.2.1), (COk.cons (f := (⟨true, f33_n, f33_b⟩ : Fr K)) hTk.1 hTk.2.2 hCk)⟩, (by first | (simp [ino]; done) | (simp [ino]; omega))⟩
    ·have c347_fp : ¬ (O.cm ke f33_n.ke < 0) := of_decide_eq_false c347_f
     refine C_reg ?_
     refine sm (vQ f33_n.a) ?_
     refine sv (v := (vQ f33_n.a)) (by kernel_rfl) ?_
     refine sv (v := (vP (some ⟨f33_n.a, 5, none⟩))) (by kernel_rfl) ?_
     refine sv (v := (vQ (rt sb f33_b))) (x_load1 rfl underlying182 rfl ((Holds.rdf H343_ 0 rfl) 5 (vQ (rt sb f33_b)) rfl)) ?_
     refine sv (v := (vQ (rt sb f33_b))) (x_assign rfl) ?_
     refine wpList_nil (X_blkN (X_then ?_))
     have H352_ := ((Holds.bring (Holds.bring (Holds.bring H343_ 3 rfl) 2 rfl) 2 rfl) :)
     have H353_ := Holds.cons_cx (sb := sb) (f := (⟨false, f33_n, f33_a⟩ : Fr K)) (C := C1) (x := (rt sb f33_b)) H352_
     have H354_ := H353_
     have H355_ := Holds.pkF H354_ [0, 1, 1, 1, 1, 1, 0, 0] 0
     exact ⟨⟨((⟨false, f33_n, f33_a⟩ : Fr K) :: C1), f33_b⟩, ⟨_, congrArg (fun e => mkA 165 e []) (ch (ch (ch (ch rfl rfl) ((by first | rfl | omega | (simp; done) | (simp; omega)) : (vQ f33_n.a) = (vP (some ⟨(pa sb ((⟨false, f33_n, f33_a⟩ : Fr K) :: C1)), 0, none⟩)))) rfl) rfl), H355_, S345_, (hpl), (⟨by unfold bef; first | omega | (simp; omega), hway⟩), (hTk.2.2), (COk.cons (f := (⟨false, f33_n, f33_a⟩ : Fr K)) hTk.1 hTk.2.1 hCk)⟩, (by first | (simp [ino]; done) | (simp [ino]; omega))⟩
   ·have c338_fp : ¬ (O.cm kb f33_n.kb = 0) := of_decide_eq_false c338_f
    refine C_reg ?_
    refine sm (vQ f33_n.a) ?_
    refine sv (v := (vQ f33_n.a)) (by kernel_rfl) ?_
    refine sv (v := (vP (some ⟨f33_n.a, 5, none⟩))) (by kernel_rfl) ?_
    refine sv (v := (vQ (rt sb f33_b))) (x_load1 rfl underlying182 rfl ((Holds.rdf H327_ 0 rfl) 5 (vQ (rt sb f33_b)) rfl)) ?_
    refine sv (v := (vQ (rt sb f33_b))) (x_assign rfl) ?_
    refine wpList_nil (X_blkN (X_then ?_))
    have H356_ := ((Holds.bring (Holds.bring (Holds.bring H327_ 3 rfl) 2 rfl) 2 rfl) :)
    have H357_ := Holds.cons_cx (sb := sb) (f := (⟨false, f33_n, f33_a⟩ : Fr K)) (C := C1) (x := (rt sb f33_b)) H356_
    have H358_ := H357_
    have H359_ := Holds.pkF H358_ [0, 1, 1, 1, 1, 1, 0, 0] 0
    exact ⟨⟨((⟨false, f33_n, f33_a⟩ : Fr K) :: C1), f33_b⟩, ⟨_, congrArg (fun e => mkA 165 e []) (ch (ch (ch (ch rfl rfl) ((by first | rfl | omega | (simp; done) | (simp; omega)) : (vQ f33_n.a) = (vP (some ⟨(pa sb ((⟨false, f33_n, f33_a⟩ : Fr K) :: C1)), 0, none⟩)))) rfl) rfl), H359_, S329_, (hpl), (⟨by unfold bef; first | omega | (simp; omega), hway⟩), (hTk.2.2), (COk.cons (f := (⟨false, f33_n, f33_a⟩ : Fr K)) hTk.1 hTk.2.1 hCk)⟩, (by first | (simp [ino]; done) | (simp [ino]; omega))⟩

theorem itInsert (R : HP) (K : Type) (O : KO K) (tb sb : Nat) (cnt : Int) (sc : List Value) (W : Tr K) (it jt vt : TypeId) (ix jx vx : Value) (kb ke : K) (hW : TOk O R W ∧ LocT O W ∧ blackT W) (hb : O.Val R (Value.iface it ix) kb) (he : O.Val R (Value.iface jt jx) ke) (hcn : 0 ≤ cnt ∧ cnt ≤ 1000000000000) (hs : srt O (ino W)) :
    Tri Try.prog 147 #[(vQ tb), (vA #[((Value.iface it ix)), ((Value.iface jt jx))]), ((Value.iface vt vx))] R [cl tb 188 [(vQ (rt sb W)), (vI .i64 cnt), (vQ sb)], tr sb sb W, clf sb 185 sc] (fun v__ post__ => ∃ (W' : Tr K) (L1 L2 : List (ND K)) (z : ND K), v__ = (vT #[]) ∧ post__ = [cl tb 188 [(vQ (rt sb W')), (vI .i64 (cnt + 1)), (vQ sb)], tr sb sb W', clf sb 185 sc] ∧ (TOk O R W' ∧ LocT O W' ∧ blackT W') ∧ (ino W' = L1 ++ z.er :: L2) ∧ (ino W = L1 ++ L2) ∧ (z.b = (Value.iface it ix) ∧ z.e = (Value.iface jt jx) ∧ z.v = (Value.iface vt vx) ∧ z.kb = kb ∧ z.ke = ke) ∧ (srt O (ino W')) ∧ (∀ x ∈ L1, ¬ bef O kb ke x) ∧ (∀ y ∈ L2, bef O kb ke y)) := by
  refine (itInsertW R K O tb sb cnt sc W it jt vt ix jx vx kb ke hW hb he hs).mono fun v post h => ?_
  obtain ⟨W', L1, L2, z, h1, h2, h3⟩ := h
  exact ⟨W', L1, L2, z, h1, by rw [h2, IntWalk.i64_in _ (by omega)], h3⟩
end Go.Proofs.Ytlnihndjepjagaa
set_option linter.unusedVariables false
set_option linter.unusedSimpArgs false
namespace Go.Proofs.Ytlnihndjepjagaa
open Go Go.RowKit Gw Try
open Go.Value renaming int → vI, bool → vB, slice → vS, pointer → vP, agg → vA, tuple → vT

section
variable {K : Type} (O : KO K)
def icmp (b e nb ne : K) : Int := if O.cm b nb < 0 ∧ O.cm e nb ≤ 0 then -1 else if 0 ≤ O.cm b ne then 1 else 0
end


set_option maxHeartbeats 1600000 in
theorem itCmp (R : HP) (K : Type) (O : KO K) (ib : Nat) (n : ND K) (l r p : Nat) (it jt : TypeId) (ix jx : Value) (kb ke : K) (hb : O.Val R (Value.iface it ix) kb) (he : O.Val R (Value.iface jt jx) ke) (hn : NOk O R n) :
    Tri Try.prog 163 #[(vQ ib), (Value.iface 290 (vQ n.a))] R [cl ib 111 [((Value.iface it ix)), ((Value.iface jt jx))], clf n.a 185 [n.b, n.e, n.v, n.mx, (vQ l), (vQ r), (vQ p), (vI .i64 n.c)]] (fun v__ post__ => v__ = (vI .i64 (icmp O kb ke n.kb n.ke)) ∧ post__ = [cl ib 111 [((Value.iface it ix)), ((Value.iface jt jx))], clf n.a 185 [n.b, n.e, n.v, n.mx, (vQ l), (vQ r), (vQ p), (vI .i64 n.c)]]) := by
 refine Tri.into (n := 52) (al := [(vQ ib), (Value.iface 290 (vQ n.a))]) func163 rfl ntmps163 rfl rfl fun w F H => ?_
 refine cr fun _ hK1_ => ?_
 refine sv (v := (vI .i64 0)) (x_assign rfl) ?_
 refine wn (hK1_ _ _ ?_)
 refine cr fun _ hK2_ => ?_
 refine sm (Value.iface 290 (vQ n.a)) ?_
 refine sv (v := (vQ n.a)) (by kernel_rfl) ?_
 refine sv (v := (vQ n.a)) (x_assign rfl) ?_
 refine wn (hK2_ _ _ ?_)
 refine C_seq (fun _ hK3_ => ?_)
 refine A_start (S := fun w => Rd ib [((Value.iface it ix)), ((Value.iface jt jx))] w ∧ (Rd n.a [n.b, n.e, n.v, n.mx, (vQ l), (vQ r), (vQ p), (vI .i64 n.c)] w ∧ Blk w n.a) ∧ Sub R (hp w)) (N := 12) foll rfl rfl ?_
 have H4_ := Holds.drew_ H
 have hq5_ := And.intro (Holds.rd H4_ 1 rfl) (And.intro ((And.intro (Holds.rdf H4_ 2 rfl) (Holds.blk H4_ 2 rfl))) ((Holds.ro_at H4_ 0 rfl)))
 refine A_tk 0 (v := (vQ ib)) rfl (by kernel_rfl) (fun w hS => x_move rfl) hq5_ ?_
 refine A_tk 1 (v := (vQ ib)) rfl (by kernel_rfl) (fun w hS => by kernel_rfl) hq5_ ?_
 refine A_tk 2 (v := (vQ ib)) rfl (by kernel_rfl) (fun w hS => by kernel_rfl) hq5_ ?_
 refine A_tk 3 (v := ((Value.iface it ix))) rfl (by kernel_rfl) (fun w hS => x_load1 rfl underlying109 rfl (hS.1 0 ((Value.iface it ix)) rfl)) hq5_ ?_
 refine A_tk 4 (v := (vQ n.a)) rfl (by kernel_rfl) (fun w hS => x_move rfl) hq5_ ?_
 refine A_tk 5 (v := (vQ n.a)) rfl (by kernel_rfl) (fun w hS => by kernel_rfl) hq5_ ?_
 refine A_tk 6 (v := (vQ n.a)) rfl (by kernel_rfl) (fun w hS => by kernel_rfl) hq5_ ?_
 refine A_tk 7 (v := n.b) rfl (by kernel_rfl) (fun w hS => x_load1 rfl underlying109 rfl (hS.2.1.1 0 n.b rfl)) hq5_ ?_
 refine A_tk 8 (v := ((Value.iface it ix))) rfl (by kernel_rfl) (fun w hS => by kernel_rfl) hq5_ ?_
 refine A_tk 9 (v := ((Value.iface it ix))) rfl (by kernel_rfl) (fun w hS => x_move rfl) hq5_ ?_
 refine A_ready (i := 10) (rs := []) (by kernel_rfl) ?_
 refine AllR.cons ?_ AllR.nil
 refine A_op (ls' := #[true, true, true, true, true, true, true, true, true, true, true, false]) rfl (by kernel_rfl) (T_cmp rfl rfl (O.cmp hb hn.b) H4_ 0 rfl ?_)
 intro w6_ S8_ H7_
 have S9_ := Same.trans (Same.trans (Same.refl w) (Same.drew _)) S8_
 refine ⟨⟨Holds.rd H7_ 1 rfl, (And.intro (Holds.rdf H7_ 2 rfl) (Holds.blk H7_ 2 rfl)), (Holds.ro_at H7_ 0 rfl)⟩, ?_⟩
 have hq10_ := And.intro (Holds.rd H7_ 1 rfl) (And.intro ((And.intro (Holds.rdf H7_ 2 rfl) (Holds.blk H7_ 2 rfl))) ((Holds.ro_at H7_ 0 rfl)))
 refine A_tk 11 (v := (vI .i64 (O.cm kb n.kb))) rfl (by kernel_rfl) (fun w hS => x_assign rfl) hq10_ ?_
 refine A_done (by kernel_rfl) ?_
 refine (X_then (hK3_ _ _ ?_))
 refine C_seq (fun _ hK11_ => ?_)
 refine A_start (S := fun w => Rd ib [((Value.iface it ix)), ((Value.iface jt jx))] w ∧ (Rd n.a [n.b, n.e, n.v, n.mx, (vQ l), (vQ r), (vQ p), (vI .i64 n.c)] w ∧ Blk w n.a) ∧ Sub R (hp w)) (N := 12) foll rfl rfl ?_
 have H12_ := Holds.drew_ H7_
 have hq13_ := And.intro (Holds.rd H12_ 1 rfl) (And.intro ((And.intro (Holds.rdf H12_ 2 rfl) (Holds.blk H12_ 2 rfl))) ((Holds.ro_at H12_ 0 rfl)))
 refine A_tk 0 (v := (vQ ib)) rfl (by kernel_rfl) (fun w hS => x_move rfl) hq13_ ?_
 refine A_tk 1 (v := (vQ ib)) rfl (by kernel_rfl) (fun w hS => by kernel_rfl) hq13_ ?_
 refine A_tk 2 (v := (vQ ib)) rfl (by kernel_rfl) (fun w hS => by kernel_rfl) hq13_ ?_
 refine A_tk 3 (v := ((Value.iface it ix))) rfl (by kernel_rfl) (fun w hS => x_load1 rfl underlying109 rfl (hS.1 0 ((Value.iface it ix)) rfl)) hq13_ ?_
 refine A_tk 4 (v := (vQ n.a)) rfl (by kernel_rfl) (fun w hS => x_move rfl) hq13_ ?_
 refine A_tk 5 (v := (vQ n.a)) rfl (by kernel_rfl) (fun w hS => by kernel_rfl) hq13_ ?_
 refine A_tk 6 (v := (vP (some ⟨n.a, 1, none⟩))) rfl (by kernel_rfl) (fun w hS => by kernel_rfl) hq13_ ?_
 refine A_tk 7 (v := n.e) rfl (by kernel_rfl) (fun w hS => x_load1 rfl underlying109 rfl (hS.2.1.1 1 n.e rfl)) hq13_ ?_
 refine A_tk 8 (v := ((Value.iface it ix))) rfl (by kernel_rfl) (fun w hS => by kernel_rfl) hq13_ ?_
 refine A_tk 9 (v := ((Value.iface it ix))) rfl (by kernel_rfl) (fun w hS => x_move rfl) hq13_ ?_
 refine A_ready (i := 10) (rs := []) (by kernel_rfl) ?_
 refine AllR.cons ?_ AllR.nil
 refine A_op (ls' := #[true, true, true, true, true, true, true, true, true, true, true, false]) rfl (by kernel_rfl) (T_cmp rfl rfl (O.cmp hb hn.e) H12_ 0 rfl ?_)
 intro w14_ S16_ H15_
 have S17_ := Same.trans (Same.trans S9_ (Same.drew _)) S16_
 refine ⟨⟨Holds.rd H15_ 1 rfl, (And.intro (Holds.rdf H15_ 2 rfl) (Holds.blk H15_ 2 rfl)), (Holds.ro_at H15_ 0 rfl)⟩, ?_⟩
 have hq18_ := And.intro (Holds.rd H15_ 1 rfl) (And.intro ((And.intro (Holds.rdf H15_ 2 rfl) (Holds.blk H15_ 2 rfl))) ((Holds.ro_at H15_ 0 rfl)))
 refine A_tk 11 (v := (vI .i64 (O.cm kb n.ke))) rfl (by kernel_rfl) (fun w hS => x_assign rfl) hq18_ ?_
 refine A_done (by kernel_rfl) ?_
 refine (X_then (hK11_ _ _ ?_))
 refine C_seq (fun _ hK19_ => ?_)
 refine A_start (S := fun w => Rd ib [((Value.iface it ix)), ((Value.iface jt jx))] w ∧ (Rd n.a [n.b, n.e, n.v, n.mx, (vQ l), (vQ r), (vQ p), (vI .i64 n.c)] w ∧ Blk w n.a) ∧ Sub R (hp w)) (N := 12) foll rfl rfl ?_
 have H20_ := Holds.drew_ H15_
 have hq21_ := And.intro (Holds.rd H20_ 1 rfl) (And.intro ((And.intro (Holds.rdf H20_ 2 rfl) (Holds.blk H20_ 2 rfl))) ((Holds.ro_at H20_ 0 rfl)))
 refine A_tk 0 (v := (vQ ib)) rfl (by kernel_rfl) (fun w hS => x_move rfl) hq21_ ?_
 refine A_tk 1 (v := (vQ ib)) rfl (by kernel_rfl) (fun w hS => by kernel_rfl) hq21_ ?_
 refine A_tk 2 (v := (vP (some ⟨ib, 1, none⟩))) rfl (by kernel_rfl) (fun w hS => by kernel_rfl) hq21_ ?_
 refine A_tk 3 (v := ((Value.iface jt jx))) rfl (by kernel_rfl) (fun w hS => x_load1 rfl underlying109 rfl (hS.1 1 ((Value.iface jt jx)) rfl)) hq21_ ?_
 refine A_tk 4 (v := (vQ n.a)) rfl (by kernel_rfl) (fun w hS => x_move rfl) hq21_ ?_
 refine A_tk 5 (v := (vQ n.a)) rfl (by kernel_rfl) (fun w hS => by kernel_rfl) hq21_ ?_
 refine A_tk 6 (v := (vQ n.a)) rfl (by kernel_rfl) (fun w hS => by kernel_rfl) hq21_ ?_
 refine A_tk 7 (v := n.b) rfl (by kernel_rfl) (fun w hS => x_load1 rfl underlying109 rfl (hS.2.1.1 0 n.b rfl)) hq21_ ?_
 refine A_tk 8 (v := ((Value.iface jt jx))) rfl (by kernel_rfl) (fun w hS => by kernel_rfl) hq21_ ?_
 refine A_tk 9 (v := ((Value.iface jt jx))) rfl (by kernel_rfl) (fun w hS => x_move rfl) hq21_ ?_
 refine A_ready (i := 10) (rs := []) (by kernel_rfl) ?_
 refine AllR.cons ?_ AllR.nil
 refine A_op (ls' := #[true, true, true, true, true, true, true, true, true, true, true, false]) rfl (by kernel_rfl) (T_cmp rfl rfl (O.cmp he hn.b) H20_ 0 rfl ?_)
 intro w22_ S24_ H23_
 have S25_ := Same.trans (Same.trans S17_ (Same.drew _)) S24_
 refine ⟨⟨Holds.rd H23_ 1 rfl, (And.intro (Holds.rdf H23_ 2 rfl) (Holds.blk H23_ 2 rfl)), (Holds.ro_at H23_ 0 rfl)⟩, ?_⟩
 have hq26_ := And.intro (Holds.rd H23_ 1 rfl) (And.intro ((And.intro (Holds.rdf H23_ 2 rfl) (Holds.blk H23_ 2 rfl))) ((Holds.ro_at H23_ 0 rfl)))
 refine A_tk 11 (v := (vI .i64 (O.cm ke n.kb))) rfl (by kernel_rfl) (fun w hS => x_assign rfl) hq26_ ?_
 refine A_done (by kernel_rfl) ?_
 refine (X_then (hK19_ _ _ ?_))
 refine C_seq (fun _ hK27_ => ?_)
 refine cr fun _ hK28_ => ?_
 refine sm (vI .i64 (O.cm kb n.kb)) ?_
 refine sv (v := (vB (decide (O.cm kb n.kb < 0)))) (x_bin rfl rfl rfl) ?_
 refine sm (vB (decide (O.cm kb n.kb < 0))) ?_
 rcases Bool.eq_false_or_eq_true (decide (O.cm kb n.kb < 0)) with c29_t | c29_f
 ·have c29_tp : O.cm kb n.kb < 0 := of_decide_eq_true c29_t
  refine S_yes (j := 2) (dj := 46) (b := true) rfl rfl (congrArg vB c29_t) (T_val (v := (vI .i64 (O.cm ke n.kb))) (x_move rfl) ?_)
  refine S_yes (j := 2) (dj := 46) (b := true) rfl rfl (congrArg vB c29_t) (T_val (v := (vB (decide (O.cm ke n.kb ≤ 0)))) (x_bin rfl rfl rfl) ?_)
  refine S_list (T_pickT (v := (vB (decide (O.cm ke n.kb ≤ 0)))) (congrArg vB c29_t) rfl ?_)
  refine wn (hK28_ _ _ ?_)
  refine C_cond (b := decide (O.cm ke n.kb ≤ 0)) rfl (fun c30_t => ?_) (fun c30_f => ?_)
  ·have c30_tp : O.cm ke n.kb ≤ 0 := of_decide_eq_true c30_t
   refine cr fun _ hK31_ => ?_
   refine sv (v := (vI .i64 (-1))) (x_assign rfl) ?_
   refine wn (hK31_ _ _ ?_)
   refine C_ret (X_thenR ?_)
   refine R_any (v := (vI .i64 (-1))) (run_results1 rfl rfl) ?_
   exact ⟨_, _, rfl, ⟨(congrArg (vI .i64) ((by unfold icmp; first | exact (if_pos (by omega)).symm | (rw [if_neg (by omega)]; first | exact (if_pos (by omega)).symm | exact (if_neg (by omega)).symm)) : -1 = icmp O kb ke n.kb n.ke)), rfl⟩, S25_, H23_⟩
  ·have c30_fp : ¬ (O.cm ke n.kb ≤ 0) := of_decide_eq_false c30_f
   refine C_skip (X_then (hK27_ _ _ ?_))
   refine C_seq (fun _ hK32_ => ?_)
   refine cr fun _ hK33_ => ?_
   refine sm (vI .i64 (O.cm kb n.ke)) ?_
   refine sv (v := (vB (decide (0 ≤ O.cm kb n.ke)))) (x_bin rfl rfl rfl) ?_
   refine wn (hK33_ _ _ ?_)
   refine C_cond (b := decide (0 ≤ O.cm kb n.ke)) rfl (fun c34_t => ?_) (fun c34_f => ?_)
   ·have c34_tp : 0 ≤ O.cm kb n.ke := of_decide_eq_true c34_t
    refine cr fun _ hK35_ => ?_
    refine sv (v := (vI .i64 1)) (x_assign rfl) ?_
    refine wn (hK35_ _ _ ?_)
    refine C_ret (X_thenR ?_)
    refine R_any (v := (vI .i64 1)) (run_results1 rfl rfl) ?_
    exact ⟨_, _, rfl, ⟨(congrArg (vI .i64) ((by unfold icmp; first | exact (if_pos (by omega)).symm | (rw [if_neg (by omega)]; first | exact (if_pos (by omega)).symm | exact (if_neg (by omega)).symm)) : 1 = icmp O kb ke n.kb n.ke)), rfl⟩, S25_, H23_⟩
   ·have c34_fp : ¬ (0 ≤ O.cm kb n.ke) := of_decide_eq_false c34_f
    refine C_skip (X_then (hK32_ _ _ ?_))
    refine cr fun _ hK36_ => ?_
    refine sv (v := (vI .i64 0)) (x_assign rfl) ?_
    refine wn (hK36_ _ _ ?_)
    refine C_ret ?_
    refine R_any (v := (vI .i64 0)) (run_results1 rfl rfl) ?_
    exact ⟨_, _, rfl, ⟨(congrArg (vI .i64) ((by unfold icmp; first | exact (if_pos (by omega)).symm | (rw [if_neg (by omega)]; first | exact (if_pos (by omega)).symm | exact (if_neg (by omega)).symm)) : 0 = icmp O kb ke n.kb n.ke)), rfl⟩, S25_, H23_⟩
 ·have c29_fp : ¬ (O.cm kb n.kb < 0) := of_decide_eq_false c29_f
  refine S_no (j := 2) (dj := 46) (b := false) rfl rfl (congrArg vB c29_f) (by decide) ?_
  refine S_no (j := 2) (dj := 46) (b := false) rfl rfl (congrArg vB c29_f) (by decide) ?_
  refine S_list (T_pickF (v := (vB false)) (congrArg vB c29_f) rfl ?_)
  refine wn (hK28_ _ _ ?_)
  refine C_condF rfl ?_
  refine C_skip (X_then (hK27_ _ _ ?_))
  refine C_seq (fun _ hK37_ => ?_)
  refine cr fun _ hK38_ => ?_
  refine sm (vI .i64 (O.cm kb n.ke)) ?_
  refine sv (v := (vB (decide (0 ≤ O.cm kb n.ke)))) (x_bin rfl rfl rfl) ?_
  refine wn (hK38_ _ _ ?_)
  refine C_cond (b := decide (0 ≤ O.cm kb n.ke)) rfl (fun c39_t => ?_) (fun c39_f => ?_)
  ·have c39_tp : 0 ≤ O.cm kb n.ke := of_decide_eq_true c39_t
   refine cr fun _ hK40_ => ?_
   refine sv (v := (vI .i64 1)) (x_assign rfl) ?_
   refine wn (hK40_ _ _ ?_)
   refine C_ret (X_thenR ?_)
   refine R_any (v := (vI .i64 1)) (run_results1 rfl rfl) ?_
   exact ⟨_, _, rfl, ⟨(congrArg (vI .i64) ((by unfold icmp; first | exact (if_pos (by omega)).symm | (rw [if_neg (by omega)]; first | exact (if_pos (by omega)).symm | exact (if_neg (by omega)).symm)) : 1 = icmp O kb ke n.kb n.ke)), rfl⟩, S25_, H23_⟩
  ·have c39_fp : ¬ (0 ≤ O.cm kb n.ke) := of_decide_eq_false c39_f
   refine C_skip (X_then (hK37_ _ _ ?_))
   refine cr fun _ hK41_ => ?_
   refine sv (v := (vI .i64 0)) (x_assign rfl) ?_
   refine wn (hK41_ _ _ ?_)
   refine C_ret ?_
   refine R_any (v := (vI .i64 0)) (run_results1 rfl rfl) ?_
   exact ⟨_, _, rfl, ⟨(congrArg (vI .i64) ((by unfold icmp; first | exact (if_pos (by omega)).symm | (rw [if_neg (by omega)]; first | exact (if_pos (by omega)).symm | exact (if_neg (by omega)).symm)) : 0 = icmp O kb ke n.kb n.ke)), rfl⟩, S25_, H23_⟩
end Go.Proofs.Ytlnihndjepjagaa
set_option linter.unusedVariables false
set_option linter.unusedSimpArgs false
namespace Go.Proofs.Ytlnihndjepjagaa
open Go Go.RowKit Gw Try
open Go.Value renaming int → vI, bool → vB, slice → vS, pointer → vP, agg → vA, tuple → vT

section
variable {K : Type} (O : KO K)
def isect (b e : K) : Tr K → Bool
  | .lf => false
  | .nd n u v => if icmp O b e n.kb n.ke = 0 then true else if (match rmx u with | none => false | some m => decide (0 < O.cm m.2 b)) then isect b e u else isect b e v
variable {O}
theorem isect_l {b e : K} {n : ND K} {u v : Tr K} (h1 : ¬ icmp O b e n.kb n.ke = 0) (h2 : (match rmx u with | none => false | some m => decide (0 < O.cm m.2 b)) = true) : isect O b e (.nd n u v) = isect O b e u := by
  rw [isect, if_neg h1, if_pos h2]
theorem isect_r {b e : K} {n : ND K} {u v : Tr K} (h1 : ¬ icmp O b e n.kb n.ke = 0) (h2 : ¬ (match rmx u with | none => false | some m => decide (0 < O.cm m.2 b)) = true) : isect O b e (.nd n u v) = isect O b e v := by
  rw [isect, if_neg h1, if_neg h2]
end


set_option maxHeartbeats 16000000 in
theorem itIsect (R : HP) (K : Type) (O : KO K) (tb sb : Nat) (cnt : Int) (sc : List Value) (W : Tr K) (it jt : TypeId) (ix jx : Value) (kb ke : K) (hW : TOk O R W) (hb : O.Val R (Value.iface it ix) kb) (he : O.Val R (Value.iface jt jx) ke) :
    Tri Try.prog 148 #[(vQ tb), (vA #[((Value.iface it ix)), ((Value.iface jt jx))])] R [cl tb 188 [(vQ (rt sb W)), (vI .i64 cnt), (vQ sb)], tr sb sb W, clf sb 185 sc] (fun v__ post__ => v__ = (vB (isect O kb ke W)) ∧ post__ = [cl tb 188 [(vQ (rt sb W)), (vI .i64 cnt), (vQ sb)], tr sb sb W, clf sb 185 sc]) := by
 refine Tri.into (n := 61) (al := [(vQ tb), (vA #[((Value.iface it ix)), ((Value.iface jt jx))])]) func148 rfl ntmps148 rfl rfl fun w F H => ?_
 refine cr fun _ hK1_ => ?_
 refine S_list (T_box (v := (vA #[((Value.iface it ix)), ((Value.iface jt jx))])) rfl H ?_)
 intro b2_ w3_ S5_ H4_
 have S6_ := Same.trans (Same.refl w) S5_
 refine sv (v := (vB false)) (x_assign rfl) ?_
 refine wn (hK1_ _ _ ?_)
 refine cr fun _ hK7_ => ?_
 refine sm (vQ tb) ?_
 refine sv (v := (vQ tb)) (by kernel_rfl) ?_
 refine sv (v := (vQ tb)) (by kernel_rfl) ?_
 refine sv (v := (vQ (rt sb W))) (x_load1 rfl underlying182 rfl ((Holds.rd H4_ 2 rfl) 0 (vQ (rt sb W)) rfl)) ?_
 refine sv (v := (vQ (rt sb W))) (x_assign rfl) ?_
 refine wn (hK7_ _ _ ?_)
 refine C_seq (fun _ hK8_ => ?_)
 refine C_block ?_
 have H9_ : Holds w3_ (cx sb (rt sb W) ([] : List (Fr K)) :: cl b2_ 111 [((Value.iface it ix)), ((Value.iface jt jx))] :: ro R :: cl tb 188 [(vQ (rt sb W)), (vI .i64 cnt), (vQ sb)] :: tr sb sb W :: clf sb 185 sc :: F) := Holds.cx_nil H4_
 have eH10_ : tr sb sb W = tr sb (pa sb ([] : List (Fr K))) W := by first | rfl | (congr 1 <;> first | rfl | omega | (simp; done) | (simp; omega))
 have H10_ : Holds w3_ (cx sb (rt sb W) ([] : List (Fr K)) :: cl b2_ 111 [((Value.iface it ix)), ((Value.iface jt jx))] :: ro R :: cl tb 188 [(vQ (rt sb W)), (vI .i64 cnt), (vQ sb)] :: tr sb (pa sb ([] : List (Fr K))) W :: clf sb 185 sc :: F) := cast1 (P := fun c__ => Holds w3_ (cx sb (rt sb W) ([] : List (Fr K)) :: cl b2_ 111 [((Value.iface it ix)), ((Value.iface jt jx))] :: ro R :: cl tb 188 [(vQ (rt sb W)), (vI .i64 cnt), (vQ sb)] :: c__ :: clf sb 185 sc :: F)) eH10_ H9_
 refine C_loop (γ := (List (Fr K)) × (Tr K)) (fun x__ a__ w1__ => match x__ with | ⟨C1, T⟩ => ∃ h : Env, a__ = mkA 61 (upd (upd (upd (upd h 0 (vQ tb)) 3 (vQ b2_)) 4 (vB false)) 5 (vQ (rt sb T))) [] ∧ Holds w1__ (cx sb (rt sb T) C1 :: cl b2_ 111 [((Value.iface it ix)), ((Value.iface jt jx))] :: ro R :: cl tb 188 [(vQ (rt sb W)), (vI .i64 cnt), (vQ sb)] :: tr sb (pa sb C1) T :: clf sb 185 sc :: F) ∧ Same w w1__ ∧ (plug C1 T = W) ∧ (TOk O R T) ∧ (isect O kb ke W = isect O kb ke T)) (fun x__ => match x__ with | ⟨C1, T⟩ => (ino T).length) (⟨([] : List (Fr K)), W⟩) ⟨_, congrArg (fun e => mkA 61 e []) (ch (ch (ch (ch rfl rfl) rfl) rfl) rfl), H10_, S6_, (rfl), (hW), (rfl)⟩ ?_
 rintro ⟨C1, T⟩ _ w11_ ⟨h, rfl, H12_, S13_, hpl, hTk, heq⟩
 refine C_seq (fun _ hK14_ => ?_)
 refine cr fun _ hK15_ => ?_
 rcases T with _ | ⟨f16_n, f16_a, f16_b⟩
 ·skip
  have H17_ := H12_
  refine sm (vQ sb) ?_
  refine sm (vQ tb) ?_
  refine sv (v := (vQ tb)) (by kernel_rfl) ?_
  refine sv (v := (vP (some ⟨tb, 2, none⟩))) (by kernel_rfl) ?_
  refine sv (v := (vQ sb)) (x_load1 rfl underlying182 rfl ((Holds.rd H17_ 3 rfl) 2 (vQ sb) rfl)) ?_
  refine sv (v := (vB false)) (x_neP rfl rfl underlying182 z185) ?_
  refine sm (vB false) ?_
  refine S_no (j := 6) (dj := 16) (b := false) rfl rfl rfl (by decide) ?_
  refine S_no (j := 6) (dj := 16) (b := false) rfl rfl rfl (by decide) ?_
  refine S_no (j := 6) (dj := 16) (b := false) rfl rfl rfl (by decide) ?_
  refine S_no (j := 6) (dj := 16) (b := false) rfl rfl rfl (by decide) ?_
  refine S_no (j := 6) (dj := 16) (b := false) rfl rfl rfl (by decide) ?_
  refine S_no (j := 6) (dj := 16) (b := false) rfl rfl rfl (by decide) ?_
  refine S_no (j := 6) (dj := 16) (b := false) rfl rfl rfl (by decide) ?_
  refine S_list (T_pickF (v := (vB false)) rfl rfl ?_)
  refine wn (hK15_ _ _ ?_)
  refine C_condF rfl ?_
  refine C_exit (X_thenX (X_thenX (X_blkHit ?_)))
  refine (X_then (hK8_ _ _ ?_))
  refine cr fun _ hK18_ => ?_
  refine sm (vQ sb) ?_
  refine sm (vQ tb) ?_
  refine sv (v := (vQ tb)) (by kernel_rfl) ?_
  refine sv (v := (vP (some ⟨tb, 2, none⟩))) (by kernel_rfl) ?_
  refine sv (v := (vQ sb)) (x_load1 rfl underlying182 rfl ((Holds.rd H17_ 3 rfl) 2 (vQ sb) rfl)) ?_
  refine sv (v := (vB false)) (x_neP rfl rfl underlying182 z185) ?_
  refine sv (v := (vB false)) (x_assign rfl) ?_
  refine wn (hK18_ _ _ ?_)
  refine C_ret ?_
  refine R_any (v := (vB false)) (run_results1 rfl rfl) ?_
  have H19_ := H17_
  have H20_ := ((Holds.bring H19_ 4 rfl) :)
  have H21_ := Holds.plug_in (C := C1) (t := (Tr.lf : Tr K)) H20_
  have H22_ := H21_; rw [hpl] at H22_
  have H23_ := Holds.pkF H22_ [2, 2, 0, 1] 1
  exact ⟨_, _, rfl, ⟨(congrArg vB ((by rw [heq]; first | rfl | (simp [isect]; omega) | (simp_all [isect])) : false = (isect O kb ke W))), rfl⟩, S13_, H23_⟩
 ·skip
  have H24_ := H12_
  have H25_ := ((Holds.bring H24_ 4 rfl) :)
  have H26_ := Holds.tr_nd H25_
  refine sm (vQ f16_n.a) ?_
  refine sm (vQ tb) ?_
  refine sv (v := (vQ tb)) (by kernel_rfl) ?_
  refine sv (v := (vP (some ⟨tb, 2, none⟩))) (by kernel_rfl) ?_
  refine sv (v := (vQ sb)) (x_load1 rfl underlying182 rfl ((Holds.rd H26_ 6 rfl) 2 (vQ sb) rfl)) ?_
  have hpc27_ : f16_n.a ≠ sb := Holds.ne_f H26_ 0 rfl 7 rfl (by decide)
  refine sv (v := (vB true)) (x_cast (x_nePN rfl rfl underlying182 z185 (by decide) (Holds.blk H26_ 0 rfl) (Holds.blk H26_ 7 rfl)) (congrArg vB (decide_eq_true hpc27_))) ?_
  refine sm (vB true) ?_
  refine S_yes (j := 6) (dj := 16) (b := true) rfl rfl rfl (T_val (v := (vQ f16_n.a)) (x_move rfl) ?_)
  refine S_yes (j := 6) (dj := 16) (b := true) rfl rfl rfl (T_val (v := (vQ f16_n.a)) (by kernel_rfl) ?_)
  refine S_yes (j := 6) (dj := 16) (b := true) rfl rfl rfl (T_val (v := (vQ f16_n.a)) (by kernel_rfl) ?_)
  refine S_yes (j := 6) (dj := 16) (b := true) rfl rfl rfl (T_val (v := (vQ f16_n.a)) (by kernel_rfl) ?_)
  refine S_yes (j := 6) (dj := 16) (b := true) rfl rfl rfl (T_val (v := (Value.iface 290 (vQ f16_n.a))) (by kernel_rfl) ?_)
  have H29_ := ((Holds.bring (Holds.bring H26_ 4 rfl) 5 rfl) :)
  refine S_yes (j := 6) (dj := 16) (b := true) rfl rfl rfl (T_call (al := [(vQ b2_), (Value.iface 290 (vQ f16_n.a))]) (pre := [cl b2_ 111 [((Value.iface it ix)), ((Value.iface jt jx))], clf f16_n.a 185 [f16_n.b, f16_n.e, f16_n.v, f16_n.mx, (vQ (rt sb f16_a)), (vQ (rt sb f16_b)), (vQ (pa sb C1)), (vI .i64 f16_n.c)]]) rfl rfl cb163 (itCmp R K O b2_ f16_n (rt sb f16_a) (rt sb f16_b) (pa sb C1) it jt ix jx kb ke (hb) (he) (hTk.1)) H29_ ?_)
  rintro v28_ p33_ w30_ ⟨rfl, rfl⟩ S32_ H31_
  have S34_ := Same.trans S13_ S32_
  refine S_yes (j := 6) (dj := 16) (b := true) rfl rfl rfl (T_val (v := (vB (decide (icmp O kb ke f16_n.kb f16_n.ke ≠ 0)))) (x_bin rfl rfl rfl) ?_)
  refine S_list (T_pickT (v := (vB (decide (icmp O kb ke f16_n.kb f16_n.ke ≠ 0)))) rfl rfl ?_)
  refine wn (hK15_ _ _ ?_)
  refine C_cond (b := decide (icmp O kb ke f16_n.kb f16_n.ke ≠ 0)) rfl (fun c35_t => ?_) (fun c35_f => ?_)
  ·have c35_tp : icmp O kb ke f16_n.kb f16_n.ke ≠ 0 := of_decide_eq_true c35_t
   refine C_skip (X_then (hK14_ _ _ ?_))
   refine C_block ?_
   refine C_seq (fun _ hK36_ => ?_)
   refine A_start (S := fun w => Rd b2_ [((Value.iface it ix)), ((Value.iface jt jx))] w ∧ (Rd f16_n.a [f16_n.b, f16_n.e, f16_n.v, f16_n.mx, (vQ (rt sb f16_a)), (vQ (rt sb f16_b)), (vQ (pa sb C1)), (vI .i64 f16_n.c)] w ∧ Blk w f16_n.a) ∧ RtRd w (rt sb f16_a) (rmx f16_a) ∧ RtRd w (rt sb f16_b) (rmx f16_b) ∧ Rd tb [(vQ (rt sb W)), (vI .i64 cnt), (vQ sb)] w ∧ Sub R (hp w)) (N := 22) foll rfl rfl ?_
   have H37_ := Holds.drew_ H31_
   have hq38_ := And.intro (Holds.rd H37_ 1 rfl) (And.intro ((And.intro (Holds.rdf H37_ 2 rfl) (Holds.blk H37_ 2 rfl))) (And.intro (Holds.tr_rd H37_ 3 rfl 7 rfl) (And.intro (Holds.tr_rd H37_ 4 rfl 7 rfl) (And.intro (Holds.rd H37_ 6 rfl) ((Holds.ro_at H37_ 0 rfl))))))
   refine A_tk 0 (v := (vQ f16_n.a)) rfl (by kernel_rfl) (fun w hS => x_move rfl) hq38_ ?_
   refine A_tk 1 (v := (vQ f16_n.a)) rfl (by kernel_rfl) (fun w hS => by kernel_rfl) hq38_ ?_
   refine A_tk 2 (v := (vP (some ⟨f16_n.a, 4, none⟩))) rfl (by kernel_rfl) (fun w hS => by kernel_rfl) hq38_ ?_
   refine A_tk 3 (v := (vQ (rt sb f16_a))) rfl (by kernel_rfl) (fun w hS => x_load1 rfl underlying182 rfl (hS.2.1.1 4 (vQ (rt sb f16_a)) rfl)) hq38_ ?_
   refine A_tk 4 (v := (vQ tb)) rfl (by kernel_rfl) (fun w hS => x_move rfl) hq38_ ?_
   refine A_tk 5 (v := (vQ tb)) rfl (by kernel_rfl) (fun w hS => by kernel_rfl) hq38_ ?_
   refine A_tk 6 (v := (vP (some ⟨tb, 2, none⟩))) rfl (by kernel_rfl) (fun w hS => by kernel_rfl) hq38_ ?_
   refine A_tk 7 (v := (vQ sb)) rfl (by kernel_rfl) (fun w hS => x_load1 rfl underlying182 rfl (hS.2.2.2.2.1 2 (vQ sb) rfl)) hq38_ ?_
   have hpc39_ : (rt sb f16_a) = sb ↔ (rmx f16_a).isNone = true := Holds.tr_iff H37_ 3 rfl 7 rfl (by decide)
   refine A_ready (i := 8) (rs := []) (by kernel_rfl) ?_
   refine AllR.cons ?_ AllR.nil
   refine A_op (ls' := #[true, true, true, true, true, true, true, true, true, false, false, false, false, false, false, false, false, false, false, false, false, false]) rfl (by kernel_rfl) (T_val (v := (vB (!(rmx f16_a).isNone))) (x_cast (x_nePN rfl rfl underlying182 z185 (by decide) (Holds.tr_rd H37_ 3 rfl 7 rfl).blk (Holds.blk H37_ 7 rfl)) (congrArg vB (dec_nbool hpc39_))) ?_)
   refine ⟨⟨Holds.rd H37_ 1 rfl, (And.intro (Holds.rdf H37_ 2 rfl) (Holds.blk H37_ 2 rfl)), Holds.tr_rd H37_ 3 rfl 7 rfl, Holds.tr_rd H37_ 4 rfl 7 rfl, Holds.rd H37_ 6 rfl, (Holds.ro_at H37_ 0 rfl)⟩, ?_⟩
   refine A_tk 9 (v := (vB (!(rmx f16_a).isNone))) rfl (by kernel_rfl) (fun w hS => x_move rfl) hq38_ ?_
   rcases Bool.eq_false_or_eq_true (!(rmx f16_a).isNone) with c40_t | c40_f
   ·skip
    obtain ⟨m41_, m41_h⟩ : ∃ x, (rmx f16_a) = some x := isNone_some (by simpa using c40_t)
    refine A_tkY 10 (j := 9) (dj := 34) (b := true) (v := (vQ f16_n.a)) rfl (by kernel_rfl) rfl rfl (congrArg vB c40_t) (fun w hS => x_move rfl) hq38_ ?_
    refine A_tkY 11 (j := 9) (dj := 34) (b := true) (v := (vQ f16_n.a)) rfl (by kernel_rfl) rfl rfl (congrArg vB c40_t) (fun w hS => by kernel_rfl) hq38_ ?_
    refine A_tkY 12 (j := 9) (dj := 34) (b := true) (v := (vP (some ⟨f16_n.a, 4, none⟩))) rfl (by kernel_rfl) rfl rfl (congrArg vB c40_t) (fun w hS => by kernel_rfl) hq38_ ?_
    refine A_tkY 13 (j := 9) (dj := 34) (b := true) (v := (vQ (rt sb f16_a))) rfl (by kernel_rfl) rfl rfl (congrArg vB c40_t) (fun w hS => x_load1 rfl underlying182 rfl (hS.2.1.1 4 (vQ (rt sb f16_a)) rfl)) hq38_ ?_
    refine A_tkY 14 (j := 9) (dj := 34) (b := true) (v := (vQ (rt sb f16_a))) rfl (by kernel_rfl) rfl rfl (congrArg vB c40_t) (fun w hS => by kernel_rfl) hq38_ ?_
    refine A_tkY 15 (j := 9) (dj := 34) (b := true) (v := (vP (some ⟨(rt sb f16_a), 3, none⟩))) rfl (by kernel_rfl) rfl rfl (congrArg vB c40_t) (fun w hS => by kernel_rfl) hq38_ ?_
    refine A_tkY 16 (j := 9) (dj := 34) (b := true) (v := m41_.1) rfl (by kernel_rfl) rfl rfl (congrArg vB c40_t) (fun w hS => x_load1 rfl underlying109 rfl (hS.2.2.1.rd m41_ m41_h)) hq38_ ?_
    refine A_tkY 17 (j := 9) (dj := 34) (b := true) (v := (vQ b2_)) rfl (by kernel_rfl) rfl rfl (congrArg vB c40_t) (fun w hS => by kernel_rfl) hq38_ ?_
    refine A_tkY 18 (j := 9) (dj := 34) (b := true) (v := ((Value.iface it ix))) rfl (by kernel_rfl) rfl rfl (congrArg vB c40_t) (fun w hS => x_load1 rfl underlying109 rfl (hS.1 0 ((Value.iface it ix)) rfl)) hq38_ ?_
    refine A_ready (i := 19) (rs := []) (by kernel_rfl) ?_
    refine AllR.cons ?_ AllR.nil
    refine A_opYes (ls' := #[true, true, true, true, true, true, true, true, true, true, true, true, true, true, true, true, true, true, true, true, false, false]) (j := 9) (dj := 34) (b := true) rfl (by kernel_rfl) rfl rfl (congrArg vB c40_t) (T_cmp rfl rfl (O.cmp (TOk.mx hTk.2.1 m41_ m41_h) hb) H37_ 0 rfl ?_)
    intro w42_ S44_ H43_
    have S45_ := Same.trans (Same.trans S34_ (Same.drew _)) S44_
    refine ⟨⟨Holds.rd H43_ 1 rfl, (And.intro (Holds.rdf H43_ 2 rfl) (Holds.blk H43_ 2 rfl)), Holds.tr_rd H43_ 3 rfl 7 rfl, Holds.tr_rd H43_ 4 rfl 7 rfl, Holds.rd H43_ 6 rfl, (Holds.ro_at H43_ 0 rfl)⟩, ?_⟩
    have hq46_ := And.intro (Holds.rd H43_ 1 rfl) (And.intro ((And.intro (Holds.rdf H43_ 2 rfl) (Holds.blk H43_ 2 rfl))) (And.intro (Holds.tr_rd H43_ 3 rfl 7 rfl) (And.intro (Holds.tr_rd H43_ 4 rfl 7 rfl) (And.intro (Holds.rd H43_ 6 rfl) ((Holds.ro_at H43_ 0 rfl))))))
    refine A_tkY 20 (j := 9) (dj := 34) (b := true) (v := (vB (decide (0 < O.cm m41_.2 kb)))) rfl (by kernel_rfl) rfl rfl (congrArg vB c40_t) (fun w hS => x_bin rfl rfl rfl) hq46_ ?_
    refine A_tk 21 (v := (vB (decide (0 < O.cm m41_.2 kb)))) rfl (by kernel_rfl) (fun w hS => (x_pickT (congrArg vB c40_t) rfl)) hq46_ ?_
    refine A_done (by kernel_rfl) ?_
    refine (X_then (hK36_ _ _ ?_))
    refine C_cond (b := decide (0 < O.cm m41_.2 kb)) rfl (fun c47_t => ?_) (fun c47_f => ?_)
    ·have c47_tp : 0 < O.cm m41_.2 kb := of_decide_eq_true c47_t
     refine C_reg ?_
     refine sm (vQ f16_n.a) ?_
     refine sv (v := (vQ f16_n.a)) (by kernel_rfl) ?_
     refine sv (v := (vP (some ⟨f16_n.a, 4, none⟩))) (by kernel_rfl) ?_
     refine sv (v := (vQ (rt sb f16_a))) (x_load1 rfl underlying182 rfl ((Holds.rdf H43_ 2 rfl) 4 (vQ (rt sb f16_a)) rfl)) ?_
     refine sv (v := (vQ (rt sb f16_a))) (x_assign rfl) ?_
     refine wpList_nil (X_blkN (X_then ?_))
     have H48_ := ((Holds.bring (Holds.bring (Holds.bring H43_ 5 rfl) 5 rfl) 4 rfl) :)
     have H49_ := Holds.cons_cx (sb := sb) (f := (⟨true, f16_n, f16_b⟩ : Fr K)) (C := C1) (x := (rt sb f16_a)) H48_
     have H50_ := H49_
     have H51_ := Holds.pkF H50_ [0, 1, 0, 1, 0, 0] 0
     exact ⟨⟨((⟨true, f16_n, f16_b⟩ : Fr K) :: C1), f16_a⟩, ⟨_, congrArg (fun e => mkA 61 e []) (ch (ch (ch (ch rfl rfl) rfl) rfl) rfl), H51_, S45_, (hpl), (hTk.2.1), (by rw [heq]; exact isect_l (by omega) (by rw [m41_h]; simp; try omega))⟩, (by first | (simp [ino]; done) | (simp [ino]; omega))⟩
    ·have c47_fp : ¬ (0 < O.cm m41_.2 kb) := of_decide_eq_false c47_f
     refine C_reg ?_
     refine sm (vQ f16_n.a) ?_
     refine sv (v := (vQ f16_n.a)) (by kernel_rfl) ?_
     refine sv (v := (vP (some ⟨f16_n.a, 5, none⟩))) (by kernel_rfl) ?_
     refine sv (v := (vQ (rt sb f16_b))) (x_load1 rfl underlying182 rfl ((Holds.rdf H43_ 2 rfl) 5 (vQ (rt sb f16_b)) rfl)) ?_
     refine sv (v := (vQ (rt sb f16_b))) (x_assign rfl) ?_
     refine wpList_nil (X_blkN (X_then ?_))
     have H52_ := ((Holds.bring (Holds.bring (Holds.bring H43_ 5 rfl) 4 rfl) 4 rfl) :)
     have H53_ := Holds.cons_cx (sb := sb) (f := (⟨false, f16_n, f16_a⟩ : Fr K)) (C := C1) (x := (rt sb f16_b)) H52_
     have H54_ := H53_
     have H55_ := Holds.pkF H54_ [0, 1, 0, 1, 0, 0] 0
     exact ⟨⟨((⟨false, f16_n, f16_a⟩ : Fr K) :: C1), f16_b⟩, ⟨_, congrArg (fun e => mkA 61 e []) (ch (ch (ch (ch rfl rfl) rfl) rfl) rfl), H55_, S45_, (hpl), (hTk.2.2), (by rw [heq]; exact isect_r (by omega) (by rw [m41_h]; simp; try omega))⟩, (by first | (simp [ino]; done) | (simp [ino]; omega))⟩
   ·skip
    have m56_ : (rmx f16_a) = none := isNone_none (by simpa using c40_f)
    refine A_tkN 10 (j := 9) (dj := 34) (b := false) rfl (by kernel_rfl) rfl rfl (congrArg vB c40_f) (by decide) hq38_ ?_
    refine A_tkN 11 (j := 9) (dj := 34) (b := false) rfl (by kernel_rfl) rfl rfl (congrArg vB c40_f) (by decide) hq38_ ?_
    refine A_tkN 12 (j := 9) (dj := 34) (b := false) rfl (by kernel_rfl) rfl rfl (congrArg vB c40_f) (by decide) hq38_ ?_
    refine A_tkN 13 (j := 9) (dj := 34) (b := false) rfl (by kernel_rfl) rfl rfl (congrArg vB c40_f) (by decide) hq38_ ?_
    refine A_tkN 14 (j := 9) (dj := 34) (b := false) rfl (by kernel_rfl) rfl rfl (congrArg vB c40_f) (by decide) hq38_ ?_
    refine A_tkN 15 (j := 9) (dj := 34) (b := false) rfl (by kernel_rfl) rfl rfl (congrArg vB c40_f) (by decide) hq38_ ?_
    refine A_tkN 16 (j := 9) (dj := 34) (b := false) rfl (by kernel_rfl) rfl rfl (congrArg vB c40_f) (by decide) hq38_ ?_
    refine A_tkN 17 (j := 9) (dj := 34) (b := false) rfl (by kernel_rfl) rfl rfl (congrArg vB c40_f) (by decide) hq38_ ?_
    refine A_tkN 18 (j := 9) (dj := 34) (b := false) rfl (by kernel_rfl) rfl rfl (congrArg vB c40_f) (by decide) hq38_ ?_
    refine A_tkN 19 (j := 9) (dj := 34) (b := false) rfl (by kernel_rfl) rfl rfl (congrArg vB c40_f) (by decide) hq38_ ?_
    refine A_tkN 20 (j := 9) (dj := 34) (b := false) rfl (by kernel_rfl) rfl rfl (congrArg vB c40_f) (by decide) hq38_ ?_
    refine A_tk 21 (v := (vB false)) rfl (by kernel_rfl) (fun w hS => (x_pickF (congrArg vB c40_f) rfl)) hq38_ ?_
    refine A_done (by kernel_rfl) ?_
    refine (X_then (hK36_ _ _ ?_))
    refine C_condF rfl ?_
    refine C_reg ?_
    refine sm (vQ f16_n.a) ?_
    refine sv (v := (vQ f16_n.a)) (by kernel_rfl) ?_
    refine sv (v := (vP (some ⟨f16_n.a, 5, none⟩))) (by kernel_rfl) ?_
    refine sv (v := (vQ (rt sb f16_b))) (x_load1 rfl underlying182 rfl ((Holds.rdf H37_ 2 rfl) 5 (vQ (rt sb f16_b)) rfl)) ?_
    refine sv (v := (vQ (rt sb f16_b))) (x_assign rfl) ?_
    refine wpList_nil (X_blkN (X_then ?_))
    have H57_ := ((Holds.bring (Holds.bring (Holds.bring H37_ 5 rfl) 4 rfl) 4 rfl) :)
    have H58_ := Holds.cons_cx (sb := sb) (f := (⟨false, f16_n, f16_a⟩ : Fr K)) (C := C1) (x := (rt sb f16_b)) H57_
    have H59_ := H58_
    have H60_ := Holds.pkF H59_ [0, 1, 0, 1, 0, 0] 0
    exact ⟨⟨((⟨false, f16_n, f16_a⟩ : Fr K) :: C1), f16_b⟩, ⟨_, congrArg (fun e => mkA 61 e []) (ch (ch (ch (ch rfl rfl) rfl) rfl) rfl), H60_, (Same.trans S34_ (Same.drew _)), (hpl), (hTk.2.2), (by rw [heq]; exact isect_r (by omega) (by rw [m56_]; simp; try omega))⟩, (by first | (simp [ino]; done) | (simp [ino]; omega))⟩
  ·have c35_fp : ¬ (icmp O kb ke f16_n.kb f16_n.ke ≠ 0) := of_decide_eq_false c35_f
   refine C_exit (X_thenX (X_thenX (X_blkHit ?_)))
   refine (X_then (hK8_ _ _ ?_))
   refine cr fun _ hK61_ => ?_
   refine sm (vQ f16_n.a) ?_
   refine sm (vQ tb) ?_
   refine sv (v := (vQ tb)) (by kernel_rfl) ?_
   refine sv (v := (vP (some ⟨tb, 2, none⟩))) (by kernel_rfl) ?_
   refine sv (v := (vQ sb)) (x_load1 rfl underlying182 rfl ((Holds.rd H31_ 6 rfl) 2 (vQ sb) rfl)) ?_
   refine sv (v := (vB true)) (x_cast (x_nePN rfl rfl underlying182 z185 (by decide) (Holds.blk H31_ 2 rfl) (Holds.blk H31_ 7 rfl)) (congrArg vB (decide_eq_true hpc27_))) ?_
   refine sv (v := (vB true)) (x_assign rfl) ?_
   refine wn (hK61_ _ _ ?_)
   refine C_ret ?_
   refine R_any (v := (vB true)) (run_results1 rfl rfl) ?_
   have H62_ := ((Holds.bring (Holds.bring (Holds.bring H31_ 4 rfl) 4 rfl) 4 rfl) :)
   have H63_ := Holds.nd_tr (n := f16_n) (a := f16_a) (b := f16_b) H62_
   have H64_ := H63_
   have H65_ := ((Holds.bring (Holds.bring H64_ 3 rfl) 1 rfl) :)
   have H66_ := Holds.plug_in (C := C1) (t := (Tr.nd f16_n f16_a f16_b)) H65_
   have H67_ := H66_; rw [hpl] at H67_
   have H68_ := Holds.pkF H67_ [1, 2, 0, 1] 1
   exact ⟨_, _, rfl, ⟨(congrArg vB ((by rw [heq]; first | rfl | (simp [isect]; omega) | (simp_all [isect])) : true = (isect O kb ke W))), rfl⟩, S34_, H68_⟩
end Go.Proofs.Ytlnihndjepjagaa
set_option linter.unusedVariables false
set_option linter.unusedSimpArgs false
namespace Go.Proofs.Ytlnihndjepjagaa
open Go Go.RowKit Gw Try
open Go.Value renaming int → vI, bool → vB, slice → vS, pointer → vP, agg → vA, tuple → vT

section
variable {K : Type} (O : KO K)
section
variable {σ : Type} (step : σ → ND K → σ × Bool)
def vis (b e : K) : Tr K → σ → σ × Bool
  | .lf, s => (s, true)
  | .nd n u v, s =>
    if icmp O b e n.kb n.ke < 0 then vis b e u s
    else if 0 < icmp O b e n.kb n.ke then
      (if icmp O n.kb n.km b e = 0 then (if (vis b e u s).2 then vis b e v (vis b e u s).1 else ((vis b e u s).1, false)) else (s, true))
    else if (vis b e u s).2 then
      (if (step (vis b e u s).1 n).2 then vis b e v (step (vis b e u s).1 n).1 else ((step (vis b e u s).1 n).1, false))
    else ((vis b e u s).1, false)
def TAll (Q : ND K → Prop) : Tr K → Prop | .lf => True | .nd n u v => Q n ∧ TAll Q u ∧ TAll Q v
def runV : List (ND K) → σ → σ × Bool
  | [], s => (s, true)
  | n :: L, s => if (step s n).2 then runV L (step s n).1 else ((step s n).1, false)
end
structure CS (K : Type) where
  fm : Option ((Value × K) × (Value × K))
  ok : Bool
def CS.step (s : CS K) (n : ND K) : CS K × Bool :=
  match s.fm with
  | none => (⟨some ((n.b, n.kb), (n.e, n.ke)), s.ok⟩, true)
  | some (f, m) => if O.cm m.2 n.kb < 0 then (⟨s.fm, false⟩, false) else (⟨some (f, if 0 < O.cm n.ke m.2 then (n.e, n.ke) else m), s.ok⟩, true)
def CS.f (s : CS K) : Value := match s.fm with | none => .nilIface | some x => x.1.1
def CS.m (s : CS K) : Value := match s.fm with | none => .nilIface | some x => x.2.1
end
theorem TAll.all {K : Type} {Q : ND K → Prop} (h : ∀ n, Q n) : ∀ t : Tr K, TAll Q t
  | .lf => trivial
  | .nd n u v => ⟨h n, TAll.all h u, TAll.all h v⟩
theorem TAll.of {K : Type} {Q : ND K → Prop} (he : ∀ n, Q n.er → Q n) : ∀ {t : Tr K}, (∀ n ∈ ino t, Q n) → TAll Q t
  | .lf, _ => trivial
  | .nd n u v, h => ⟨he n (h n.er (by simp [ino])), TAll.of he fun x hx => h x (by simp [ino, hx]), TAll.of he fun x hx => h x (by simp [ino, hx])⟩
theorem vis_len {K : Type} (O : KO K) {σ : Type} {step : σ → ND K → σ × Bool} {len : σ → Nat} (h : ∀ s n, len (step s n).1 ≤ len s + 1) (b e : K) : ∀ (t : Tr K) (s : σ), len (vis O step b e t s).1 ≤ len s + (ino t).length
  | .lf, s => by simp [vis]
  | .nd n u v, s => by
    have hu := fun s => vis_len O h b e u s
    have hv := fun s => vis_len O h b e v s
    have e1 : (ino (.nd n u v)).length = (ino u).length + 1 + (ino v).length := by simp [ino]; omega
    have h1 := hu s
    have h2 := h (vis O step b e u s).1 n
    have h3 := hv (vis O step b e u s).1
    have h4 := hv (step (vis O step b e u s).1 n).1
    rw [e1, vis]
    split
    · omega
    · split
      · split
        · split
          · omega
          · show len (vis O step b e u s).1 ≤ _; omega
        · show len s ≤ _; omega
      · split
        · split
          · omega
          · show len (step (vis O step b e u s).1 n).1 ≤ _; omega
        · show len (vis O step b e u s).1 ≤ _; omega
/-! ### What a visit and a search mean -/
section
variable {K : Type} {O : KO K}
theorem KO.le_of {a b : K} (h : ¬ O.cm a b < 0) : O.cm b a ≤ 0 := by
  have := @KO.flip K O a b
  omega
theorem KO.lt_of {a b : K} (h : ¬ O.cm a b ≤ 0) : O.cm b a < 0 := by
  have := @KO.flip K O b a
  omega
theorem KO.not_le {a b : K} (h : O.cm a b < 0) : ¬ O.cm b a ≤ 0 := by
  have := @KO.flip K O a b
  omega
theorem KO.le_lt {a b c : K} (h1 : O.cm a b ≤ 0) (h2 : O.cm b c < 0) : O.cm a c < 0 := by
  refine Decidable.byContradiction fun h => ?_
  exact KO.not_le h2 (O.trans (KO.le_of h) h1)
theorem KO.lt_le {a b c : K} (h1 : O.cm a b < 0) (h2 : O.cm b c ≤ 0) : O.cm a c < 0 := by
  refine Decidable.byContradiction fun h => ?_
  exact KO.not_le h1 (O.trans h2 (KO.le_of h))
theorem KO.lt_lt {a b c : K} (h1 : O.cm a b < 0) (h2 : O.cm b c < 0) : O.cm a c < 0 := KO.lt_le h1 (by omega)
theorem KO.ge {a b : K} : 0 ≤ O.cm a b ↔ O.cm b a ≤ 0 := by
  have h1 := @KO.flip K O a b
  omega
def meets (O : KO K) (b e : K) (n : ND K) : Bool := decide (O.cm n.kb e < 0 ∧ O.cm b n.ke < 0)
theorem icmp_lt {b e kb ke : K} (hq : O.cm b e < 0) : icmp O b e kb ke < 0 ↔ O.cm e kb ≤ 0 := by
  unfold icmp
  by_cases h : O.cm e kb ≤ 0
  · rw [if_pos ⟨KO.lt_le hq h, h⟩]; simp [h]
  · rw [if_neg (fun h' => h h'.2)]
    split <;> simp [h]
theorem icmp_gt {b e kb ke : K} (hq : O.cm b e < 0) (hn : O.cm kb ke < 0) : 0 < icmp O b e kb ke ↔ O.cm ke b ≤ 0 := by
  unfold icmp
  have h1 := @KO.ge K O b ke
  by_cases h : O.cm e kb ≤ 0
  · rw [if_pos ⟨KO.lt_le hq h, h⟩]
    have : ¬ O.cm ke b ≤ 0 := KO.not_le (KO.lt_lt (KO.lt_le hq h) hn)
    simp [this]
  · rw [if_neg (fun h' => h h'.2)]
    split
    · simp; exact h1.1 (by assumption)
    · have : ¬ O.cm ke b ≤ 0 := fun h' => by have := h1.2 h'; omega
      simp [this]
theorem icmp_eq {b e kb ke : K} (hq : O.cm b e < 0) (hn : O.cm kb ke < 0) : icmp O b e kb ke = 0 ↔ O.cm kb e < 0 ∧ O.cm b ke < 0 := by
  have h1 := @icmp_lt K O b e kb ke hq
  have h2 := @icmp_gt K O b e kb ke hq hn
  have h3 := @KO.ge K O e kb
  have h4 := @KO.ge K O ke b
  have h5 := @KO.flip K O kb e
  have h6 := @KO.flip K O b ke
  omega
theorem pick_spec (a : Value × K) (ob : Option (Value × K)) : O.cm a.2 (pick O a ob).2 ≤ 0 ∧ (∀ b, ob = some b → O.cm b.2 (pick O a ob).2 ≤ 0) ∧ (pick O a ob = a ∨ ob = some (pick O a ob)) := by
  cases ob with
  | none => exact ⟨by rw [pick_none, O.refl]; exact Int.le_refl _, (fun b hb => by cases hb), .inl rfl⟩
  | some b =>
    by_cases h : 0 < O.cm b.2 a.2
    · rw [pick_gt h]
      exact ⟨by have := O.flip.2 h; omega, fun c hc => by cases hc; rw [O.refl]; exact Int.le_refl _, .inr rfl⟩
    · rw [pick_le h]
      exact ⟨by rw [O.refl]; exact Int.le_refl _, fun c hc => by cases hc; omega, .inl rfl⟩
theorem mx_spec : ∀ {t : Tr K}, LocT O t → ∀ m, rmx t = some m → (∀ n ∈ ino t, O.cm n.ke m.2 ≤ 0) ∧ ∃ n ∈ ino t, n.ke = m.2
  | .lf, _, m, hm => by cases hm
  | .nd n u v, h, m, hm => by
    obtain ⟨h1, h2, h3⟩ := h
    have hm' : m = (n.mx, n.km) := by simpa [rmx] using hm.symm
    subst hm'
    have p1 := pick_spec (O := O) (n.e, n.ke) (rmx u)
    have p2 := pick_spec (O := O) (pick O (n.e, n.ke) (rmx u)) (rmx v)
    have e1 := O.anti h1
    have hu : ∀ x ∈ ino u, O.cm x.ke n.km ≤ 0 := fun x hx => by
      cases hr : rmx u with
      | none => cases u with
        | lf => simp [ino] at hx
        | nd _ _ _ => cases hr
      | some q => rw [e1]; exact O.trans ((mx_spec h2 q hr).1 x hx) (O.trans (p1.2.1 q hr) p2.1)
    have hv : ∀ x ∈ ino v, O.cm x.ke n.km ≤ 0 := fun x hx => by
      cases hr : rmx v with
      | none => cases v with
        | lf => simp [ino] at hx
        | nd _ _ _ => cases hr
      | some q => rw [e1]; exact O.trans ((mx_spec h3 q hr).1 x hx) (p2.2.1 q hr)
    refine ⟨fun x hx => ?_, ?_⟩
    · have hx' : x ∈ ino u ∨ x = n.er ∨ x ∈ ino v := by simpa [ino] using hx
      rcases hx' with hx | rfl | hx
      · exact hu x hx
      · show O.cm n.ke n.km ≤ 0
        rw [e1]; exact O.trans p1.1 p2.1
      · exact hv x hx
    · show ∃ x ∈ ino u ++ n.er :: ino v, x.ke = n.km
      rcases p2.2.2 with h | h
      · rcases p1.2.2 with h' | h'
        · exact ⟨n.er, by simp, by show n.ke = n.km; rw [e1, h, h']⟩
        · obtain ⟨x, hx, he⟩ := (mx_spec h2 _ h').2
          exact ⟨x, by simp [hx], by rw [he, e1, h]⟩
      · obtain ⟨x, hx, he⟩ := (mx_spec h3 _ h).2
        exact ⟨x, by simp [hx], by rw [he, e1]⟩
def Prp (O : KO K) (L : List (ND K)) : Prop := ∀ n ∈ L, O.cm n.kb n.ke < 0
theorem not_bef {x y : ND K} (h : ¬ bef O y.kb y.ke x) : O.cm x.kb y.kb ≤ 0 := KO.le_of fun h' => h (.inl h')
theorem srt_nd {n : ND K} {u v : Tr K} (h : srt O (ino (.nd n u v))) : srt O (ino u) ∧ srt O (ino v) ∧ (∀ x ∈ ino u, O.cm x.kb n.kb ≤ 0) ∧ (∀ y ∈ ino v, O.cm n.kb y.kb ≤ 0) := by
  unfold srt at *
  rw [ino, List.pairwise_append, List.pairwise_cons] at h
  exact ⟨h.1, h.2.1.2, fun x hx => not_bef (y := n.er) (h.2.2 x hx n.er (by simp)), fun y hy => not_bef (x := n.er) (h.2.1.1 y hy)⟩
theorem meets_icmp {b e : K} {n : ND K} (hq : O.cm b e < 0) (hn : O.cm n.kb n.ke < 0) : meets O b e n = decide (icmp O b e n.kb n.ke = 0) := by
  unfold meets
  exact decide_eq_decide.2 (icmp_eq hq hn).symm
theorem nmeet {b e : K} {n : ND K} (h : O.cm e n.kb ≤ 0 ∨ O.cm n.ke b ≤ 0) : meets O b e n = false := by
  refine decide_eq_false fun h' => ?_
  rcases h with h | h
  · exact KO.not_le h'.1 h
  · exact KO.not_le h'.2 h
theorem filter_none {α : Type} {p : α → Bool} {L : List α} (h : ∀ x ∈ L, p x = false) : L.filter p = [] := by
  rw [List.filter_eq_nil_iff]
  intro x hx
  simp [h x hx]
section
variable {σ : Type} {step : σ → ND K → σ × Bool}
theorem runV_app : ∀ (A B : List (ND K)) (s : σ), runV step (A ++ B) s = if (runV step A s).2 then runV step B (runV step A s).1 else ((runV step A s).1, false)
  | [], B, s => by simp [runV]
  | n :: A, B, s => by
    rw [List.cons_append, runV, runV]
    by_cases h : (step s n).2 = true
    · rw [if_pos h, if_pos h]; exact runV_app A B _
    · rw [if_neg h, if_neg h]; rfl
theorem vis_eq (hst : ∀ s n, step s n.er = step s n) {b e : K} (hq : O.cm b e < 0) : ∀ {t : Tr K} (s : σ), srt O (ino t) → LocT O t → Prp O (ino t) → vis O step b e t s = runV step ((ino t).filter (meets O b e)) s
  | .lf, s, _, _, _ => by simp [vis, ino, runV]
  | .nd n u v, s, hs, hl, hp => by
    obtain ⟨hsu, hsv, hu, hv⟩ := srt_nd hs
    have hn : O.cm n.kb n.ke < 0 := hp n.er (by simp [ino])
    have hpu : Prp O (ino u) := fun x hx => hp x (by simp [ino, hx])
    have hpv : Prp O (ino v) := fun x hx => hp x (by simp [ino, hx])
    have iu := fun s => vis_eq hst hq (t := u) s hsu hl.2.1 hpu
    have iv := fun s => vis_eq hst hq (t := v) s hsv hl.2.2 hpv
    have hm : meets O b e n.er = decide (icmp O b e n.kb n.ke = 0) := meets_icmp (n := n.er) hq hn
    rw [vis]
    by_cases h1 : icmp O b e n.kb n.ke < 0
    · rw [if_pos h1, iu]
      have h2 := (icmp_lt hq).1 h1
      have e1 : (ino v).filter (meets O b e) = [] := filter_none fun y hy => nmeet (.inl (O.trans h2 (hv y hy)))
      have e2 : meets O b e n.er = false := nmeet (n := n.er) (.inl h2)
      simp [ino, List.filter_append, List.filter_cons, e1, e2]
    · rw [if_neg h1]
      by_cases h2 : 0 < icmp O b e n.kb n.ke
      · rw [if_pos h2]
        have h3 := (icmp_gt hq hn).1 h2
        have e2 : meets O b e n.er = false := nmeet (n := n.er) (.inr h3)
        by_cases h4 : icmp O n.kb n.km b e = 0
        · rw [if_pos h4, iu, iv]
          have : (ino (.nd n u v)).filter (meets O b e) = (ino u).filter (meets O b e) ++ (ino v).filter (meets O b e) := by simp [ino, List.filter_append, List.filter_cons, e2]
          rw [this, runV_app]
        · rw [if_neg h4]
          have hmx := (mx_spec hl (n.mx, n.km) rfl).1
          have hk : O.cm n.kb n.km < 0 := KO.lt_le hn (hmx n.er (by simp [ino]))
          have hall : ∀ x ∈ ino (.nd n u v), meets O b e x = false := fun x hx => by
            refine Decidable.byContradiction fun hc => ?_
            have hc' : meets O b e x = true := by simpa using hc
            have hc2 := of_decide_eq_true hc'
            exact h4 ((icmp_eq hk hq).2 ⟨KO.lt_le hc2.2 (hmx x hx), KO.lt_lt (KO.lt_le hn h3) hq⟩)
          rw [filter_none hall]; rfl
      · rw [if_neg h2]
        have h3 : icmp O b e n.kb n.ke = 0 := by omega
        have e2 : meets O b e n.er = true := by rw [hm]; exact decide_eq_true h3
        have : (ino (.nd n u v)).filter (meets O b e) = (ino u).filter (meets O b e) ++ n.er :: (ino v).filter (meets O b e) := by simp [ino, List.filter_append, List.filter_cons, e2]
        rw [this, runV_app, iu, iv, runV, hst]
end
theorem isect_eq {b e : K} (hq : O.cm b e < 0) : ∀ {t : Tr K}, srt O (ino t) → LocT O t → Prp O (ino t) → isect O b e t = (ino t).any (meets O b e)
  | .lf, _, _, _ => by simp [isect, ino]
  | .nd n u v, hs, hl, hp => by
    obtain ⟨hsu, hsv, hu, hv⟩ := srt_nd hs
    have hn : O.cm n.kb n.ke < 0 := hp n.er (by simp [ino])
    have hpu : Prp O (ino u) := fun x hx => hp x (by simp [ino, hx])
    have hpv : Prp O (ino v) := fun x hx => hp x (by simp [ino, hx])
    have iu := isect_eq hq (t := u) hsu hl.2.1 hpu
    have iv := isect_eq hq (t := v) hsv hl.2.2 hpv
    have hm : meets O b e n.er = decide (icmp O b e n.kb n.ke = 0) := meets_icmp (n := n.er) hq hn
    have hsplit : (ino (.nd n u v)).any (meets O b e) = ((ino u).any (meets O b e) || (meets O b e n.er || (ino v).any (meets O b e))) := by simp [ino]
    rw [hsplit]
    by_cases h1 : icmp O b e n.kb n.ke = 0
    · rw [isect, if_pos h1, hm, decide_eq_true h1]; simp
    · have hm' : meets O b e n.er = false := by rw [hm]; exact decide_eq_false h1
      by_cases h2 : (match rmx u with | none => false | some m => decide (0 < O.cm m.2 b)) = true
      · rw [isect_l h1 h2, iu]
        cases hr : rmx u with
        | none => rw [hr] at h2; cases h2
        | some m =>
          rw [hr] at h2
          have h2' : 0 < O.cm m.2 b := of_decide_eq_true h2
          obtain ⟨x, hx, he⟩ := (mx_spec hl.2.1 m hr).2
          cases ha : (ino u).any (meets O b e) with
          | true => simp
          | false =>
            have hxm : meets O b e x = false := by
              have := List.any_eq_false.1 ha x hx
              simpa using this
            have hxm' := of_decide_eq_false hxm
            have h3 : O.cm b x.ke < 0 := by rw [he]; exact O.flip.2 h2'
            have h4 : O.cm e x.kb ≤ 0 := KO.le_of fun h => hxm' ⟨h, h3⟩
            have h5 : O.cm e n.kb ≤ 0 := O.trans h4 (hu x hx)
            have : (ino v).any (meets O b e) = false := List.any_eq_false.2 fun y hy => by rw [nmeet (.inl (O.trans h5 (hv y hy)))]; simp
            simp [hm', this]
      · rw [isect_r h1 h2, iv]
        have : (ino u).any (meets O b e) = false := List.any_eq_false.2 fun x hx => by
          cases hr : rmx u with
          | none => cases u with
            | lf => simp [ino] at hx
            | nd _ _ _ => cases hr
          | some m =>
            rw [hr] at h2
            have h2' : ¬ 0 < O.cm m.2 b := fun h => h2 (decide_eq_true h)
            have h3 := (mx_spec hl.2.1 m hr).1 x hx
            rw [nmeet (.inr (O.trans h3 (by omega)))]; simp
        simp [hm', this]
/-! ### What Contains means -/
end

end Go.Proofs.Ytlnihndjepjagaa
set_option linter.unusedVariables false
set_option linter.unusedSimpArgs false
namespace Go.Proofs.Ytlnihndjepjagaa
open Go Go.RowKit Gw Try
open Go.Value renaming int → vI, bool → vB, slice → vS, pointer → vP, agg → vA, tuple → vT

/-! ### A state of several pieces, as one -/
theorem Sat.ungrp {l m : List SP} {g : HP} (h : Sat (grp l :: m) g) : Sat (l ++ m) g := by
  obtain ⟨h1, k, s, t, d, a, r⟩ := h
  exact Sat.append.2 ⟨h1, k, s, t, d, a, r⟩
def vp {σ : Type} (P : σ → SP) (s : σ) : SP := P s
end Go.Proofs.Ytlnihndjepjagaa
set_option linter.unusedVariables false
set_option linter.unusedSimpArgs false
namespace Go.Proofs.Ytlnihndjepjagaa
open Go Go.RowKit Gw Try
open Go.Value renaming int → vI, bool → vB, slice → vS, pointer → vP, agg → vA, tuple → vT

section
variable {K : Type} {O : KO K}
end

end Go.Proofs.Ytlnihndjepjagaa
set_option linter.unusedVariables false
set_option linter.unusedSimpArgs false
namespace Go.Proofs.Ytlnihndjepjagaa
open Go Go.RowKit Gw Try
open Go.Value renaming int → vI, bool → vB, slice → vS, pointer → vP, agg → vA, tuple → vT

section
variable {n : Nat} {e : Env} {w : World} {d : Option Nat} {ty : TypeId} {pos : String} {af : Array Edge} {g : Option (Nat × Bool)}
theorem run_buildIv (t t' : TypeId) (x x' : Value) (w : World) : (Instr.build 111 #[(0, .iface t x), (1, .iface t' x')]).run Try.prog w = .ok (.agg #[.iface t x, .iface t' x']) w := by kernel_rfl
theorem x_buildIv {R : HP} {x y : Operand} {u v u' v' : Value} {c c' : Int} (hx : ev n e x = u) (hy : ev n e y = v) (hu : Cmps R u u' c) (hv : Cmps R v v' c') :
    (execOp (ev n e) ⟨d, .build 111 #[(0, x), (1, y)], ty, pos, af, g⟩).run Try.prog w = .ok (.value (.agg #[u, v])) w := by
  obtain ⟨t, xv, _, rfl, _⟩ := hu
  obtain ⟨t', xv', _, rfl, _⟩ := hv
  have h1 : (#[(0, x), (1, y)] : Array (Nat × Operand)).map (fun (i, z) => (i, ev n e z)) = #[(0, .iface t xv), (1, .iface t' xv')] := by simp [hx, hy]
  simp only [execOp]
  rw [h1]
  exact run_v _ (run_buildIv _ _ _ _ _)
end

set_option maxHeartbeats 1600000 in
theorem itCmp1 (R : HP) (K : Type) (O : KO K) (ib : Nat) (n : ND K) (l r p : Nat) (mb me : Value) (kb ke : K) (hb : O.Val R mb kb) (he : O.Val R me ke) (hn : NOk O R n) :
    Tri Try.prog 163 #[(vQ ib), (Value.iface 290 (vQ n.a))] R [cl ib 111 [mb, me], clf n.a 185 [n.b, n.e, n.v, n.mx, (vQ l), (vQ r), (vQ p), (vI .i64 n.c)]] (fun v__ post__ => v__ = (vI .i64 (icmp O kb ke n.kb n.ke)) ∧ post__ = [cl ib 111 [mb, me], clf n.a 185 [n.b, n.e, n.v, n.mx, (vQ l), (vQ r), (vQ p), (vI .i64 n.c)]]) := by
 refine Tri.into (n := 52) (al := [(vQ ib), (Value.iface 290 (vQ n.a))]) func163 rfl ntmps163 rfl rfl fun w F H => ?_
 refine cr fun _ hK1_ => ?_
 refine sv (v := (vI .i64 0)) (x_assign rfl) ?_
 refine wn (hK1_ _ _ ?_)
 refine cr fun _ hK2_ => ?_
 refine sm (Value.iface 290 (vQ n.a)) ?_
 refine sv (v := (vQ n.a)) (by kernel_rfl) ?_
 refine sv (v := (vQ n.a)) (x_assign rfl) ?_
 refine wn (hK2_ _ _ ?_)
 refine C_seq (fun _ hK3_ => ?_)
 refine A_start (S := fun w => Rd ib [mb, me] w ∧ (Rd n.a [n.b, n.e, n.v, n.mx, (vQ l), (vQ r), (vQ p), (vI .i64 n.c)] w ∧ Blk w n.a) ∧ Sub R (hp w)) (N := 12) foll rfl rfl ?_
 have H4_ := Holds.drew_ H
 have hq5_ := And.intro (Holds.rd H4_ 1 rfl) (And.intro ((And.intro (Holds.rdf H4_ 2 rfl) (Holds.blk H4_ 2 rfl))) ((Holds.ro_at H4_ 0 rfl)))
 refine A_tk 0 (v := (vQ ib)) rfl (by kernel_rfl) (fun w hS => x_move rfl) hq5_ ?_
 refine A_tk 1 (v := (vQ ib)) rfl (by kernel_rfl) (fun w hS => by kernel_rfl) hq5_ ?_
 refine A_tk 2 (v := (vQ ib)) rfl (by kernel_rfl) (fun w hS => by kernel_rfl) hq5_ ?_
 refine A_tk 3 (v := mb) rfl (by kernel_rfl) (fun w hS => x_load1 rfl underlying109 rfl (hS.1 0 mb rfl)) hq5_ ?_
 refine A_tk 4 (v := (vQ n.a)) rfl (by kernel_rfl) (fun w hS => x_move rfl) hq5_ ?_
 refine A_tk 5 (v := (vQ n.a)) rfl (by kernel_rfl) (fun w hS => by kernel_rfl) hq5_ ?_
 refine A_tk 6 (v := (vQ n.a)) rfl (by kernel_rfl) (fun w hS => by kernel_rfl) hq5_ ?_
 refine A_tk 7 (v := n.b) rfl (by kernel_rfl) (fun w hS => x_load1 rfl underlying109 rfl (hS.2.1.1 0 n.b rfl)) hq5_ ?_
 refine A_tk 8 (v := mb) rfl (by kernel_rfl) (fun w hS => x_nilV rfl (O.cmp hb hb)) hq5_ ?_
 refine A_tk 9 (v := mb) rfl (by kernel_rfl) (fun w hS => x_move rfl) hq5_ ?_
 refine A_ready (i := 10) (rs := []) (by kernel_rfl) ?_
 refine AllR.cons ?_ AllR.nil
 refine A_op (ls' := #[true, true, true, true, true, true, true, true, true, true, true, false]) rfl (by kernel_rfl) (T_cmp rfl rfl (O.cmp hb hn.b) H4_ 0 rfl ?_)
 intro w6_ S8_ H7_
 have S9_ := Same.trans (Same.trans (Same.refl w) (Same.drew _)) S8_
 refine ⟨⟨Holds.rd H7_ 1 rfl, (And.intro (Holds.rdf H7_ 2 rfl) (Holds.blk H7_ 2 rfl)), (Holds.ro_at H7_ 0 rfl)⟩, ?_⟩
 have hq10_ := And.intro (Holds.rd H7_ 1 rfl) (And.intro ((And.intro (Holds.rdf H7_ 2 rfl) (Holds.blk H7_ 2 rfl))) ((Holds.ro_at H7_ 0 rfl)))
 refine A_tk 11 (v := (vI .i64 (O.cm kb n.kb))) rfl (by kernel_rfl) (fun w hS => x_assign rfl) hq10_ ?_
 refine A_done (by kernel_rfl) ?_
 refine (X_then (hK3_ _ _ ?_))
 refine C_seq (fun _ hK11_ => ?_)
 refine A_start (S := fun w => Rd ib [mb, me] w ∧ (Rd n.a [n.b, n.e, n.v, n.mx, (vQ l), (vQ r), (vQ p), (vI .i64 n.c)] w ∧ Blk w n.a) ∧ Sub R (hp w)) (N := 12) foll rfl rfl ?_
 have H12_ := Holds.drew_ H7_
 have hq13_ := And.intro (Holds.rd H12_ 1 rfl) (And.intro ((And.intro (Holds.rdf H12_ 2 rfl) (Holds.blk H12_ 2 rfl))) ((Holds.ro_at H12_ 0 rfl)))
 refine A_tk 0 (v := (vQ ib)) rfl (by kernel_rfl) (fun w hS => x_move rfl) hq13_ ?_
 refine A_tk 1 (v := (vQ ib)) rfl (by kernel_rfl) (fun w hS => by kernel_rfl) hq13_ ?_
 refine A_tk 2 (v := (vQ ib)) rfl (by kernel_rfl) (fun w hS => by kernel_rfl) hq13_ ?_
 refine A_tk 3 (v := mb) rfl (by kernel_rfl) (fun w hS => x_load1 rfl underlying109 rfl (hS.1 0 mb rfl)) hq13_ ?_
 refine A_tk 4 (v := (vQ n.a)) rfl (by kernel_rfl) (fun w hS => x_move rfl) hq13_ ?_
 refine A_tk 5 (v := (vQ n.a)) rfl (by kernel_rfl) (fun w hS => by kernel_rfl) hq13_ ?_
 refine A_tk 6 (v := (vP (some ⟨n.a, 1, none⟩))) rfl (by kernel_rfl) (fun w hS => by kernel_rfl) hq13_ ?_
 refine A_tk 7 (v := n.e) rfl (by kernel_rfl) (fun w hS => x_load1 rfl underlying109 rfl (hS.2.1.1 1 n.e rfl)) hq13_ ?_
 refine A_tk 8 (v := mb) rfl (by kernel_rfl) (fun w hS => x_nilV rfl (O.cmp hb hb)) hq13_ ?_
 refine A_tk 9 (v := mb) rfl (by kernel_rfl) (fun w hS => x_move rfl) hq13_ ?_
 refine A_ready (i := 10) (rs := []) (by kernel_rfl) ?_
 refine AllR.cons ?_ AllR.nil
 refine A_op (ls' := #[true, true, true, true, true, true, true, true, true, true, true, false]) rfl (by kernel_rfl) (T_cmp rfl rfl (O.cmp hb hn.e) H12_ 0 rfl ?_)
 intro w14_ S16_ H15_
 have S17_ := Same.trans (Same.trans S9_ (Same.drew _)) S16_
 refine ⟨⟨Holds.rd H15_ 1 rfl, (And.intro (Holds.rdf H15_ 2 rfl) (Holds.blk H15_ 2 rfl)), (Holds.ro_at H15_ 0 rfl)⟩, ?_⟩
 have hq18_ := And.intro (Holds.rd H15_ 1 rfl) (And.intro ((And.intro (Holds.rdf H15_ 2 rfl) (Holds.blk H15_ 2 rfl))) ((Holds.ro_at H15_ 0 rfl)))
 refine A_tk 11 (v := (vI .i64 (O.cm kb n.ke))) rfl (by kernel_rfl) (fun w hS => x_assign rfl) hq18_ ?_
 refine A_done (by kernel_rfl) ?_
 refine (X_then (hK11_ _ _ ?_))
 refine C_seq (fun _ hK19_ => ?_)
 refine A_start (S := fun w => Rd ib [mb, me] w ∧ (Rd n.a [n.b, n.e, n.v, n.mx, (vQ l), (vQ r), (vQ p), (vI .i64 n.c)] w ∧ Blk w n.a) ∧ Sub R (hp w)) (N := 12) foll rfl rfl ?_
 have H20_ := Holds.drew_ H15_
 have hq21_ := And.intro (Holds.rd H20_ 1 rfl) (And.intro ((And.intro (Holds.rdf H20_ 2 rfl) (Holds.blk H20_ 2 rfl))) ((Holds.ro_at H20_ 0 rfl)))
 refine A_tk 0 (v := (vQ ib)) rfl (by kernel_rfl) (fun w hS => x_move rfl) hq21_ ?_
 refine A_tk 1 (v := (vQ ib)) rfl (by kernel_rfl) (fun w hS => by kernel_rfl) hq21_ ?_
 refine A_tk 2 (v := (vP (some ⟨ib, 1, none⟩))) rfl (by kernel_rfl) (fun w hS => by kernel_rfl) hq21_ ?_
 refine A_tk 3 (v := me) rfl (by kernel_rfl) (fun w hS => x_load1 rfl underlying109 rfl (hS.1 1 me rfl)) hq21_ ?_
 refine A_tk 4 (v := (vQ n.a)) rfl (by kernel_rfl) (fun w hS => x_move rfl) hq21_ ?_
 refine A_tk 5 (v := (vQ n.a)) rfl (by kernel_rfl) (fun w hS => by kernel_rfl) hq21_ ?_
 refine A_tk 6 (v := (vQ n.a)) rfl (by kernel_rfl) (fun w hS => by kernel_rfl) hq21_ ?_
 refine A_tk 7 (v := n.b) rfl (by kernel_rfl) (fun w hS => x_load1 rfl underlying109 rfl (hS.2.1.1 0 n.b rfl)) hq21_ ?_
 refine A_tk 8 (v := me) rfl (by kernel_rfl) (fun w hS => x_nilV rfl (O.cmp he he)) hq21_ ?_
 refine A_tk 9 (v := me) rfl (by kernel_rfl) (fun w hS => x_move rfl) hq21_ ?_
 refine A_ready (i := 10) (rs := []) (by kernel_rfl) ?_
 refine AllR.cons ?_ AllR.nil
 refine A_op (ls' := #[true, true, true, true, true, true, true, true, true, true, true, false]) rfl (by kernel_rfl) (T_cmp rfl rfl (O.cmp he hn.b) H20_ 0 rfl ?_)
 intro w22_ S24_ H23_
 have S25_ := Same.trans (Same.trans S17_ (Same.drew _)) S24_
 refine ⟨⟨Holds.rd H23_ 1 rfl, (And.intro (Holds.rdf H23_ 2 rfl) (Holds.blk H23_ 2 rfl)), (Holds.ro_at H23_ 0 rfl)⟩, ?_⟩
 have hq26_ := And.intro (Holds.rd H23_ 1 rfl) (And.intro ((And.intro (Holds.rdf H23_ 2 rfl) (Holds.blk H23_ 2 rfl))) ((Holds.ro_at H23_ 0 rfl)))
 refine A_tk 11 (v := (vI .i64 (O.cm ke n.kb))) rfl (by kernel_rfl) (fun w hS => x_assign rfl) hq26_ ?_
 refine A_done (by kernel_rfl) ?_
 refine (X_then (hK19_ _ _ ?_))
 refine C_seq (fun _ hK27_ => ?_)
 refine cr fun _ hK28_ => ?_
 refine sm (vI .i64 (O.cm kb n.kb)) ?_
 refine sv (v := (vB (decide (O.cm kb n.kb < 0)))) (x_bin rfl rfl rfl) ?_
 refine sm (vB (decide (O.cm kb n.kb < 0))) ?_
 rcases Bool.eq_false_or_eq_true (decide (O.cm kb n.kb < 0)) with c29_t | c29_f
 ·have c29_tp : O.cm kb n.kb < 0 := of_decide_eq_true c29_t
  refine S_yes (j := 2) (dj := 46) (b := true) rfl rfl (congrArg vB c29_t) (T_val (v := (vI .i64 (O.cm ke n.kb))) (x_move rfl) ?_)
  refine S_yes (j := 2) (dj := 46) (b := true) rfl rfl (congrArg vB c29_t) (T_val (v := (vB (decide (O.cm ke n.kb ≤ 0)))) (x_bin rfl rfl rfl) ?_)
  refine S_list (T_pickT (v := (vB (decide (O.cm ke n.kb ≤ 0)))) (congrArg vB c29_t) rfl ?_)
  refine wn (hK28_ _ _ ?_)
  refine C_cond (b := decide (O.cm ke n.kb ≤ 0)) rfl (fun c30_t => ?_) (fun c30_f => ?_)
  ·have c30_tp : O.cm ke n.kb ≤ 0 := of_decide_eq_true c30_t
   refine cr fun _ hK31_ => ?_
   refine sv (v := (vI .i64 (-1))) (x_assign rfl) ?_
   refine wn (hK31_ _ _ ?_)
   refine C_ret (X_thenR ?_)
   refine R_any (v := (vI .i64 (-1))) (run_results1 rfl rfl) ?_
   exact ⟨_, _, rfl, ⟨(congrArg (vI .i64) ((by unfold icmp; first | exact (if_pos (by omega)).symm | (rw [if_neg (by omega)]; first | exact (if_pos (by omega)).symm | exact (if_neg (by omega)).symm)) : -1 = icmp O kb ke n.kb n.ke)), rfl⟩, S25_, H23_⟩
  ·have c30_fp : ¬ (O.cm ke n.kb ≤ 0) := of_decide_eq_false c30_f
   refine C_skip (X_then (hK27_ _ _ ?_))
   refine C_seq (fun _ hK32_ => ?_)
   refine cr fun _ hK33_ => ?_
   refine sm (vI .i64 (O.cm kb n.ke)) ?_
   refine sv (v := (vB (decide (0 ≤ O.cm kb n.ke)))) (x_bin rfl rfl rfl) ?_
   refine wn (hK33_ _ _ ?_)
   refine C_cond (b := decide (0 ≤ O.cm kb n.ke)) rfl (fun c34_t => ?_) (fun c34_f => ?_)
   ·have c34_tp : 0 ≤ O.cm kb n.ke := of_decide_eq_true c34_t
    refine cr fun _ hK35_ => ?_
    refine sv (v := (vI .i64 1)) (x_assign rfl) ?_
    refine wn (hK35_ _ _ ?_)
    refine C_ret (X_thenR ?_)
    refine R_any (v := (vI .i64 1)) (run_results1 rfl rfl) ?_
    exact ⟨_, _, rfl, ⟨(congrArg (vI .i64) ((by unfold icmp; first | exact (if_pos (by omega)).symm | (rw [if_neg (by omega)]; first | exact (if_pos (by omega)).symm | exact (if_neg (by omega)).symm)) : 1 = icmp O kb ke n.kb n.ke)), rfl⟩, S25_, H23_⟩
   ·have c34_fp : ¬ (0 ≤ O.cm kb n.ke) := of_decide_eq_false c34_f
    refine C_skip (X_then (hK32_ _ _ ?_))
    refine cr fun _ hK36_ => ?_
    refine sv (v := (vI .i64 0)) (x_assign rfl) ?_
    refine wn (hK36_ _ _ ?_)
    refine C_ret ?_
    refine R_any (v := (vI .i64 0)) (run_results1 rfl rfl) ?_
    exact ⟨_, _, rfl, ⟨(congrArg (vI .i64) ((by unfold icmp; first | exact (if_pos (by omega)).symm | (rw [if_neg (by omega)]; first | exact (if_pos (by omega)).symm | exact (if_neg (by omega)).symm)) : 0 = icmp O kb ke n.kb n.ke)), rfl⟩, S25_, H23_⟩
 ·have c29_fp : ¬ (O.cm kb n.kb < 0) := of_decide_eq_false c29_f
  refine S_no (j := 2) (dj := 46) (b := false) rfl rfl (congrArg vB c29_f) (by decide) ?_
  refine S_no (j := 2) (dj := 46) (b := false) rfl rfl (congrArg vB c29_f) (by decide) ?_
  refine S_list (T_pickF (v := (vB false)) (congrArg vB c29_f) rfl ?_)
  refine wn (hK28_ _ _ ?_)
  refine C_condF rfl ?_
  refine C_skip (X_then (hK27_ _ _ ?_))
  refine C_seq (fun _ hK37_ => ?_)
  refine cr fun _ hK38_ => ?_
  refine sm (vI .i64 (O.cm kb n.ke)) ?_
  refine sv (v := (vB (decide (0 ≤ O.cm kb n.ke)))) (x_bin rfl rfl rfl) ?_
  refine wn (hK38_ _ _ ?_)
  refine C_cond (b := decide (0 ≤ O.cm kb n.ke)) rfl (fun c39_t => ?_) (fun c39_f => ?_)
  ·have c39_tp : 0 ≤ O.cm kb n.ke := of_decide_eq_true c39_t
   refine cr fun _ hK40_ => ?_
   refine sv (v := (vI .i64 1)) (x_assign rfl) ?_
   refine wn (hK40_ _ _ ?_)
   refine C_ret (X_thenR ?_)
   refine R_any (v := (vI .i64 1)) (run_results1 rfl rfl) ?_
   exact ⟨_, _, rfl, ⟨(congrArg (vI .i64) ((by unfold icmp; first | exact (if_pos (by omega)).symm | (rw [if_neg (by omega)]; first | exact (if_pos (by omega)).symm | exact (if_neg (by omega)).symm)) : 1 = icmp O kb ke n.kb n.ke)), rfl⟩, S25_, H23_⟩
  ·have c39_fp : ¬ (0 ≤ O.cm kb n.ke) := of_decide_eq_false c39_f
   refine C_skip (X_then (hK37_ _ _ ?_))
   refine cr fun _ hK41_ => ?_
   refine sv (v := (vI .i64 0)) (x_assign rfl) ?_
   refine wn (hK41_ _ _ ?_)
   refine C_ret ?_
   refine R_any (v := (vI .i64 0)) (run_results1 rfl rfl) ?_
   exact ⟨_, _, rfl, ⟨(congrArg (vI .i64) ((by unfold icmp; first | exact (if_pos (by omega)).symm | (rw [if_neg (by omega)]; first | exact (if_pos (by omega)).symm | exact (if_neg (by omega)).symm)) : 0 = icmp O kb ke n.kb n.ke)), rfl⟩, S25_, H23_⟩

set_option maxHeartbeats 1600000 in
theorem itCmp2 (R : HP) (K : Type) (O : KO K) (ib jb : Nat) (mb me ob oe : Value) (kb ke nb ne : K) (hb : O.Val R mb kb) (he : O.Val R me ke) (hnb : O.Val R ob nb) (hne : O.Val R oe ne) :
    Tri Try.prog 163 #[(vQ ib), (Value.iface 290 (vQ jb))] R [cl ib 111 [mb, me], cl jb 111 [ob, oe]] (fun v__ post__ => v__ = (vI .i64 (icmp O kb ke nb ne)) ∧ post__ = [cl ib 111 [mb, me], cl jb 111 [ob, oe]]) := by
 refine Tri.into (n := 52) (al := [(vQ ib), (Value.iface 290 (vQ jb))]) func163 rfl ntmps163 rfl rfl fun w F H => ?_
 refine cr fun _ hK1_ => ?_
 refine sv (v := (vI .i64 0)) (x_assign rfl) ?_
 refine wn (hK1_ _ _ ?_)
 refine cr fun _ hK2_ => ?_
 refine sm (Value.iface 290 (vQ jb)) ?_
 refine sv (v := (vQ jb)) (by kernel_rfl) ?_
 refine sv (v := (vQ jb)) (x_assign rfl) ?_
 refine wn (hK2_ _ _ ?_)
 refine C_seq (fun _ hK3_ => ?_)
 refine A_start (S := fun w => Rd ib [mb, me] w ∧ Rd jb [ob, oe] w ∧ Sub R (hp w)) (N := 12) foll rfl rfl ?_
 have H4_ := Holds.drew_ H
 have hq5_ := And.intro (Holds.rd H4_ 1 rfl) (And.intro (Holds.rd H4_ 2 rfl) ((Holds.ro_at H4_ 0 rfl)))
 refine A_tk 0 (v := (vQ ib)) rfl (by kernel_rfl) (fun w hS => x_move rfl) hq5_ ?_
 refine A_tk 1 (v := (vQ ib)) rfl (by kernel_rfl) (fun w hS => by kernel_rfl) hq5_ ?_
 refine A_tk 2 (v := (vQ ib)) rfl (by kernel_rfl) (fun w hS => by kernel_rfl) hq5_ ?_
 refine A_tk 3 (v := mb) rfl (by kernel_rfl) (fun w hS => x_load1 rfl underlying109 rfl (hS.1 0 mb rfl)) hq5_ ?_
 refine A_tk 4 (v := (vQ jb)) rfl (by kernel_rfl) (fun w hS => x_move rfl) hq5_ ?_
 refine A_tk 5 (v := (vQ jb)) rfl (by kernel_rfl) (fun w hS => by kernel_rfl) hq5_ ?_
 refine A_tk 6 (v := (vQ jb)) rfl (by kernel_rfl) (fun w hS => by kernel_rfl) hq5_ ?_
 refine A_tk 7 (v := ob) rfl (by kernel_rfl) (fun w hS => x_load1 rfl underlying109 rfl (hS.2.1 0 ob rfl)) hq5_ ?_
 refine A_tk 8 (v := mb) rfl (by kernel_rfl) (fun w hS => x_nilV rfl (O.cmp hb hb)) hq5_ ?_
 refine A_tk 9 (v := mb) rfl (by kernel_rfl) (fun w hS => x_move rfl) hq5_ ?_
 refine A_ready (i := 10) (rs := []) (by kernel_rfl) ?_
 refine AllR.cons ?_ AllR.nil
 refine A_op (ls' := #[true, true, true, true, true, true, true, true, true, true, true, false]) rfl (by kernel_rfl) (T_cmp rfl rfl (O.cmp hb hnb) H4_ 0 rfl ?_)
 intro w6_ S8_ H7_
 have S9_ := Same.trans (Same.trans (Same.refl w) (Same.drew _)) S8_
 refine ⟨⟨Holds.rd H7_ 1 rfl, Holds.rd H7_ 2 rfl, (Holds.ro_at H7_ 0 rfl)⟩, ?_⟩
 have hq10_ := And.intro (Holds.rd H7_ 1 rfl) (And.intro (Holds.rd H7_ 2 rfl) ((Holds.ro_at H7_ 0 rfl)))
 refine A_tk 11 (v := (vI .i64 (O.cm kb nb))) rfl (by kernel_rfl) (fun w hS => x_assign rfl) hq10_ ?_
 refine A_done (by kernel_rfl) ?_
 refine (X_then (hK3_ _ _ ?_))
 refine C_seq (fun _ hK11_ => ?_)
 refine A_start (S := fun w => Rd ib [mb, me] w ∧ Rd jb [ob, oe] w ∧ Sub R (hp w)) (N := 12) foll rfl rfl ?_
 have H12_ := Holds.drew_ H7_
 have hq13_ := And.intro (Holds.rd H12_ 1 rfl) (And.intro (Holds.rd H12_ 2 rfl) ((Holds.ro_at H12_ 0 rfl)))
 refine A_tk 0 (v := (vQ ib)) rfl (by kernel_rfl) (fun w hS => x_move rfl) hq13_ ?_
 refine A_tk 1 (v := (vQ ib)) rfl (by kernel_rfl) (fun w hS => by kernel_rfl) hq13_ ?_
 refine A_tk 2 (v := (vQ ib)) rfl (by kernel_rfl) (fun w hS => by kernel_rfl) hq13_ ?_
 refine A_tk 3 (v := mb) rfl (by kernel_rfl) (fun w hS => x_load1 rfl underlying109 rfl (hS.1 0 mb rfl)) hq13_ ?_
 refine A_tk 4 (v := (vQ jb)) rfl (by kernel_rfl) (fun w hS => x_move rfl) hq13_ ?_
 refine A_tk 5 (v := (vQ jb)) rfl (by kernel_rfl) (fun w hS => by kernel_rfl) hq13_ ?_
 refine A_tk 6 (v := (vP (some ⟨jb, 1, none⟩))) rfl (by kernel_rfl) (fun w hS => by kernel_rfl) hq13_ ?_
 refine A_tk 7 (v := oe) rfl (by kernel_rfl) (fun w hS => x_load1 rfl underlying109 rfl (hS.2.1 1 oe rfl)) hq13_ ?_
 refine A_tk 8 (v := mb) rfl (by kernel_rfl) (fun w hS => x_nilV rfl (O.cmp hb hb)) hq13_ ?_
 refine A_tk 9 (v := mb) rfl (by kernel_rfl) (fun w hS => x_move rfl) hq13_ ?_
 refine A_ready (i := 10) (rs := []) (by kernel_rfl) ?_
 refine AllR.cons ?_ AllR.nil
 refine A_op (ls' := #[true, true, true, true, true, true, true, true, true, true, true, false]) rfl (by kernel_rfl) (T_cmp rfl rfl (O.cmp hb hne) H12_ 0 rfl ?_)
 intro w14_ S16_ H15_
 have S17_ := Same.trans (Same.trans S9_ (Same.drew _)) S16_
 refine ⟨⟨Holds.rd H15_ 1 rfl, Holds.rd H15_ 2 rfl, (Holds.ro_at H15_ 0 rfl)⟩, ?_⟩
 have hq18_ := And.intro (Holds.rd H15_ 1 rfl) (And.intro (Holds.rd H15_ 2 rfl) ((Holds.ro_at H15_ 0 rfl)))
 refine A_tk 11 (v := (vI .i64 (O.cm kb ne))) rfl (by kernel_rfl) (fun w hS => x_assign rfl) hq18_ ?_
 refine A_done (by kernel_rfl) ?_
 refine (X_then (hK11_ _ _ ?_))
 refine C_seq (fun _ hK19_ => ?_)
 refine A_start (S := fun w => Rd ib [mb, me] w ∧ Rd jb [ob, oe] w ∧ Sub R (hp w)) (N := 12) foll rfl rfl ?_
 have H20_ := Holds.drew_ H15_
 have hq21_ := And.intro (Holds.rd H20_ 1 rfl) (And.intro (Holds.rd H20_ 2 rfl) ((Holds.ro_at H20_ 0 rfl)))
 refine A_tk 0 (v := (vQ ib)) rfl (by kernel_rfl) (fun w hS => x_move rfl) hq21_ ?_
 refine A_tk 1 (v := (vQ ib)) rfl (by kernel_rfl) (fun w hS => by kernel_rfl) hq21_ ?_
 refine A_tk 2 (v := (vP (some ⟨ib, 1, none⟩))) rfl (by kernel_rfl) (fun w hS => by kernel_rfl) hq21_ ?_
 refine A_tk 3 (v := me) rfl (by kernel_rfl) (fun w hS => x_load1 rfl underlying109 rfl (hS.1 1 me rfl)) hq21_ ?_
 refine A_tk 4 (v := (vQ jb)) rfl (by kernel_rfl) (fun w hS => x_move rfl) hq21_ ?_
 refine A_tk 5 (v := (vQ jb)) rfl (by kernel_rfl) (fun w hS => by kernel_rfl) hq21_ ?_
 refine A_tk 6 (v := (vQ jb)) rfl (by kernel_rfl) (fun w hS => by kernel_rfl) hq21_ ?_
 refine A_tk 7 (v := ob) rfl (by kernel_rfl) (fun w hS => x_load1 rfl underlying109 rfl (hS.2.1 0 ob rfl)) hq21_ ?_
 refine A_tk 8 (v := me) rfl (by kernel_rfl) (fun w hS => x_nilV rfl (O.cmp he he)) hq21_ ?_
 refine A_tk 9 (v := me) rfl (by kernel_rfl) (fun w hS => x_move rfl) hq21_ ?_
 refine A_ready (i := 10) (rs := []) (by kernel_rfl) ?_
 refine AllR.cons ?_ AllR.nil
 refine A_op (ls' := #[true, true, true, true, true, true, true, true, true, true, true, false]) rfl (by kernel_rfl) (T_cmp rfl rfl (O.cmp he hnb) H20_ 0 rfl ?_)
 intro w22_ S24_ H23_
 have S25_ := Same.trans (Same.trans S17_ (Same.drew _)) S24_
 refine ⟨⟨Holds.rd H23_ 1 rfl, Holds.rd H23_ 2 rfl, (Holds.ro_at H23_ 0 rfl)⟩, ?_⟩
 have hq26_ := And.intro (Holds.rd H23_ 1 rfl) (And.intro (Holds.rd H23_ 2 rfl) ((Holds.ro_at H23_ 0 rfl)))
 refine A_tk 11 (v := (vI .i64 (O.cm ke nb))) rfl (by kernel_rfl) (fun w hS => x_assign rfl) hq26_ ?_
 refine A_done (by kernel_rfl) ?_
 refine (X_then (hK19_ _ _ ?_))
 refine C_seq (fun _ hK27_ => ?_)
 refine cr fun _ hK28_ => ?_
 refine sm (vI .i64 (O.cm kb nb)) ?_
 refine sv (v := (vB (decide (O.cm kb nb < 0)))) (x_bin rfl rfl rfl) ?_
 refine sm (vB (decide (O.cm kb nb < 0))) ?_
 rcases Bool.eq_false_or_eq_true (decide (O.cm kb nb < 0)) with c29_t | c29_f
 ·have c29_tp : O.cm kb nb < 0 := of_decide_eq_true c29_t
  refine S_yes (j := 2) (dj := 46) (b := true) rfl rfl (congrArg vB c29_t) (T_val (v := (vI .i64 (O.cm ke nb))) (x_move rfl) ?_)
  refine S_yes (j := 2) (dj := 46) (b := true) rfl rfl (congrArg vB c29_t) (T_val (v := (vB (decide (O.cm ke nb ≤ 0)))) (x_bin rfl rfl rfl) ?_)
  refine S_list (T_pickT (v := (vB (decide (O.cm ke nb ≤ 0)))) (congrArg vB c29_t) rfl ?_)
  refine wn (hK28_ _ _ ?_)
  refine C_cond (b := decide (O.cm ke nb ≤ 0)) rfl (fun c30_t => ?_) (fun c30_f => ?_)
  ·have c30_tp : O.cm ke nb ≤ 0 := of_decide_eq_true c30_t
   refine cr fun _ hK31_ => ?_
   refine sv (v := (vI .i64 (-1))) (x_assign rfl) ?_
   refine wn (hK31_ _ _ ?_)
   refine C_ret (X_thenR ?_)
   refine R_any (v := (vI .i64 (-1))) (run_results1 rfl rfl) ?_
   exact ⟨_, _, rfl, ⟨(congrArg (vI .i64) ((by unfold icmp; first | exact (if_pos (by omega)).symm | (rw [if_neg (by omega)]; first | exact (if_pos (by omega)).symm | exact (if_neg (by omega)).symm)) : -1 = icmp O kb ke nb ne)), rfl⟩, S25_, H23_⟩
  ·have c30_fp : ¬ (O.cm ke nb ≤ 0) := of_decide_eq_false c30_f
   refine C_skip (X_then (hK27_ _ _ ?_))
   refine C_seq (fun _ hK32_ => ?_)
   refine cr fun _ hK33_ => ?_
   refine sm (vI .i64 (O.cm kb ne)) ?_
   refine sv (v := (vB (decide (0 ≤ O.cm kb ne)))) (x_bin rfl rfl rfl) ?_
   refine wn (hK33_ _ _ ?_)
   refine C_cond (b := decide (0 ≤ O.cm kb ne)) rfl (fun c34_t => ?_) (fun c34_f => ?_)
   ·have c34_tp : 0 ≤ O.cm kb ne := of_decide_eq_true c34_t
    refine cr fun _ hK35_ => ?_
    refine sv (v := (vI .i64 1)) (x_assign rfl) ?_
    refine wn (hK35_ _ _ ?_)
    refine C_ret (X_thenR ?_)
    refine R_any (v := (vI .i64 1)) (run_results1 rfl rfl) ?_
    exact ⟨_, _, rfl, ⟨(congrArg (vI .i64) ((by unfold icmp; first | exact (if_pos (by omega)).symm | (rw [if_neg (by omega)]; first | exact (if_pos (by omega)).symm | exact (if_neg (by omega)).symm)) : 1 = icmp O kb ke nb ne)), rfl⟩, S25_, H23_⟩
   ·have c34_fp : ¬ (0 ≤ O.cm kb ne) := of_decide_eq_false c34_f
    refine C_skip (X_then (hK32_ _ _ ?_))
    refine cr fun _ hK36_ => ?_
    refine sv (v := (vI .i64 0)) (x_assign rfl) ?_
    refine wn (hK36_ _ _ ?_)
    refine C_ret ?_
    refine R_any (v := (vI .i64 0)) (run_results1 rfl rfl) ?_
    exact ⟨_, _, rfl, ⟨(congrArg (vI .i64) ((by unfold icmp; first | exact (if_pos (by omega)).symm | (rw [if_neg (by omega)]; first | exact (if_pos (by omega)).symm | exact (if_neg (by omega)).symm)) : 0 = icmp O kb ke nb ne)), rfl⟩, S25_, H23_⟩
 ·have c29_fp : ¬ (O.cm kb nb < 0) := of_decide_eq_false c29_f
  refine S_no (j := 2) (dj := 46) (b := false) rfl rfl (congrArg vB c29_f) (by decide) ?_
  refine S_no (j := 2) (dj := 46) (b := false) rfl rfl (congrArg vB c29_f) (by decide) ?_
  refine S_list (T_pickF (v := (vB false)) (congrArg vB c29_f) rfl ?_)
  refine wn (hK28_ _ _ ?_)
  refine C_condF rfl ?_
  refine C_skip (X_then (hK27_ _ _ ?_))
  refine C_seq (fun _ hK37_ => ?_)
  refine cr fun _ hK38_ => ?_
  refine sm (vI .i64 (O.cm kb ne)) ?_
  refine sv (v := (vB (decide (0 ≤ O.cm kb ne)))) (x_bin rfl rfl rfl) ?_
  refine wn (hK38_ _ _ ?_)
  refine C_cond (b := decide (0 ≤ O.cm kb ne)) rfl (fun c39_t => ?_) (fun c39_f => ?_)
  ·have c39_tp : 0 ≤ O.cm kb ne := of_decide_eq_true c39_t
   refine cr fun _ hK40_ => ?_
   refine sv (v := (vI .i64 1)) (x_assign rfl) ?_
   refine wn (hK40_ _ _ ?_)
   refine C_ret (X_thenR ?_)
   refine R_any (v := (vI .i64 1)) (run_results1 rfl rfl) ?_
   exact ⟨_, _, rfl, ⟨(congrArg (vI .i64) ((by unfold icmp; first | exact (if_pos (by omega)).symm | (rw [if_neg (by omega)]; first | exact (if_pos (by omega)).symm | exact (if_neg (by omega)).symm)) : 1 = icmp O kb ke nb ne)), rfl⟩, S25_, H23_⟩
  ·have c39_fp : ¬ (0 ≤ O.cm kb ne) := of_decide_eq_false c39_f
   refine C_skip (X_then (hK37_ _ _ ?_))
   refine cr fun _ hK41_ => ?_
   refine sv (v := (vI .i64 0)) (x_assign rfl) ?_
   refine wn (hK41_ _ _ ?_)
   refine C_ret ?_
   refine R_any (v := (vI .i64 0)) (run_results1 rfl rfl) ?_
   exact ⟨_, _, rfl, ⟨(congrArg (vI .i64) ((by unfold icmp; first | exact (if_pos (by omega)).symm | (rw [if_neg (by omega)]; first | exact (if_pos (by omega)).symm | exact (if_neg (by omega)).symm)) : 0 = icmp O kb ke nb ne)), rfl⟩, S25_, H23_⟩

set_option maxHeartbeats 16000000 in
theorem itVisit_step (R : HP) (K : Type) (O : KO K) (R_ : HP) (σ : Type) (P : σ → SP) (I : HP → σ → Prop) (step : σ → ND K → σ × Bool) (Q : ND K → Prop) (len : σ → Nat) (N : Nat) (sc : List Value) (ib cb sb p : Nat) (t : Tr K) (s : σ) (mb me : Value) (kb ke : K) (n__ : Nat) (hT : TOk O R t) (hb : O.Val R mb kb) (he : O.Val R me ke) (hi : I R s) (hRR : R = R_) (hQ : TAll Q t) (hlen : ∀ s n, len (step s n).1 ≤ len s + 1) (hN : len s + (ino t).length ≤ N) (hstep : ∀ (R : HP) (s : σ) (n : ND K) (l r p : Nat) (hi : I R s) (hn : NOk O R n) (hq : Q n) (hN : len s < N) (hRR : R = R_), Tri Try.prog 168 #[pn n.a, pn cb] R [clf n.a 185 (n.cells l r p), vp P s] fun v__ post__ => v__ = (vB (step s n).2) ∧ post__ = [clf n.a 185 (n.cells l r p), vp P (step s n).1] ∧ (I R (step s n).1)) (hn__ : ((ino t).length) ≤ n__) (ih : ∀ (R : HP) (K : Type) (O : KO K) (R_ : HP) (σ : Type) (P : σ → SP) (I : HP → σ → Prop) (step : σ → ND K → σ × Bool) (Q : ND K → Prop) (len : σ → Nat) (N : Nat) (sc : List Value) (ib cb sb p : Nat) (t : Tr K) (s : σ) (mb me : Value) (kb ke : K) (hT : TOk O R t) (hb : O.Val R mb kb) (he : O.Val R me ke) (hi : I R s) (hRR : R = R_) (hQ : TAll Q t) (hlen : ∀ s n, len (step s n).1 ≤ len s + 1) (hN : len s + (ino t).length ≤ N) (hstep : ∀ (R : HP) (s : σ) (n : ND K) (l r p : Nat) (hi : I R s) (hn : NOk O R n) (hq : Q n) (hN : len s < N) (hRR : R = R_), Tri Try.prog 168 #[pn n.a, pn cb] R [clf n.a 185 (n.cells l r p), vp P s] fun v__ post__ => v__ = (vB (step s n).2) ∧ post__ = [clf n.a 185 (n.cells l r p), vp P (step s n).1] ∧ (I R (step s n).1)) (hms : ((ino t).length) < n__), Tri Try.prog 167 #[(vQ (rt sb t)), (vQ ib), (vQ sb), (Value.func (.func 168) #[] #[(vQ cb)])] R [tr sb p t, clf sb 185 sc, cl ib 111 [mb, me], vp P s] (fun v__ post__ => v__ = (vB ((vis O step kb ke t s).2)) ∧ post__ = [tr sb p t, clf sb 185 sc, cl ib 111 [mb, me], vp P ((vis O step kb ke t s).1)] ∧ (I R (vis O step kb ke t s).1))) :
    Tri Try.prog 167 #[(vQ (rt sb t)), (vQ ib), (vQ sb), (Value.func (.func 168) #[] #[(vQ cb)])] R [tr sb p t, clf sb 185 sc, cl ib 111 [mb, me], vp P s] (fun v__ post__ => v__ = (vB ((vis O step kb ke t s).2)) ∧ post__ = [tr sb p t, clf sb 185 sc, cl ib 111 [mb, me], vp P ((vis O step kb ke t s).1)] ∧ (I R (vis O step kb ke t s).1)) := by
 refine Tri.into (n := 97) (al := [(vQ (rt sb t)), (vQ ib), (vQ sb), (Value.func (.func 168) #[] #[(vQ cb)])]) func167 rfl ntmps167 rfl rfl fun w F H => ?_
 refine cr fun _ hK1_ => ?_
 refine sv (v := (vB false)) (x_assign rfl) ?_
 refine wn (hK1_ _ _ ?_)
 refine C_seq (fun _ hK2_ => ?_)
 refine cr fun _ hK3_ => ?_
 rcases t with _ | ⟨f4_n, f4_a, f4_b⟩
 ·skip
  have H5_ : Holds w (ro R :: tr sb p (Tr.lf : Tr K) :: clf sb 185 sc :: cl ib 111 [mb, me] :: vp P s :: F) := (H)
  refine sm (vQ sb) ?_
  refine sm (vQ sb) ?_
  refine sv (v := (vB true)) (x_eqP rfl rfl underlying182 z185) ?_
  refine wn (hK3_ _ _ ?_)
  refine C_condT rfl ?_
  refine cr fun _ hK6_ => ?_
  refine sv (v := (vB true)) (x_assign rfl) ?_
  refine wn (hK6_ _ _ ?_)
  refine C_ret (X_thenR ?_)
  refine R_any (v := (vB true)) (run_results1 rfl rfl) ?_
  have hv_ : vis O step kb ke (Tr.lf : Tr K) s = (s, true) := rfl
  have eH7_ : vp P s = vp P ((vis O step kb ke (Tr.lf : Tr K) s).1) := congrArg (vp P) (congrArg Prod.fst hv_).symm
  have H7_ : Holds w (ro R :: tr sb p (Tr.lf : Tr K) :: clf sb 185 sc :: cl ib 111 [mb, me] :: vp P ((vis O step kb ke (Tr.lf : Tr K) s).1) :: F) := cast1 (P := fun c__ => Holds w (ro R :: tr sb p (Tr.lf : Tr K) :: clf sb 185 sc :: cl ib 111 [mb, me] :: c__ :: F)) eH7_ H5_
  exact ⟨_, _, rfl, ⟨(congrArg vB ((congrArg Prod.snd hv_).symm : true = ((vis O step kb ke (Tr.lf : Tr K) s).2))), rfl, ((by rw [hv_]; assumption))⟩, (Same.refl w), H7_⟩
 ·skip
  have H8_ : Holds w (ro R :: tr sb p (Tr.nd f4_n f4_a f4_b) :: clf sb 185 sc :: cl ib 111 [mb, me] :: vp P s :: F) := (H)
  have H9_ := ((Holds.bring H8_ 1 rfl) :)
  have H10_ := Holds.tr_nd H9_
  have hTa_ := hT.2.1
  have hTb_ := hT.2.2
  have hQa_ := hQ.2.1
  have hQb_ := hQ.2.2
  have hNt_ : (ino f4_a).length + 1 + (ino f4_b).length + len s ≤ N := by have h__ := hN; simp [ino] at h__; omega
  have hva_ := vis_len O hlen kb ke f4_a s
  have hst_ := hlen (vis O step kb ke f4_a s).1 f4_n
  have hla_ : (ino f4_a).length < n__ := by simp [ino] at hn__; omega
  have hlb_ : (ino f4_b).length < n__ := by simp [ino] at hn__; omega
  refine sm (vQ f4_n.a) ?_
  refine sm (vQ sb) ?_
  have hpc11_ : f4_n.a ≠ sb := Holds.ne_f H10_ 0 rfl 4 rfl (by decide)
  refine sv (v := (vB false)) (x_cast (x_eqPN rfl rfl underlying182 z185 (by decide) (Holds.blk H10_ 0 rfl) (Holds.blk H10_ 4 rfl)) (congrArg vB (decide_eq_false hpc11_))) ?_
  refine wn (hK3_ _ _ ?_)
  refine C_condF rfl ?_
  refine C_skip (X_then (hK2_ _ _ ?_))
  refine cr fun _ hK12_ => ?_
  refine sm (vQ ib) ?_
  refine sm (vQ f4_n.a) ?_
  refine sv (v := (vQ f4_n.a)) (by kernel_rfl) ?_
  refine sv (v := (vQ f4_n.a)) (by kernel_rfl) ?_
  refine sv (v := (vQ f4_n.a)) (by kernel_rfl) ?_
  refine sv (v := (Value.iface 290 (vQ f4_n.a))) (by kernel_rfl) ?_
  have H14_ := ((Holds.bring (Holds.bring H10_ 5 rfl) 4 rfl) :)
  refine S_list (T_call (al := [(vQ ib), (Value.iface 290 (vQ f4_n.a))]) (pre := [cl ib 111 [mb, me], clf f4_n.a 185 [f4_n.b, f4_n.e, f4_n.v, f4_n.mx, (vQ (rt sb f4_a)), (vQ (rt sb f4_b)), (vQ p), (vI .i64 f4_n.c)]]) rfl rfl cb163 (itCmp1 R K O ib f4_n (rt sb f4_a) (rt sb f4_b) p mb me kb ke (hb) (he) (hT.1)) H14_ ?_)
  rintro v13_ p18_ w15_ ⟨rfl, rfl⟩ S17_ H16_
  have S19_ := Same.trans (Same.refl w) S17_
  refine sv (v := (vI .i64 (icmp O kb ke f4_n.kb f4_n.ke))) (x_assign rfl) ?_
  refine wn (hK12_ _ _ ?_)
  refine C_seq (fun _ hK20_ => ?_)
  refine C_block ?_
  refine cr fun _ hK21_ => ?_
  refine sm (vI .i64 (icmp O kb ke f4_n.kb f4_n.ke)) ?_
  refine sv (v := (vB (decide (icmp O kb ke f4_n.kb f4_n.ke < 0)))) (x_bin rfl rfl rfl) ?_
  refine sv (v := (vB (decide (icmp O kb ke f4_n.kb f4_n.ke < 0)))) (x_assign rfl) ?_
  refine wn (hK21_ _ _ ?_)
  refine C_cond (b := decide (icmp O kb ke f4_n.kb f4_n.ke < 0)) rfl (fun c22_t => ?_) (fun c22_f => ?_)
  ·have c22_tp : icmp O kb ke f4_n.kb f4_n.ke < 0 := of_decide_eq_true c22_t
   refine cr fun _ hK23_ => ?_
   refine sm (vQ f4_n.a) ?_
   refine sv (v := (vQ f4_n.a)) (by kernel_rfl) ?_
   refine sv (v := (vP (some ⟨f4_n.a, 4, none⟩))) (by kernel_rfl) ?_
   refine sv (v := (vQ (rt sb f4_a))) (x_load1 rfl underlying182 rfl ((Holds.rdf H16_ 2 rfl) 4 (vQ (rt sb f4_a)) rfl)) ?_
   refine sm (vQ ib) ?_
   refine sm (vQ sb) ?_
   refine sm (Value.func (.func 168) #[] #[(vQ cb)]) ?_
   have H26_ := ((Holds.bring (Holds.bring (Holds.bring (Holds.bring (Holds.bring H16_ 6 rfl) 2 rfl) 6 rfl) 5 rfl) 4 rfl) :)
   refine S_list (T_call (al := [(vQ (rt sb f4_a)), (vQ ib), (vQ sb), (Value.func (.func 168) #[] #[(vQ cb)])]) (pre := [tr sb f4_n.a f4_a, clf sb 185 sc, cl ib 111 [mb, me], vp P s]) rfl rfl cb167 (ih R K O R_ σ P I step Q len N sc ib cb sb f4_n.a f4_a s mb me kb ke (by first | assumption | omega) (hb) (he) (by first | assumption | omega) (by first | assumption | omega) (by first | assumption | omega) (hlen) (by omega) (hstep) (by first | assumption | omega)) H26_ ?_)
   rintro v24_ p30_ w27_ ⟨rfl, rfl, he25_⟩ S29_ H28_
   have S31_ := Same.trans S19_ S29_
   refine sv (v := (vB (!((vis O step kb ke f4_a s).2)))) (x_not rfl) ?_
   refine wn (hK23_ _ _ ?_)
   refine C_cond (b := !((vis O step kb ke f4_a s).2)) rfl (fun c32_t => ?_) (fun c32_f => ?_)
   ·skip
    refine cr fun _ hK33_ => ?_
    refine sv (v := (vB false)) (x_assign rfl) ?_
    refine wn (hK33_ _ _ ?_)
    refine C_ret (X_blkR (X_thenR ?_))
    refine R_any (v := (vB false)) (run_results1 rfl rfl) ?_
    have H34_ := ((Holds.bring (Holds.bring (Holds.bring H28_ 6 rfl) 2 rfl) 6 rfl) :)
    have H35_ := Holds.nd_tr (n := f4_n) (a := f4_a) (b := f4_b) H34_
    have q36_ := c22_t; first | (simp only [decide_eq_true_eq, decide_eq_false_iff_not, Bool.not_eq_true', Bool.not_eq_false'] at q36_) | skip
    have q37_ := c32_t; first | (simp only [decide_eq_true_eq, decide_eq_false_iff_not, Bool.not_eq_true', Bool.not_eq_false'] at q37_) | skip
    have hv_ : vis O step kb ke (Tr.nd f4_n f4_a f4_b) s = ((vis O step kb ke f4_a s).1, false) := by simp [Prod.ext_iff, vis, q36_, q37_]
    have eH38_ : vp P ((vis O step kb ke f4_a s).1) = vp P ((vis O step kb ke (Tr.nd f4_n f4_a f4_b) s).1) := congrArg (vp P) (congrArg Prod.fst hv_).symm
    have H38_ : Holds w27_ (tr sb p (Tr.nd f4_n f4_a f4_b) :: ro R :: clf sb 185 sc :: cl ib 111 [mb, me] :: vp P ((vis O step kb ke (Tr.nd f4_n f4_a f4_b) s).1) :: F) := cast1 (P := fun c__ => Holds w27_ (tr sb p (Tr.nd f4_n f4_a f4_b) :: ro R :: clf sb 185 sc :: cl ib 111 [mb, me] :: c__ :: F)) eH38_ H35_
    have H39_ := Holds.pkF H38_ [1, 0, 0, 0, 0] 0
    exact ⟨_, _, rfl, ⟨(congrArg vB ((congrArg Prod.snd hv_).symm : false = ((vis O step kb ke (Tr.nd f4_n f4_a f4_b) s).2))), rfl, ((by rw [hv_]; assumption))⟩, S31_, H39_⟩
   ·skip
    refine C_skip (X_blkN (X_then (hK20_ _ _ ?_)))
    refine cr fun _ hK40_ => ?_
    refine sv (v := (vB true)) (x_assign rfl) ?_
    refine wn (hK40_ _ _ ?_)
    refine C_ret ?_
    refine R_any (v := (vB true)) (run_results1 rfl rfl) ?_
    have H41_ := ((Holds.bring (Holds.bring (Holds.bring H28_ 6 rfl) 2 rfl) 6 rfl) :)
    have H42_ := Holds.nd_tr (n := f4_n) (a := f4_a) (b := f4_b) H41_
    have q43_ := c22_t; first | (simp only [decide_eq_true_eq, decide_eq_false_iff_not, Bool.not_eq_true', Bool.not_eq_false'] at q43_) | skip
    have q44_ := c32_f; first | (simp only [decide_eq_true_eq, decide_eq_false_iff_not, Bool.not_eq_true', Bool.not_eq_false'] at q44_) | skip
    have hv_ : vis O step kb ke (Tr.nd f4_n f4_a f4_b) s = ((vis O step kb ke f4_a s).1, true) := by simp [Prod.ext_iff, vis, q43_, q44_]
    have eH45_ : vp P ((vis O step kb ke f4_a s).1) = vp P ((vis O step kb ke (Tr.nd f4_n f4_a f4_b) s).1) := congrArg (vp P) (congrArg Prod.fst hv_).symm
    have H45_ : Holds w27_ (tr sb p (Tr.nd f4_n f4_a f4_b) :: ro R :: clf sb 185 sc :: cl ib 111 [mb, me] :: vp P ((vis O step kb ke (Tr.nd f4_n f4_a f4_b) s).1) :: F) := cast1 (P := fun c__ => Holds w27_ (tr sb p (Tr.nd f4_n f4_a f4_b) :: ro R :: clf sb 185 sc :: cl ib 111 [mb, me] :: c__ :: F)) eH45_ H42_
    have H46_ := Holds.pkF H45_ [1, 0, 0, 0, 0] 0
    exact ⟨_, _, rfl, ⟨(congrArg vB ((congrArg Prod.snd hv_).symm : true = ((vis O step kb ke (Tr.nd f4_n f4_a f4_b) s).2))), rfl, ((by rw [hv_]; assumption))⟩, S31_, H46_⟩
  ·have c22_fp : ¬ (icmp O kb ke f4_n.kb f4_n.ke < 0) := of_decide_eq_false c22_f
   refine cr fun _ hK47_ => ?_
   refine sm (vI .i64 (icmp O kb ke f4_n.kb f4_n.ke)) ?_
   refine sv (v := (vB (decide (0 < icmp O kb ke f4_n.kb f4_n.ke)))) (x_bin rfl rfl rfl) ?_
   refine sv (v := (vB (decide (0 < icmp O kb ke f4_n.kb f4_n.ke)))) (x_assign rfl) ?_
   refine wn (hK47_ _ _ ?_)
   refine C_cond (b := decide (0 < icmp O kb ke f4_n.kb f4_n.ke)) rfl (fun c48_t => ?_) (fun c48_f => ?_)
   ·have c48_tp : 0 < icmp O kb ke f4_n.kb f4_n.ke := of_decide_eq_true c48_t
    refine C_seq (fun _ hK49_ => ?_)
    refine A_start (S := fun w => (Rd f4_n.a [f4_n.b, f4_n.e, f4_n.v, f4_n.mx, (vQ (rt sb f4_a)), (vQ (rt sb f4_b)), (vQ p), (vI .i64 f4_n.c)] w ∧ Blk w f4_n.a) ∧ RtRd w (rt sb f4_a) (rmx f4_a) ∧ RtRd w (rt sb f4_b) (rmx f4_b) ∧ Sub R (hp w)) (N := 13) foll rfl rfl ?_
    have H50_ := Holds.drew_ H16_
    have hq51_ := And.intro ((And.intro (Holds.rdf H50_ 2 rfl) (Holds.blk H50_ 2 rfl))) (And.intro (Holds.tr_rd H50_ 3 rfl 5 rfl) (And.intro (Holds.tr_rd H50_ 4 rfl 5 rfl) ((Holds.ro_at H50_ 0 rfl))))
    refine A_tk 0 (v := (vQ f4_n.a)) rfl (by kernel_rfl) (fun w hS => x_move rfl) hq51_ ?_
    refine A_tk 1 (v := (vQ f4_n.a)) rfl (by kernel_rfl) (fun w hS => by kernel_rfl) hq51_ ?_
    refine A_tk 2 (v := (vQ f4_n.a)) rfl (by kernel_rfl) (fun w hS => by kernel_rfl) hq51_ ?_
    refine A_tk 3 (v := (vQ f4_n.a)) rfl (by kernel_rfl) (fun w hS => by kernel_rfl) hq51_ ?_
    refine A_tk 4 (v := (vQ f4_n.a)) rfl (by kernel_rfl) (fun w hS => by kernel_rfl) hq51_ ?_
    refine A_tk 5 (v := f4_n.b) rfl (by kernel_rfl) (fun w hS => x_load1 rfl underlying109 rfl (hS.1.1 0 f4_n.b rfl)) hq51_ ?_
    refine A_tk 6 (v := (vQ f4_n.a)) rfl (by kernel_rfl) (fun w hS => x_move rfl) hq51_ ?_
    refine A_tk 7 (v := (vQ f4_n.a)) rfl (by kernel_rfl) (fun w hS => by kernel_rfl) hq51_ ?_
    refine A_tk 8 (v := (vP (some ⟨f4_n.a, 3, none⟩))) rfl (by kernel_rfl) (fun w hS => by kernel_rfl) hq51_ ?_
    refine A_tk 9 (v := f4_n.mx) rfl (by kernel_rfl) (fun w hS => x_load1 rfl underlying109 rfl (hS.1.1 3 f4_n.mx rfl)) hq51_ ?_
    refine A_tk 10 (v := (vA #[f4_n.b, f4_n.mx])) rfl (by kernel_rfl) (fun w hS => x_buildIv rfl rfl (O.cmp (hT.1.b) (hT.1.b)) (O.cmp (hT.1.m) (hT.1.m))) hq51_ ?_
    refine A_ready (i := 11) (rs := []) (by kernel_rfl) ?_
    refine AllR.cons ?_ AllR.nil
    refine A_op (ls' := #[true, true, true, true, true, true, true, true, true, true, true, true, false]) rfl (by kernel_rfl) (T_alloc z111 H50_ ?_)
    intro b52_ w53_ S55_ H54_
    have S56_ := Same.trans (Same.trans S19_ (Same.drew _)) S55_
    refine ⟨⟨(And.intro (Holds.rdf H54_ 3 rfl) (Holds.blk H54_ 3 rfl)), Holds.tr_rd H54_ 4 rfl 6 rfl, Holds.tr_rd H54_ 5 rfl 6 rfl, (Holds.ro_at H54_ 1 rfl)⟩, ?_⟩
    refine A_ready (i := 12) (rs := []) (by kernel_rfl) ?_
    refine AllR.cons ?_ AllR.nil
    refine A_op0 (ls' := #[true, true, true, true, true, true, true, true, true, true, true, true, true]) rfl (by kernel_rfl) (T_storeN (vs := [f4_n.b, f4_n.mx]) rfl rfl z111 rfl (List.forall_mem_cons.2 ⟨(O.one (hT.1.b)), (List.forall_mem_cons.2 ⟨(O.one (hT.1.m)), (fun _ h__ => by cases h__)⟩)⟩) H54_ 0 rfl (Nat.le_of_ble_eq_true (by rfl)) ?_)
    intro w57_ S59_ H58_
    have S60_ := Same.trans S56_ S59_
    refine ⟨⟨(And.intro (Holds.rdf H58_ 3 rfl) (Holds.blk H58_ 3 rfl)), Holds.tr_rd H58_ 4 rfl 6 rfl, Holds.tr_rd H58_ 5 rfl 6 rfl, (Holds.ro_at H58_ 1 rfl)⟩, ?_⟩
    refine A_done (by kernel_rfl) ?_
    refine (X_then (hK49_ _ _ ?_))
    refine cr fun _ hK61_ => ?_
    refine sm (vQ ib) ?_
    refine sv (v := (Value.iface 290 (vQ ib))) (by kernel_rfl) ?_
    have H63_ := ((Holds.bring (Holds.bring (Holds.bring H58_ 2 rfl) 1 rfl) 2 rfl) :)
    refine S_list (T_call (al := [(vQ b52_), (Value.iface 290 (vQ ib))]) (pre := [cl b52_ 111 [f4_n.b, f4_n.mx], cl ib 111 [mb, me]]) rfl rfl cb163 (itCmp2 R K O b52_ ib f4_n.b f4_n.mx mb me f4_n.kb f4_n.km kb ke (hT.1.b) (hT.1.m) (hb) (he)) H63_ ?_)
    rintro v62_ p67_ w64_ ⟨rfl, rfl⟩ S66_ H65_
    have S68_ := Same.trans S60_ S66_
    refine sv (v := (vB (decide (icmp O f4_n.kb f4_n.km kb ke = 0)))) (x_bin rfl rfl rfl) ?_
    refine wn (hK61_ _ _ ?_)
    refine C_cond (b := decide (icmp O f4_n.kb f4_n.km kb ke = 0)) rfl (fun c69_t => ?_) (fun c69_f => ?_)
    ·have c69_tp : icmp O f4_n.kb f4_n.km kb ke = 0 := of_decide_eq_true c69_t
     refine cr fun _ hK70_ => ?_
     refine sm (vQ f4_n.a) ?_
     refine sv (v := (vQ f4_n.a)) (by kernel_rfl) ?_
     refine sv (v := (vP (some ⟨f4_n.a, 4, none⟩))) (by kernel_rfl) ?_
     refine sv (v := (vQ (rt sb f4_a))) (x_load1 rfl underlying182 rfl ((Holds.rdf H65_ 3 rfl) 4 (vQ (rt sb f4_a)) rfl)) ?_
     refine sm (vQ ib) ?_
     refine sm (vQ sb) ?_
     refine sm (Value.func (.func 168) #[] #[(vQ cb)]) ?_
     have H73_ := ((Holds.bring (Holds.bring (Holds.bring (Holds.bring (Holds.bring H65_ 7 rfl) 3 rfl) 7 rfl) 6 rfl) 4 rfl) :)
     refine S_list (T_call (al := [(vQ (rt sb f4_a)), (vQ ib), (vQ sb), (Value.func (.func 168) #[] #[(vQ cb)])]) (pre := [tr sb f4_n.a f4_a, clf sb 185 sc, cl ib 111 [mb, me], vp P s]) rfl rfl cb167 (ih R K O R_ σ P I step Q len N sc ib cb sb f4_n.a f4_a s mb me kb ke (by first | assumption | omega) (hb) (he) (by first | assumption | omega) (by first | assumption | omega) (by first | assumption | omega) (hlen) (by omega) (hstep) (by first | assumption | omega)) H73_ ?_)
     rintro v71_ p77_ w74_ ⟨rfl, rfl, he72_⟩ S76_ H75_
     have S78_ := Same.trans S68_ S76_
     refine sv (v := (vB (!((vis O step kb ke f4_a s).2)))) (x_not rfl) ?_
     refine sv (v := (vB (!((vis O step kb ke f4_a s).2)))) (x_move rfl) ?_
     rcases Bool.eq_false_or_eq_true (!((vis O step kb ke f4_a s).2)) with c79_t | c79_f
     ·skip
      refine S_no (j := 9) (dj := 86) (b := true) rfl rfl (congrArg vB c79_t) (by decide) ?_
      refine S_no (j := 9) (dj := 86) (b := true) rfl rfl (congrArg vB c79_t) (by decide) ?_
      refine S_no (j := 9) (dj := 86) (b := true) rfl rfl (congrArg vB c79_t) (by decide) ?_
      refine S_no (j := 9) (dj := 86) (b := true) rfl rfl (congrArg vB c79_t) (by decide) ?_
      refine S_no (j := 9) (dj := 86) (b := true) rfl rfl (congrArg vB c79_t) (by decide) ?_
      refine S_no (j := 9) (dj := 86) (b := true) rfl rfl (congrArg vB c79_t) (by decide) ?_
      refine S_no (j := 9) (dj := 86) (b := true) rfl rfl (congrArg vB c79_t) (by decide) ?_
      refine S_no (j := 9) (dj := 86) (b := true) rfl rfl (congrArg vB c79_t) (by decide) ?_
      refine S_no (j := 9) (dj := 86) (b := true) rfl rfl (congrArg vB c79_t) (by decide) ?_
      refine S_list (T_pickT (v := (vB true)) (congrArg vB c79_t) rfl ?_)
      refine wn (hK70_ _ _ ?_)
      refine C_condT rfl ?_
      refine cr fun _ hK80_ => ?_
      refine sv (v := (vB false)) (x_assign rfl) ?_
      refine wn (hK80_ _ _ ?_)
      refine C_ret (X_blkR (X_thenR ?_))
      refine R_any (v := (vB false)) (run_results1 rfl rfl) ?_
      have H81_ := ((Holds.bring (Holds.bring (Holds.bring H75_ 7 rfl) 2 rfl) 7 rfl) :)
      have H82_ := Holds.nd_tr (n := f4_n) (a := f4_a) (b := f4_b) H81_
      have q83_ := c22_f; first | (simp only [decide_eq_true_eq, decide_eq_false_iff_not, Bool.not_eq_true', Bool.not_eq_false'] at q83_) | skip
      have q84_ := c48_t; first | (simp only [decide_eq_true_eq, decide_eq_false_iff_not, Bool.not_eq_true', Bool.not_eq_false'] at q84_) | skip
      have q85_ := c69_t; first | (simp only [decide_eq_true_eq, decide_eq_false_iff_not, Bool.not_eq_true', Bool.not_eq_false'] at q85_) | skip
      have q86_ := c79_t; first | (simp only [decide_eq_true_eq, decide_eq_false_iff_not, Bool.not_eq_true', Bool.not_eq_false'] at q86_) | skip
      have hv_ : vis O step kb ke (Tr.nd f4_n f4_a f4_b) s = ((vis O step kb ke f4_a s).1, false) := by simp [Prod.ext_iff, vis, q83_, q84_, q85_, q86_]
      have eH87_ : vp P ((vis O step kb ke f4_a s).1) = vp P ((vis O step kb ke (Tr.nd f4_n f4_a f4_b) s).1) := congrArg (vp P) (congrArg Prod.fst hv_).symm
      have H87_ : Holds w74_ (tr sb p (Tr.nd f4_n f4_a f4_b) :: ro R :: clf sb 185 sc :: cl ib 111 [mb, me] :: vp P ((vis O step kb ke (Tr.nd f4_n f4_a f4_b) s).1) :: cl b52_ 111 [f4_n.b, f4_n.mx] :: F) := cast1 (P := fun c__ => Holds w74_ (tr sb p (Tr.nd f4_n f4_a f4_b) :: ro R :: clf sb 185 sc :: cl ib 111 [mb, me] :: c__ :: cl b52_ 111 [f4_n.b, f4_n.mx] :: F)) eH87_ H82_
      have H88_ := Holds.pkF H87_ [1, 0, 0, 0, 0] 1
      exact ⟨_, _, rfl, ⟨(congrArg vB ((congrArg Prod.snd hv_).symm : false = ((vis O step kb ke (Tr.nd f4_n f4_a f4_b) s).2))), rfl, ((by rw [hv_]; assumption))⟩, S78_, H88_⟩
     ·skip
      refine S_yes (j := 9) (dj := 86) (b := false) rfl rfl (congrArg vB c79_f) (T_val (v := (vQ f4_n.a)) (x_move rfl) ?_)
      refine S_yes (j := 9) (dj := 86) (b := false) rfl rfl (congrArg vB c79_f) (T_val (v := (vQ f4_n.a)) (by kernel_rfl) ?_)
      refine S_yes (j := 9) (dj := 86) (b := false) rfl rfl (congrArg vB c79_f) (T_val (v := (vP (some ⟨f4_n.a, 5, none⟩))) (by kernel_rfl) ?_)
      refine S_yes (j := 9) (dj := 86) (b := false) rfl rfl (congrArg vB c79_f) (T_val (v := (vQ (rt sb f4_b))) (x_load1 rfl underlying182 rfl ((Holds.rdf H75_ 6 rfl) 5 (vQ (rt sb f4_b)) rfl)) ?_)
      refine S_yes (j := 9) (dj := 86) (b := false) rfl rfl (congrArg vB c79_f) (T_val (v := (vQ ib)) (x_move rfl) ?_)
      refine S_yes (j := 9) (dj := 86) (b := false) rfl rfl (congrArg vB c79_f) (T_val (v := (vQ sb)) (x_move rfl) ?_)
      refine S_yes (j := 9) (dj := 86) (b := false) rfl rfl (congrArg vB c79_f) (T_val (v := (Value.func (.func 168) #[] #[(vQ cb)])) (x_move rfl) ?_)
      have H91_ := ((Holds.bring (Holds.bring (Holds.bring (Holds.bring (Holds.bring H75_ 4 rfl) 4 rfl) 4 rfl) 7 rfl) 4 rfl) :)
      refine S_yes (j := 9) (dj := 86) (b := false) rfl rfl (congrArg vB c79_f) (T_call (al := [(vQ (rt sb f4_b)), (vQ ib), (vQ sb), (Value.func (.func 168) #[] #[(vQ cb)])]) (pre := [tr sb f4_n.a f4_b, clf sb 185 sc, cl ib 111 [mb, me], vp P ((vis O step kb ke f4_a s).1)]) rfl rfl cb167 (ih R K O R_ σ P I step Q len N sc ib cb sb f4_n.a f4_b ((vis O step kb ke f4_a s).1) mb me kb ke (by first | assumption | omega) (hb) (he) (by first | assumption | omega) (by first | assumption | omega) (by first | assumption | omega) (hlen) (by omega) (hstep) (by first | assumption | omega)) H91_ ?_)
      rintro v89_ p95_ w92_ ⟨rfl, rfl, he90_⟩ S94_ H93_
      have S96_ := Same.trans S78_ S94_
      refine S_yes (j := 9) (dj := 86) (b := false) rfl rfl (congrArg vB c79_f) (T_val (v := (vB (!((vis O step kb ke f4_b ((vis O step kb ke f4_a s).1)).2)))) (x_not rfl) ?_)
      refine S_list (T_pickF (v := (vB (!((vis O step kb ke f4_b ((vis O step kb ke f4_a s).1)).2)))) (congrArg vB c79_f) rfl ?_)
      refine wn (hK70_ _ _ ?_)
      refine C_cond (b := !((vis O step kb ke f4_b ((vis O step kb ke f4_a s).1)).2)) rfl (fun c97_t => ?_) (fun c97_f => ?_)
      ·skip
       refine cr fun _ hK98_ => ?_
       refine sv (v := (vB false)) (x_assign rfl) ?_
       refine wn (hK98_ _ _ ?_)
       refine C_ret (X_blkR (X_thenR ?_))
       refine R_any (v := (vB false)) (run_results1 rfl rfl) ?_
       have H99_ := ((Holds.bring (Holds.bring (Holds.bring H93_ 1 rfl) 5 rfl) 7 rfl) :)
       have H100_ := Holds.nd_tr (n := f4_n) (a := f4_a) (b := f4_b) H99_
       have q101_ := c22_f; first | (simp only [decide_eq_true_eq, decide_eq_false_iff_not, Bool.not_eq_true', Bool.not_eq_false'] at q101_) | skip
       have q102_ := c48_t; first | (simp only [decide_eq_true_eq, decide_eq_false_iff_not, Bool.not_eq_true', Bool.not_eq_false'] at q102_) | skip
       have q103_ := c69_t; first | (simp only [decide_eq_true_eq, decide_eq_false_iff_not, Bool.not_eq_true', Bool.not_eq_false'] at q103_) | skip
       have q104_ := c79_f; first | (simp only [decide_eq_true_eq, decide_eq_false_iff_not, Bool.not_eq_true', Bool.not_eq_false'] at q104_) | skip
       have q105_ := c97_t; first | (simp only [decide_eq_true_eq, decide_eq_false_iff_not, Bool.not_eq_true', Bool.not_eq_false'] at q105_) | skip
       have hv_ : vis O step kb ke (Tr.nd f4_n f4_a f4_b) s = ((vis O step kb ke f4_b ((vis O step kb ke f4_a s).1)).1, false) := by simp [Prod.ext_iff, vis, q101_, q102_, q103_, q104_, q105_]
       have eH106_ : vp P ((vis O step kb ke f4_b ((vis O step kb ke f4_a s).1)).1) = vp P ((vis O step kb ke (Tr.nd f4_n f4_a f4_b) s).1) := congrArg (vp P) (congrArg Prod.fst hv_).symm
       have H106_ : Holds w92_ (tr sb p (Tr.nd f4_n f4_a f4_b) :: ro R :: clf sb 185 sc :: cl ib 111 [mb, me] :: vp P ((vis O step kb ke (Tr.nd f4_n f4_a f4_b) s).1) :: cl b52_ 111 [f4_n.b, f4_n.mx] :: F) := cast1 (P := fun c__ => Holds w92_ (tr sb p (Tr.nd f4_n f4_a f4_b) :: ro R :: clf sb 185 sc :: cl ib 111 [mb, me] :: c__ :: cl b52_ 111 [f4_n.b, f4_n.mx] :: F)) eH106_ H100_
       have H107_ := Holds.pkF H106_ [1, 0, 0, 0, 0] 1
       exact ⟨_, _, rfl, ⟨(congrArg vB ((congrArg Prod.snd hv_).symm : false = ((vis O step kb ke (Tr.nd f4_n f4_a f4_b) s).2))), rfl, ((by rw [hv_]; assumption))⟩, S96_, H107_⟩
      ·skip
       refine C_skip (X_blkN (X_then (hK20_ _ _ ?_)))
       refine cr fun _ hK108_ => ?_
       refine sv (v := (vB true)) (x_assign rfl) ?_
       refine wn (hK108_ _ _ ?_)
       refine C_ret ?_
       refine R_any (v := (vB true)) (run_results1 rfl rfl) ?_
       have H109_ := ((Holds.bring (Holds.bring (Holds.bring H93_ 1 rfl) 5 rfl) 7 rfl) :)
       have H110_ := Holds.nd_tr (n := f4_n) (a := f4_a) (b := f4_b) H109_
       have q111_ := c22_f; first | (simp only [decide_eq_true_eq, decide_eq_false_iff_not, Bool.not_eq_true', Bool.not_eq_false'] at q111_) | skip
       have q112_ := c48_t; first | (simp only [decide_eq_true_eq, decide_eq_false_iff_not, Bool.not_eq_true', Bool.not_eq_false'] at q112_) | skip
       have q113_ := c69_t; first | (simp only [decide_eq_true_eq, decide_eq_false_iff_not, Bool.not_eq_true', Bool.not_eq_false'] at q113_) | skip
       have q114_ := c79_f; first | (simp only [decide_eq_true_eq, decide_eq_false_iff_not, Bool.not_eq_true', Bool.not_eq_false'] at q114_) | skip
       have q115_ := c97_f; first | (simp only [decide_eq_true_eq, decide_eq_false_iff_not, Bool.not_eq_true', Bool.not_eq_false'] at q115_) | skip
       have hv_ : vis O step kb ke (Tr.nd f4_n f4_a f4_b) s = ((vis O step kb ke f4_b ((vis O step kb ke f4_a s).1)).1, true) := by simp [Prod.ext_iff, vis, q111_, q112_, q113_, q114_, q115_]
       have eH116_ : vp P ((vis O step kb ke f4_b ((vis O step kb ke f4_a s).1)).1) = vp P ((vis O step kb ke (Tr.nd f4_n f4_a f4_b) s).1) := congrArg (vp P) (congrArg Prod.fst hv_).symm
       have H116_ : Holds w92_ (tr sb p (Tr.nd f4_n f4_a f4_b) :: ro R :: clf sb 185 sc :: cl ib 111 [mb, me] :: vp P ((vis O step kb ke (Tr.nd f4_n f4_a f4_b) s).1) :: cl b52_ 111 [f4_n.b, f4_n.mx] :: F) := cast1 (P := fun c__ => Holds w92_ (tr sb p (Tr.nd f4_n f4_a f4_b) :: ro R :: clf sb 185 sc :: cl ib 111 [mb, me] :: c__ :: cl b52_ 111 [f4_n.b, f4_n.mx] :: F)) eH116_ H110_
       have H117_ := Holds.pkF H116_ [1, 0, 0, 0, 0] 1
       exact ⟨_, _, rfl, ⟨(congrArg vB ((congrArg Prod.snd hv_).symm : true = ((vis O step kb ke (Tr.nd f4_n f4_a f4_b) s).2))), rfl, ((by rw [hv_]; assumption))⟩, S96_, H117_⟩
    ·have c69_fp : ¬ (icmp O f4_n.kb f4_n.km kb ke = 0) := of_decide_eq_false c69_f
     refine C_skip (X_blkN (X_then (hK20_ _ _ ?_)))
     refine cr fun _ hK118_ => ?_
     refine sv (v := (vB true)) (x_assign rfl) ?_
     refine wn (hK118_ _ _ ?_)
     refine C_ret ?_
     refine R_any (v := (vB true)) (run_results1 rfl rfl) ?_
     have H119_ := ((Holds.bring (Holds.bring (Holds.bring H65_ 5 rfl) 5 rfl) 5 rfl) :)
     have H120_ := Holds.nd_tr (n := f4_n) (a := f4_a) (b := f4_b) H119_
     have q121_ := c22_f; first | (simp only [decide_eq_true_eq, decide_eq_false_iff_not, Bool.not_eq_true', Bool.not_eq_false'] at q121_) | skip
     have q122_ := c48_t; first | (simp only [decide_eq_true_eq, decide_eq_false_iff_not, Bool.not_eq_true', Bool.not_eq_false'] at q122_) | skip
     have q123_ := c69_f; first | (simp only [decide_eq_true_eq, decide_eq_false_iff_not, Bool.not_eq_true', Bool.not_eq_false'] at q123_) | skip
     have hv_ : vis O step kb ke (Tr.nd f4_n f4_a f4_b) s = (s, true) := by simp [Prod.ext_iff, vis, q121_, q122_, q123_]
     have eH124_ : vp P s = vp P ((vis O step kb ke (Tr.nd f4_n f4_a f4_b) s).1) := congrArg (vp P) (congrArg Prod.fst hv_).symm
     have H124_ : Holds w64_ (tr sb p (Tr.nd f4_n f4_a f4_b) :: ro R :: cl b52_ 111 [f4_n.b, f4_n.mx] :: cl ib 111 [mb, me] :: clf sb 185 sc :: vp P ((vis O step kb ke (Tr.nd f4_n f4_a f4_b) s).1) :: F) := cast1 (P := fun c__ => Holds w64_ (tr sb p (Tr.nd f4_n f4_a f4_b) :: ro R :: cl b52_ 111 [f4_n.b, f4_n.mx] :: cl ib 111 [mb, me] :: clf sb 185 sc :: c__ :: F)) eH124_ H120_
     have H125_ := Holds.pkF H124_ [1, 0, 2, 1, 1] 1
     exact ⟨_, _, rfl, ⟨(congrArg vB ((congrArg Prod.snd hv_).symm : true = ((vis O step kb ke (Tr.nd f4_n f4_a f4_b) s).2))), rfl, ((by rw [hv_]; assumption))⟩, S68_, H125_⟩
   ·have c48_fp : ¬ (0 < icmp O kb ke f4_n.kb f4_n.ke) := of_decide_eq_false c48_f
    refine cr fun _ hK126_ => ?_
    refine sm (vQ f4_n.a) ?_
    refine sv (v := (vQ f4_n.a)) (by kernel_rfl) ?_
    refine sv (v := (vP (some ⟨f4_n.a, 4, none⟩))) (by kernel_rfl) ?_
    refine sv (v := (vQ (rt sb f4_a))) (x_load1 rfl underlying182 rfl ((Holds.rdf H16_ 2 rfl) 4 (vQ (rt sb f4_a)) rfl)) ?_
    refine sm (vQ ib) ?_
    refine sm (vQ sb) ?_
    refine sm (Value.func (.func 168) #[] #[(vQ cb)]) ?_
    have H129_ := ((Holds.bring (Holds.bring (Holds.bring (Holds.bring (Holds.bring H16_ 6 rfl) 2 rfl) 6 rfl) 5 rfl) 4 rfl) :)
    refine S_list (T_call (al := [(vQ (rt sb f4_a)), (vQ ib), (vQ sb), (Value.func (.func 168) #[] #[(vQ cb)])]) (pre := [tr sb f4_n.a f4_a, clf sb 185 sc, cl ib 111 [mb, me], vp P s]) rfl rfl cb167 (ih R K O R_ σ P I step Q len N sc ib cb sb f4_n.a f4_a s mb me kb ke (by first | assumption | omega) (hb) (he) (by first | assumption | omega) (by first | assumption | omega) (by first | assumption | omega) (hlen) (by omega) (hstep) (by first | assumption | omega)) H129_ ?_)
    rintro v127_ p133_ w130_ ⟨rfl, rfl, he128_⟩ S132_ H131_
    have S134_ := Same.trans S19_ S132_
    refine sv (v := (vB (!((vis O step kb ke f4_a s).2)))) (x_not rfl) ?_
    refine sv (v := (vB (!((vis O step kb ke f4_a s).2)))) (x_move rfl) ?_
    rcases Bool.eq_false_or_eq_true (!((vis O step kb ke f4_a s).2)) with c135_t | c135_f
    ·skip
     refine S_no (j := 9) (dj := 30) (b := true) rfl rfl (congrArg vB c135_t) (by decide) ?_
     refine S_no (j := 9) (dj := 30) (b := true) rfl rfl (congrArg vB c135_t) (by decide) ?_
     refine S_no (j := 9) (dj := 30) (b := true) rfl rfl (congrArg vB c135_t) (by decide) ?_
     refine S_no (j := 9) (dj := 30) (b := true) rfl rfl (congrArg vB c135_t) (by decide) ?_
     refine S_list (T_pickT (v := (vB true)) (congrArg vB c135_t) rfl ?_)
     refine sm (vB true) ?_
     refine S_no (j := 15) (dj := 36) (b := true) rfl rfl rfl (by decide) ?_
     refine S_no (j := 15) (dj := 36) (b := true) rfl rfl rfl (by decide) ?_
     refine S_no (j := 15) (dj := 36) (b := true) rfl rfl rfl (by decide) ?_
     refine S_no (j := 15) (dj := 36) (b := true) rfl rfl rfl (by decide) ?_
     refine S_no (j := 15) (dj := 36) (b := true) rfl rfl rfl (by decide) ?_
     refine S_no (j := 15) (dj := 36) (b := true) rfl rfl rfl (by decide) ?_
     refine S_no (j := 15) (dj := 36) (b := true) rfl rfl rfl (by decide) ?_
     refine S_no (j := 15) (dj := 36) (b := true) rfl rfl rfl (by decide) ?_
     refine S_no (j := 15) (dj := 36) (b := true) rfl rfl rfl (by decide) ?_
     refine S_list (T_pickT (v := (vB true)) rfl rfl ?_)
     refine wn (hK126_ _ _ ?_)
     refine C_condT rfl ?_
     refine cr fun _ hK136_ => ?_
     refine sv (v := (vB false)) (x_assign rfl) ?_
     refine wn (hK136_ _ _ ?_)
     refine C_ret (X_blkR (X_thenR ?_))
     refine R_any (v := (vB false)) (run_results1 rfl rfl) ?_
     have H137_ := ((Holds.bring (Holds.bring (Holds.bring H131_ 6 rfl) 2 rfl) 6 rfl) :)
     have H138_ := Holds.nd_tr (n := f4_n) (a := f4_a) (b := f4_b) H137_
     have q139_ := c22_f; first | (simp only [decide_eq_true_eq, decide_eq_false_iff_not, Bool.not_eq_true', Bool.not_eq_false'] at q139_) | skip
     have q140_ := c48_f; first | (simp only [decide_eq_true_eq, decide_eq_false_iff_not, Bool.not_eq_true', Bool.not_eq_false'] at q140_) | skip
     have q141_ := c135_t; first | (simp only [decide_eq_true_eq, decide_eq_false_iff_not, Bool.not_eq_true', Bool.not_eq_false'] at q141_) | skip
     have hv_ : vis O step kb ke (Tr.nd f4_n f4_a f4_b) s = ((vis O step kb ke f4_a s).1, false) := by simp [Prod.ext_iff, vis, q139_, q140_, q141_]
     have eH142_ : vp P ((vis O step kb ke f4_a s).1) = vp P ((vis O step kb ke (Tr.nd f4_n f4_a f4_b) s).1) := congrArg (vp P) (congrArg Prod.fst hv_).symm
     have H142_ : Holds w130_ (tr sb p (Tr.nd f4_n f4_a f4_b) :: ro R :: clf sb 185 sc :: cl ib 111 [mb, me] :: vp P ((vis O step kb ke (Tr.nd f4_n f4_a f4_b) s).1) :: F) := cast1 (P := fun c__ => Holds w130_ (tr sb p (Tr.nd f4_n f4_a f4_b) :: ro R :: clf sb 185 sc :: cl ib 111 [mb, me] :: c__ :: F)) eH142_ H138_
     have H143_ := Holds.pkF H142_ [1, 0, 0, 0, 0] 0
     exact ⟨_, _, rfl, ⟨(congrArg vB ((congrArg Prod.snd hv_).symm : false = ((vis O step kb ke (Tr.nd f4_n f4_a f4_b) s).2))), rfl, ((by rw [hv_]; assumption))⟩, S134_, H143_⟩
    ·skip
     refine S_yes (j := 9) (dj := 30) (b := false) rfl rfl (congrArg vB c135_f) (T_val (v := (Value.func (.func 168) #[] #[(vQ cb)])) (x_move rfl) ?_)
     refine S_yes (j := 9) (dj := 30) (b := false) rfl rfl (congrArg vB c135_f) (T_val (v := (vQ f4_n.a)) (x_move rfl) ?_)
     have H146_ := ((Holds.bring (Holds.bring (Holds.bring H131_ 4 rfl) 5 rfl) 2 rfl) :)
     refine S_yes (j := 9) (dj := 30) (b := false) rfl rfl (congrArg vB c135_f) (T_call (al := [(vQ f4_n.a), (vQ cb)]) (pre := [clf f4_n.a 185 [f4_n.b, f4_n.e, f4_n.v, f4_n.mx, (vQ (rt sb f4_a)), (vQ (rt sb f4_b)), (vQ p), (vI .i64 f4_n.c)], vp P ((vis O step kb ke f4_a s).1)]) rfl rfl cb168 (hstep R ((vis O step kb ke f4_a s).1) f4_n (rt sb f4_a) (rt sb f4_b) p (by first | assumption | omega) (hT.1) (hQ.1) (by omega) (by first | assumption | omega)) H146_ ?_)
     rintro v144_ p150_ w147_ ⟨rfl, rfl, he145_⟩ S149_ H148_
     have S151_ := Same.trans S134_ S149_
     refine S_yes (j := 9) (dj := 30) (b := false) rfl rfl (congrArg vB c135_f) (T_val (v := (vB (!((step ((vis O step kb ke f4_a s).1) f4_n).2)))) (x_not rfl) ?_)
     refine S_list (T_pickF (v := (vB (!((step ((vis O step kb ke f4_a s).1) f4_n).2)))) (congrArg vB c135_f) rfl ?_)
     refine sv (v := (vB (!((step ((vis O step kb ke f4_a s).1) f4_n).2)))) (x_move rfl) ?_
     rcases Bool.eq_false_or_eq_true (!((step ((vis O step kb ke f4_a s).1) f4_n).2)) with c152_t | c152_f
     ·skip
      refine S_no (j := 15) (dj := 36) (b := true) rfl rfl (congrArg vB c152_t) (by decide) ?_
      refine S_no (j := 15) (dj := 36) (b := true) rfl rfl (congrArg vB c152_t) (by decide) ?_
      refine S_no (j := 15) (dj := 36) (b := true) rfl rfl (congrArg vB c152_t) (by decide) ?_
      refine S_no (j := 15) (dj := 36) (b := true) rfl rfl (congrArg vB c152_t) (by decide) ?_
      refine S_no (j := 15) (dj := 36) (b := true) rfl rfl (congrArg vB c152_t) (by decide) ?_
      refine S_no (j := 15) (dj := 36) (b := true) rfl rfl (congrArg vB c152_t) (by decide) ?_
      refine S_no (j := 15) (dj := 36) (b := true) rfl rfl (congrArg vB c152_t) (by decide) ?_
      refine S_no (j := 15) (dj := 36) (b := true) rfl rfl (congrArg vB c152_t) (by decide) ?_
      refine S_no (j := 15) (dj := 36) (b := true) rfl rfl (congrArg vB c152_t) (by decide) ?_
      refine S_list (T_pickT (v := (vB true)) (congrArg vB c152_t) rfl ?_)
      refine wn (hK126_ _ _ ?_)
      refine C_condT rfl ?_
      refine cr fun _ hK153_ => ?_
      refine sv (v := (vB false)) (x_assign rfl) ?_
      refine wn (hK153_ _ _ ?_)
      refine C_ret (X_blkR (X_thenR ?_))
      refine R_any (v := (vB false)) (run_results1 rfl rfl) ?_
      have H154_ := ((Holds.bring (Holds.bring (Holds.bring H148_ 6 rfl) 4 rfl) 3 rfl) :)
      have H155_ := Holds.nd_tr (n := f4_n) (a := f4_a) (b := f4_b) H154_
      have q156_ := c22_f; first | (simp only [decide_eq_true_eq, decide_eq_false_iff_not, Bool.not_eq_true', Bool.not_eq_false'] at q156_) | skip
      have q157_ := c48_f; first | (simp only [decide_eq_true_eq, decide_eq_false_iff_not, Bool.not_eq_true', Bool.not_eq_false'] at q157_) | skip
      have q158_ := c135_f; first | (simp only [decide_eq_true_eq, decide_eq_false_iff_not, Bool.not_eq_true', Bool.not_eq_false'] at q158_) | skip
      have q159_ := c152_t; first | (simp only [decide_eq_true_eq, decide_eq_false_iff_not, Bool.not_eq_true', Bool.not_eq_false'] at q159_) | skip
      have hv_ : vis O step kb ke (Tr.nd f4_n f4_a f4_b) s = ((step ((vis O step kb ke f4_a s).1) f4_n).1, false) := by simp [Prod.ext_iff, vis, q156_, q157_, q158_, q159_]
      have eH160_ : vp P ((step ((vis O step kb ke f4_a s).1) f4_n).1) = vp P ((vis O step kb ke (Tr.nd f4_n f4_a f4_b) s).1) := congrArg (vp P) (congrArg Prod.fst hv_).symm
      have H160_ : Holds w147_ (tr sb p (Tr.nd f4_n f4_a f4_b) :: ro R :: vp P ((vis O step kb ke (Tr.nd f4_n f4_a f4_b) s).1) :: clf sb 185 sc :: cl ib 111 [mb, me] :: F) := cast1 (P := fun c__ => Holds w147_ (tr sb p (Tr.nd f4_n f4_a f4_b) :: ro R :: c__ :: clf sb 185 sc :: cl ib 111 [mb, me] :: F)) eH160_ H155_
      have H161_ := Holds.pkF H160_ [1, 0, 1, 1, 0] 0
      exact ⟨_, _, rfl, ⟨(congrArg vB ((congrArg Prod.snd hv_).symm : false = ((vis O step kb ke (Tr.nd f4_n f4_a f4_b) s).2))), rfl, ((by rw [hv_]; assumption))⟩, S151_, H161_⟩
     ·skip
      refine S_yes (j := 15) (dj := 36) (b := false) rfl rfl (congrArg vB c152_f) (T_val (v := (vQ f4_n.a)) (x_move rfl) ?_)
      refine S_yes (j := 15) (dj := 36) (b := false) rfl rfl (congrArg vB c152_f) (T_val (v := (vQ f4_n.a)) (by kernel_rfl) ?_)
      refine S_yes (j := 15) (dj := 36) (b := false) rfl rfl (congrArg vB c152_f) (T_val (v := (vP (some ⟨f4_n.a, 5, none⟩))) (by kernel_rfl) ?_)
      refine S_yes (j := 15) (dj := 36) (b := false) rfl rfl (congrArg vB c152_f) (T_val (v := (vQ (rt sb f4_b))) (x_load1 rfl underlying182 rfl ((Holds.rdf H148_ 1 rfl) 5 (vQ (rt sb f4_b)) rfl)) ?_)
      refine S_yes (j := 15) (dj := 36) (b := false) rfl rfl (congrArg vB c152_f) (T_val (v := (vQ ib)) (x_move rfl) ?_)
      refine S_yes (j := 15) (dj := 36) (b := false) rfl rfl (congrArg vB c152_f) (T_val (v := (vQ sb)) (x_move rfl) ?_)
      refine S_yes (j := 15) (dj := 36) (b := false) rfl rfl (congrArg vB c152_f) (T_val (v := (Value.func (.func 168) #[] #[(vQ cb)])) (x_move rfl) ?_)
      have H164_ := ((Holds.bring (Holds.bring (Holds.bring (Holds.bring (Holds.bring H148_ 2 rfl) 5 rfl) 5 rfl) 6 rfl) 4 rfl) :)
      refine S_yes (j := 15) (dj := 36) (b := false) rfl rfl (congrArg vB c152_f) (T_call (al := [(vQ (rt sb f4_b)), (vQ ib), (vQ sb), (Value.func (.func 168) #[] #[(vQ cb)])]) (pre := [tr sb f4_n.a f4_b, clf sb 185 sc, cl ib 111 [mb, me], vp P ((step ((vis O step kb ke f4_a s).1) f4_n).1)]) rfl rfl cb167 (ih R K O R_ σ P I step Q len N sc ib cb sb f4_n.a f4_b ((step ((vis O step kb ke f4_a s).1) f4_n).1) mb me kb ke (by first | assumption | omega) (hb) (he) (by first | assumption | omega) (by first | assumption | omega) (by first | assumption | omega) (hlen) (by omega) (hstep) (by first | assumption | omega)) H164_ ?_)
      rintro v162_ p168_ w165_ ⟨rfl, rfl, he163_⟩ S167_ H166_
      have S169_ := Same.trans S151_ S167_
      refine S_yes (j := 15) (dj := 36) (b := false) rfl rfl (congrArg vB c152_f) (T_val (v := (vB (!((vis O step kb ke f4_b ((step ((vis O step kb ke f4_a s).1) f4_n).1)).2)))) (x_not rfl) ?_)
      refine S_list (T_pickF (v := (vB (!((vis O step kb ke f4_b ((step ((vis O step kb ke f4_a s).1) f4_n).1)).2)))) (congrArg vB c152_f) rfl ?_)
      refine wn (hK126_ _ _ ?_)
      refine C_cond (b := !((vis O step kb ke f4_b ((step ((vis O step kb ke f4_a s).1) f4_n).1)).2)) rfl (fun c170_t => ?_) (fun c170_f => ?_)
      ·skip
       refine cr fun _ hK171_ => ?_
       refine sv (v := (vB false)) (x_assign rfl) ?_
       refine wn (hK171_ _ _ ?_)
       refine C_ret (X_blkR (X_thenR ?_))
       refine R_any (v := (vB false)) (run_results1 rfl rfl) ?_
       have H172_ := ((Holds.bring (Holds.bring (Holds.bring H166_ 1 rfl) 6 rfl) 6 rfl) :)
       have H173_ := Holds.nd_tr (n := f4_n) (a := f4_a) (b := f4_b) H172_
       have q174_ := c22_f; first | (simp only [decide_eq_true_eq, decide_eq_false_iff_not, Bool.not_eq_true', Bool.not_eq_false'] at q174_) | skip
       have q175_ := c48_f; first | (simp only [decide_eq_true_eq, decide_eq_false_iff_not, Bool.not_eq_true', Bool.not_eq_false'] at q175_) | skip
       have q176_ := c135_f; first | (simp only [decide_eq_true_eq, decide_eq_false_iff_not, Bool.not_eq_true', Bool.not_eq_false'] at q176_) | skip
       have q177_ := c152_f; first | (simp only [decide_eq_true_eq, decide_eq_false_iff_not, Bool.not_eq_true', Bool.not_eq_false'] at q177_) | skip
       have q178_ := c170_t; first | (simp only [decide_eq_true_eq, decide_eq_false_iff_not, Bool.not_eq_true', Bool.not_eq_false'] at q178_) | skip
       have hv_ : vis O step kb ke (Tr.nd f4_n f4_a f4_b) s = ((vis O step kb ke f4_b ((step ((vis O step kb ke f4_a s).1) f4_n).1)).1, false) := by simp [Prod.ext_iff, vis, q174_, q175_, q176_, q177_, q178_]
       have eH179_ : vp P ((vis O step kb ke f4_b ((step ((vis O step kb ke f4_a s).1) f4_n).1)).1) = vp P ((vis O step kb ke (Tr.nd f4_n f4_a f4_b) s).1) := congrArg (vp P) (congrArg Prod.fst hv_).symm
       have H179_ : Holds w165_ (tr sb p (Tr.nd f4_n f4_a f4_b) :: ro R :: clf sb 185 sc :: cl ib 111 [mb, me] :: vp P ((vis O step kb ke (Tr.nd f4_n f4_a f4_b) s).1) :: F) := cast1 (P := fun c__ => Holds w165_ (tr sb p (Tr.nd f4_n f4_a f4_b) :: ro R :: clf sb 185 sc :: cl ib 111 [mb, me] :: c__ :: F)) eH179_ H173_
       have H180_ := Holds.pkF H179_ [1, 0, 0, 0, 0] 0
       exact ⟨_, _, rfl, ⟨(congrArg vB ((congrArg Prod.snd hv_).symm : false = ((vis O step kb ke (Tr.nd f4_n f4_a f4_b) s).2))), rfl, ((by rw [hv_]; assumption))⟩, S169_, H180_⟩
      ·skip
       refine C_skip (X_blkN (X_then (hK20_ _ _ ?_)))
       refine cr fun _ hK181_ => ?_
       refine sv (v := (vB true)) (x_assign rfl) ?_
       refine wn (hK181_ _ _ ?_)
       refine C_ret ?_
       refine R_any (v := (vB true)) (run_results1 rfl rfl) ?_
       have H182_ := ((Holds.bring (Holds.bring (Holds.bring H166_ 1 rfl) 6 rfl) 6 rfl) :)
       have H183_ := Holds.nd_tr (n := f4_n) (a := f4_a) (b := f4_b) H182_
       have q184_ := c22_f; first | (simp only [decide_eq_true_eq, decide_eq_false_iff_not, Bool.not_eq_true', Bool.not_eq_false'] at q184_) | skip
       have q185_ := c48_f; first | (simp only [decide_eq_true_eq, decide_eq_false_iff_not, Bool.not_eq_true', Bool.not_eq_false'] at q185_) | skip
       have q186_ := c135_f; first | (simp only [decide_eq_true_eq, decide_eq_false_iff_not, Bool.not_eq_true', Bool.not_eq_false'] at q186_) | skip
       have q187_ := c152_f; first | (simp only [decide_eq_true_eq, decide_eq_false_iff_not, Bool.not_eq_true', Bool.not_eq_false'] at q187_) | skip
       have q188_ := c170_f; first | (simp only [decide_eq_true_eq, decide_eq_false_iff_not, Bool.not_eq_true', Bool.not_eq_false'] at q188_) | skip
       have hv_ : vis O step kb ke (Tr.nd f4_n f4_a f4_b) s = ((vis O step kb ke f4_b ((step ((vis O step kb ke f4_a s).1) f4_n).1)).1, true) := by simp [Prod.ext_iff, vis, q184_, q185_, q186_, q187_, q188_]
       have eH189_ : vp P ((vis O step kb ke f4_b ((step ((vis O step kb ke f4_a s).1) f4_n).1)).1) = vp P ((vis O step kb ke (Tr.nd f4_n f4_a f4_b) s).1) := congrArg (vp P) (congrArg Prod.fst hv_).symm
       have H189_ : Holds w165_ (tr sb p (Tr.nd f4_n f4_a f4_b) :: ro R :: clf sb 185 sc :: cl ib 111 [mb, me] :: vp P ((vis O step kb ke (Tr.nd f4_n f4_a f4_b) s).1) :: F) := cast1 (P := fun c__ => Holds w165_ (tr sb p (Tr.nd f4_n f4_a f4_b) :: ro R :: clf sb 185 sc :: cl ib 111 [mb, me] :: c__ :: F)) eH189_ H183_
       have H190_ := Holds.pkF H189_ [1, 0, 0, 0, 0] 0
       exact ⟨_, _, rfl, ⟨(congrArg vB ((congrArg Prod.snd hv_).symm : true = ((vis O step kb ke (Tr.nd f4_n f4_a f4_b) s).2))), rfl, ((by rw [hv_]; assumption))⟩, S169_, H190_⟩

theorem itVisit (R : HP) (K : Type) (O : KO K) (R_ : HP) (σ : Type) (P : σ → SP) (I : HP → σ → Prop) (step : σ → ND K → σ × Bool) (Q : ND K → Prop) (len : σ → Nat) (N : Nat) (sc : List Value) (ib cb sb p : Nat) (t : Tr K) (s : σ) (mb me : Value) (kb ke : K) (hT : TOk O R t) (hb : O.Val R mb kb) (he : O.Val R me ke) (hi : I R s) (hRR : R = R_) (hQ : TAll Q t) (hlen : ∀ s n, len (step s n).1 ≤ len s + 1) (hN : len s + (ino t).length ≤ N) (hstep : ∀ (R : HP) (s : σ) (n : ND K) (l r p : Nat) (hi : I R s) (hn : NOk O R n) (hq : Q n) (hN : len s < N) (hRR : R = R_), Tri Try.prog 168 #[pn n.a, pn cb] R [clf n.a 185 (n.cells l r p), vp P s] fun v__ post__ => v__ = (vB (step s n).2) ∧ post__ = [clf n.a 185 (n.cells l r p), vp P (step s n).1] ∧ (I R (step s n).1)) : Tri Try.prog 167 #[(vQ (rt sb t)), (vQ ib), (vQ sb), (Value.func (.func 168) #[] #[(vQ cb)])] R [tr sb p t, clf sb 185 sc, cl ib 111 [mb, me], vp P s] (fun v__ post__ => v__ = (vB ((vis O step kb ke t s).2)) ∧ post__ = [tr sb p t, clf sb 185 sc, cl ib 111 [mb, me], vp P ((vis O step kb ke t s).1)] ∧ (I R (vis O step kb ke t s).1)) := by
  have key : ∀ (n__ : Nat) (R : HP) (K : Type) (O : KO K) (R_ : HP) (σ : Type) (P : σ → SP) (I : HP → σ → Prop) (step : σ → ND K → σ × Bool) (Q : ND K → Prop) (len : σ → Nat) (N : Nat) (sc : List Value) (ib cb sb p : Nat) (t : Tr K) (s : σ) (mb me : Value) (kb ke : K) (hT : TOk O R t) (hb : O.Val R mb kb) (he : O.Val R me ke) (hi : I R s) (hRR : R = R_) (hQ : TAll Q t) (hlen : ∀ s n, len (step s n).1 ≤ len s + 1) (hN : len s + (ino t).length ≤ N) (hstep : ∀ (R : HP) (s : σ) (n : ND K) (l r p : Nat) (hi : I R s) (hn : NOk O R n) (hq : Q n) (hN : len s < N) (hRR : R = R_), Tri Try.prog 168 #[pn n.a, pn cb] R [clf n.a 185 (n.cells l r p), vp P s] fun v__ post__ => v__ = (vB (step s n).2) ∧ post__ = [clf n.a 185 (n.cells l r p), vp P (step s n).1] ∧ (I R (step s n).1)) (hn__ : (ino t).length = n__), Tri Try.prog 167 #[(vQ (rt sb t)), (vQ ib), (vQ sb), (Value.func (.func 168) #[] #[(vQ cb)])] R [tr sb p t, clf sb 185 sc, cl ib 111 [mb, me], vp P s] (fun v__ post__ => v__ = (vB ((vis O step kb ke t s).2)) ∧ post__ = [tr sb p t, clf sb 185 sc, cl ib 111 [mb, me], vp P ((vis O step kb ke t s).1)] ∧ (I R (vis O step kb ke t s).1)) := by
    intro n__
    induction n__ using Nat.strongRecOn with
    | ind n__ ih => intro R K O R_ σ P I step Q len N sc ib cb sb p t s mb me kb ke hT hb he hi hRR hQ hlen hN hstep hn__; exact itVisit_step R K O R_ σ P I step Q len N sc ib cb sb p t s mb me kb ke n__ hT hb he hi hRR hQ hlen hN hstep (Nat.le_of_eq hn__) (fun R K O R_ σ P I step Q len N sc ib cb sb p t s mb me kb ke hT hb he hi hRR hQ hlen hN hstep hms => ih _ hms R K O R_ σ P I step Q len N sc ib cb sb p t s mb me kb ke hT hb he hi hRR hQ hlen hN hstep rfl)
  exact key _ R K O R_ σ P I step Q len N sc ib cb sb p t s mb me kb ke hT hb he hi hRR hQ hlen hN hstep rfl
end Go.Proofs.Ytlnihndjepjagaa
set_option linter.unusedVariables false
set_option linter.unusedSimpArgs false
namespace Go.Proofs.Ytlnihndjepjagaa
open Go Go.RowKit Gw Try
open Go.Value renaming int → vI, bool → vB, slice → vS, pointer → vP, agg → vA, tuple → vT

end Go.Proofs.Ytlnihndjepjagaa
set_option linter.unusedVariables false
set_option linter.unusedSimpArgs false
namespace Go.Proofs.Ytlnihndjepjagaa
open Go Go.RowKit Gw Try
open Go.Value renaming int → vI, bool → vB, slice → vS, pointer → vP, agg → vA, tuple → vT

/-! ### Texts in order; the empty one stands behind all -/
theorem cb_refl : ∀ a : List UInt8, Lib.compareBytes a a = 0
  | [] => rfl
  | a :: xs => by simp [Lib.compareBytes, cb_refl xs]
theorem cb_flip : ∀ a b : List UInt8, Lib.compareBytes a b = - Lib.compareBytes b a
  | [], [] => rfl
  | [], _ :: _ => rfl
  | _ :: _, [] => rfl
  | a :: xs, b :: ys => by
    have ih := cb_flip xs ys
    simp only [Lib.compareBytes, UInt8.lt_iff_toNat_lt]
    split <;> split <;> first | omega | rfl
theorem cb_anti : ∀ {a b : List UInt8}, Lib.compareBytes a b = 0 → a = b
  | [], [], _ => rfl
  | [], _ :: _, h => by cases h
  | _ :: _, [], h => by cases h
  | a :: xs, b :: ys, h => by
    simp only [Lib.compareBytes, UInt8.lt_iff_toNat_lt] at h
    split at h
    · cases h
    · split at h
      · cases h
      · rw [cb_anti h, show a = b from UInt8.toNat_inj.1 (by omega)]
theorem cb_trans : ∀ {a b c : List UInt8}, Lib.compareBytes a b ≤ 0 → Lib.compareBytes b c ≤ 0 → Lib.compareBytes a c ≤ 0
  | [], _, [], _, _ => by decide
  | [], _, _ :: _, _, _ => by show (-1 : Int) ≤ 0; decide
  | _ :: _, [], _, h, _ => absurd (show (1 : Int) ≤ 0 from h) (by decide)
  | _ :: _, _ :: _, [], _, h => absurd (show (1 : Int) ≤ 0 from h) (by decide)
  | a :: xs, b :: ys, c :: zs, h1, h2 => by
    simp only [Lib.compareBytes, UInt8.lt_iff_toNat_lt] at h1 h2 ⊢
    by_cases h3 : a.toNat < c.toNat
    · rw [if_pos h3]; decide
    · rw [if_neg h3]
      split at h1
      · split at h2
        · omega
        · split at h2
          · exact absurd h2 (by decide)
          · omega
      · split at h1
        · exact absurd h1 (by decide)
        · split at h2
          · omega
          · split at h2
            · exact absurd h2 (by decide)
            · rw [if_neg (by omega)]; exact cb_trans h1 h2
def acm : List UInt8 → List UInt8 → Int
  | [], [] => 0
  | [], _ :: _ => 1
  | _ :: _, [] => -1
  | a :: xs, b :: ys => Lib.compareBytes (a :: xs) (b :: ys)
theorem acm_refl : ∀ a, acm a a = 0
  | [] => rfl
  | a :: xs => cb_refl (a :: xs)
theorem acm_flip : ∀ a b, acm a b = - acm b a
  | [], [] => rfl
  | [], _ :: _ => rfl
  | _ :: _, [] => rfl
  | a :: xs, b :: ys => cb_flip (a :: xs) (b :: ys)
theorem acm_anti : ∀ {a b}, acm a b = 0 → a = b
  | [], [], _ => rfl
  | [], _ :: _, h => by cases h
  | _ :: _, [], h => by cases h
  | _ :: _, _ :: _, h => cb_anti h
theorem acm_trans : ∀ {a b c}, acm a b ≤ 0 → acm b c ≤ 0 → acm a c ≤ 0
  | [], [], _, _, h => h
  | [], _ :: _, _, h, _ => absurd (show (1 : Int) ≤ 0 from h) (by decide)
  | _ :: _, [], [], h, _ => h
  | _ :: _, [], _ :: _, _, h => absurd (show (1 : Int) ≤ 0 from h) (by decide)
  | _ :: _, _ :: _, [], _, _ => by show (-1 : Int) ≤ 0; decide
  | _ :: _, _ :: _, _ :: _, h1, h2 => cb_trans h1 h2
theorem acm_ne {a b : List UInt8} (ha : a ≠ []) (hb : b ≠ []) : acm a b = Lib.compareBytes a b := by
  cases a with
  | nil => exact absurd rfl ha
  | cons _ _ => cases b with
    | nil => exact absurd rfl hb
    | cons _ _ => rfl
theorem acm_l {b : List UInt8} (hb : b ≠ []) : acm [] b = 1 := by
  cases b with
  | nil => exact absurd rfl hb
  | cons _ _ => rfl
theorem acm_r {b : List UInt8} (hb : b ≠ []) : acm b [] = -1 := by
  cases b with
  | nil => exact absurd rfl hb
  | cons _ _ => rfl
theorem u8s_len (ns : List Int) : (u8s ns).length = ns.length := by simp [u8s]
theorem u8s_nil {ns : List Int} (h : ns.length = 0) : u8s ns = [] := List.eq_nil_of_length_eq_zero (by rw [u8s_len, h])
theorem u8s_nnil {ns : List Int} (h : ns.length ≠ 0) : u8s ns ≠ [] := fun e => h (by rw [← u8s_len, e]; rfl)
/-! ### The model's order of texts -/
theorem empty_iff {u : ByteArray} : (u.toList == (ByteArray.mk #[]).toList) = true ↔ u.size = 0 := by
  rw [beq_iff_eq, toList_data, toList_data]
  constructor
  · intro h
    have : u.data.toList.length = 0 := by rw [h]; rfl
    simpa using this
  · intro h
    exact List.eq_nil_of_length_eq_zero (by simpa using h)
theorem bl_lt : ∀ {a b : List UInt8}, Op.bytesLess a b = true ↔ Lib.compareBytes a b < 0
  | [], [] => by simp [Op.bytesLess, Lib.compareBytes]
  | [], _ :: _ => by simp [Op.bytesLess, Lib.compareBytes]
  | _ :: _, [] => by simp [Op.bytesLess, Lib.compareBytes]
  | a :: xs, b :: ys => by
    have ih := @bl_lt xs ys
    simp only [Op.bytesLess, Lib.compareBytes, Bool.or_eq_true, Bool.and_eq_true, decide_eq_true_eq, beq_iff_eq, UInt8.lt_iff_toNat_lt]
    have e : a = b ↔ a.toNat = b.toNat := UInt8.toNat_inj.symm
    by_cases h1 : a.toNat < b.toNat
    · simp [h1]
    · rw [if_neg h1]
      by_cases h2 : b.toNat < a.toNat
      · rw [if_pos h2]
        have : a ≠ b := fun h => by have := e.1 h; omega
        simp [h1, this]
      · rw [if_neg h2]
        have : a = b := e.2 (by omega)
        simp [this, ih]


set_option maxHeartbeats 1600000 in
theorem bCmp (R : HP) (x y : Value) (A B : List Int) (hx : RS R 1 x (List.length A) (bytesV A)) (hy : RS R 1 y (List.length B) (bytesV B)) :
    Tri Try.prog 137 #[x, (Value.iface 168 y)] R [] (fun v__ post__ => v__ = (vI .i64 (acm (u8s A) (u8s B))) ∧ post__ = []) := by
 refine Tri.into (n := 20) (al := [x, (Value.iface 168 y)]) func137 rfl ntmps137 rfl rfl fun w F H => ?_
 refine cr fun _ hK1_ => ?_
 refine sv (v := (vI .i64 0)) (x_assign rfl) ?_
 refine wn (hK1_ _ _ ?_)
 refine cr fun _ hK2_ => ?_
 refine sm (Value.iface 168 y) ?_
 refine sv (v := y) (by kernel_rfl) ?_
 refine sv (v := y) (x_assign rfl) ?_
 refine wn (hK2_ _ _ ?_)
 refine C_seq (fun _ hK3_ => ?_)
 refine cr fun _ hK4_ => ?_
 refine sv (v := x) (x_move rfl) ?_
 refine sv (v := (vI .i64 ((List.length A) : Int))) (x_lenRS rfl hx underlying168) ?_
 refine sv (v := (vB (decide (((List.length A) : Int) = 0)))) (x_bin rfl rfl rfl) ?_
 refine wn (hK4_ _ _ ?_)
 refine C_cond (b := decide (((List.length A) : Int) = 0)) rfl (fun c5_t => ?_) (fun c5_f => ?_)
 ·have c5_tp : ((List.length A) : Int) = 0 := of_decide_eq_true c5_t
  refine C_seq (fun _ hK6_ => ?_)
  refine cr fun _ hK7_ => ?_
  refine sv (v := y) (x_move rfl) ?_
  refine sv (v := (vI .i64 ((List.length B) : Int))) (x_lenRS rfl hy underlying168) ?_
  refine sv (v := (vB (decide (((List.length B) : Int) = 0)))) (x_bin rfl rfl rfl) ?_
  refine wn (hK7_ _ _ ?_)
  refine C_cond (b := decide (((List.length B) : Int) = 0)) rfl (fun c8_t => ?_) (fun c8_f => ?_)
  ·have c8_tp : ((List.length B) : Int) = 0 := of_decide_eq_true c8_t
   refine cr fun _ hK9_ => ?_
   refine sv (v := (vI .i64 0)) (x_assign rfl) ?_
   refine wn (hK9_ _ _ ?_)
   refine C_ret (X_thenR (X_thenR ?_))
   refine R_any (v := (vI .i64 0)) (run_results1 rfl rfl) ?_
   exact ⟨_, _, rfl, ⟨(congrArg (vI .i64) ((by rw [u8s_nil (ns := A) (by omega), u8s_nil (ns := B) (by omega)]; rfl) : 0 = acm (u8s A) (u8s B))), rfl⟩, (Same.refl w), H⟩
  ·have c8_fp : ¬ (((List.length B) : Int) = 0) := of_decide_eq_false c8_f
   refine C_skip (X_then (hK6_ _ _ ?_))
   refine cr fun _ hK10_ => ?_
   refine sv (v := (vI .i64 1)) (x_assign rfl) ?_
   refine wn (hK10_ _ _ ?_)
   refine C_ret (X_thenR ?_)
   refine R_any (v := (vI .i64 1)) (run_results1 rfl rfl) ?_
   exact ⟨_, _, rfl, ⟨(congrArg (vI .i64) ((by rw [u8s_nil (ns := A) (by omega), acm_l (u8s_nnil (by omega))]) : 1 = acm (u8s A) (u8s B))), rfl⟩, (Same.refl w), H⟩
 ·have c5_fp : ¬ (((List.length A) : Int) = 0) := of_decide_eq_false c5_f
  refine C_skip (X_then (hK3_ _ _ ?_))
  refine C_seq (fun _ hK11_ => ?_)
  refine cr fun _ hK12_ => ?_
  refine sv (v := y) (x_move rfl) ?_
  refine sv (v := (vI .i64 ((List.length B) : Int))) (x_lenRS rfl hy underlying168) ?_
  refine sv (v := (vB (decide (((List.length B) : Int) = 0)))) (x_bin rfl rfl rfl) ?_
  refine wn (hK12_ _ _ ?_)
  refine C_cond (b := decide (((List.length B) : Int) = 0)) rfl (fun c13_t => ?_) (fun c13_f => ?_)
  ·have c13_tp : ((List.length B) : Int) = 0 := of_decide_eq_true c13_t
   refine cr fun _ hK14_ => ?_
   refine sv (v := (vI .i64 (-1))) (x_assign rfl) ?_
   refine wn (hK14_ _ _ ?_)
   refine C_ret (X_thenR ?_)
   refine R_any (v := (vI .i64 (-1))) (run_results1 rfl rfl) ?_
   exact ⟨_, _, rfl, ⟨(congrArg (vI .i64) ((by rw [u8s_nil (ns := B) (by omega), acm_r (u8s_nnil (by omega))]) : -1 = acm (u8s A) (u8s B))), rfl⟩, (Same.refl w), H⟩
  ·have c13_fp : ¬ (((List.length B) : Int) = 0) := of_decide_eq_false c13_f
   refine C_skip (X_then (hK11_ _ _ ?_))
   refine cr fun _ hK15_ => ?_
   refine sv (v := x) (x_move rfl) ?_
   refine sv (v := y) (x_move rfl) ?_
   refine S_list (T_callW (al := [x, y]) rfl rfl cb155 (Calls.into (n := 8) func155 rfl ntmps155 rfl rfl ?_))
   refine cr fun _ hK16_ => ?_
   refine sv (v := (vI .i64 0)) (x_assign rfl) ?_
   refine wn (hK16_ _ _ ?_)
   refine cr fun _ hK17_ => ?_
   refine sv (v := x) (x_move rfl) ?_
   refine sv (v := y) (x_move rfl) ?_
   refine S_list (T_bcmp (fn := Try.f169) (u := x) (v := y) (xs := A) (ys := B) func169 (by kernel_rfl) rfl (by kernel_rfl) (by kernel_rfl) rfl rfl ((hx : RS R 1 x (List.length A) (bytesV A)).mono (Holds.ro_at H 0 rfl)) ((hy : RS R 1 y (List.length B) (bytesV B)).mono (Holds.ro_at H 0 rfl)) ?_)
   refine sv (v := (vI .i64 (Lib.compareBytes (u8s A) (u8s B)))) (x_assign rfl) ?_
   refine wn (hK17_ _ _ ?_)
   refine C_ret ?_
   refine R_any (v := (vI .i64 (Lib.compareBytes (u8s A) (u8s B)))) (run_results1 rfl rfl) ⟨_, rfl, ?_⟩
   refine sv (v := (vI .i64 (Lib.compareBytes (u8s A) (u8s B)))) (x_assign rfl) ?_
   refine wn (hK15_ _ _ ?_)
   refine C_ret ?_
   refine R_any (v := (vI .i64 (Lib.compareBytes (u8s A) (u8s B)))) (run_results1 rfl rfl) ?_
   exact ⟨_, _, rfl, ⟨(congrArg (vI .i64) ((acm_ne (u8s_nnil (by omega)) (u8s_nnil (by omega))).symm : Lib.compareBytes (u8s A) (u8s B) = acm (u8s A) (u8s B))), rfl⟩, (Same.refl w), H⟩

end Go.Proofs.Ytlnihndjepjagaa
set_option linter.unusedVariables false
set_option linter.unusedSimpArgs false
namespace Go.Proofs.Ytlnihndjepjagaa
open Go Go.RowKit Gw Try
open Go.Value renaming int → vI, bool → vB, slice → vS, pointer → vP, agg → vA, tuple → vT

/-! ### Ends of any order -/
inductive EK where
  | t (x : List UInt8)
  | n (x : Int)
def ecm (ord : Int) : EK → EK → Int
  | .t x, .t y => if ord = 0 then Lib.compareBytes x y else acm x y
  | .n x, .n y => if x < y then -1 else if y < x then 1 else 0
  | .t _, .n _ => -1
  | .n _, .t _ => 1
theorem ecm_refl (ord : Int) : ∀ a, ecm ord a a = 0
  | .t x => by simp only [ecm]; split <;> first | exact cb_refl x | exact acm_refl x
  | .n x => by simp only [ecm]; split <;> first | omega | (split <;> omega)
theorem ecm_flip (ord : Int) : ∀ a b, ecm ord a b = - ecm ord b a
  | .t x, .t y => by simp only [ecm]; split <;> first | exact cb_flip x y | exact acm_flip x y
  | .n x, .n y => by simp only [ecm]; split <;> split <;> (try split) <;> first | rfl | omega
  | .t _, .n _ => rfl
  | .n _, .t _ => rfl
theorem ecm_anti (ord : Int) : ∀ {a b}, ecm ord a b = 0 → a = b
  | .t x, .t y, h => by
    simp only [ecm] at h
    split at h
    · rw [cb_anti h]
    · rw [acm_anti h]
  | .n x, .n y, h => by
    simp only [ecm] at h
    split at h
    · omega
    · split at h
      · omega
      · rw [show x = y by omega]
  | .t _, .n _, h => by cases h
  | .n _, .t _, h => by cases h
theorem ecm_trans (ord : Int) : ∀ {a b c}, ecm ord a b ≤ 0 → ecm ord b c ≤ 0 → ecm ord a c ≤ 0
  | .t x, .t y, .t z, h1, h2 => by
    simp only [ecm] at *
    split at h1
    · rename_i h0; rw [if_pos h0] at *; exact cb_trans h1 h2
    · rename_i h0; rw [if_neg h0] at *; exact acm_trans h1 h2
  | .n x, .n y, .n z, h1, h2 => by
    simp only [ecm] at *
    split at h1
    · split at h2
      · rw [if_pos (by omega)]; decide
      · split at h2
        · omega
        · rw [if_pos (by omega)]; decide
    · split at h1
      · omega
      · split at h2
        · rw [if_pos (by omega)]; decide
        · split at h2
          · omega
          · rw [if_neg (by omega), if_neg (by omega)]; decide
  | .t _, _, .n _, _, _ => by show (-1 : Int) ≤ 0; decide
  | .t _, .n _, .t _, _, h => absurd (show (1 : Int) ≤ 0 from h) (by decide)
  | .n _, .t _, _, h, _ => absurd (show (1 : Int) ≤ 0 from h) (by decide)
  | .n _, .n _, .t _, _, h => absurd (show (1 : Int) ≤ 0 from h) (by decide)
def ek (ord : Int) (s : ByteArray) (a : Int) : EK := if ord = 3 then .n a else .t s.data.toList
/-! ### How the reference compares -/
theorem cb_val (a b : ByteArray) : Lib.compareBytes a.data.toList b.data.toList = if Op.bytesLess a.toList b.toList = true then -1 else if (Op.bytesLess a.toList b.toList || a.toList == b.toList) = true then 0 else 1 := by
  have h1 := @bl_lt a.data.toList b.data.toList
  have h2 := @bl_lt b.data.toList a.data.toList
  have h3 := cb_flip a.data.toList b.data.toList
  have hr : ∀ x y : List UInt8, Lib.compareBytes x y = -1 ∨ Lib.compareBytes x y = 0 ∨ Lib.compareBytes x y = 1 := by
    intro x
    induction x with
    | nil => intro y; cases y <;> simp [Lib.compareBytes]
    | cons c x ih =>
      intro y
      cases y with
      | nil => simp [Lib.compareBytes]
      | cons d y =>
        simp only [Lib.compareBytes]
        split
        · simp
        · split
          · simp
          · exact ih y
  rw [toList_data a, toList_data b]
  have hr' := hr a.data.toList b.data.toList
  by_cases hl : Op.bytesLess a.data.toList b.data.toList = true
  · rw [if_pos hl]; have := h1.1 hl; omega
  · rw [if_neg hl]
    have hl' : ¬ Lib.compareBytes a.data.toList b.data.toList < 0 := fun h => hl (h1.2 h)
    by_cases he : a.data.toList = b.data.toList
    · rw [if_pos (by simp [he]), he, cb_refl]
    · have : ¬ (Op.bytesLess a.data.toList b.data.toList || a.data.toList == b.data.toList) = true := by
        rw [Bool.or_eq_true, beq_iff_eq]
        exact fun h => h.elim hl he
      rw [if_neg this]
      have : Lib.compareBytes a.data.toList b.data.toList ≠ 0 := fun h => he (cb_anti h)
      omega
theorem cb_c1 {a b : ByteArray} (h : Op.bytesLess a.toList b.toList = true) : Lib.compareBytes a.data.toList b.data.toList = -1 := by rw [cb_val, if_pos h]
theorem cb_c2 {a b : ByteArray} (h : Op.bytesLess a.toList b.toList = false) (h2 : (!(Op.bytesLess a.toList b.toList || a.toList == b.toList)) = true) : Lib.compareBytes a.data.toList b.data.toList = 1 := by
  rw [cb_val, if_neg (by rw [h]; decide), if_neg (by rw [Bool.not_eq_true'] at h2; rw [h2]; decide)]
theorem cb_c3 {a b : ByteArray} (h : Op.bytesLess a.toList b.toList = false) (h2 : (!(Op.bytesLess a.toList b.toList || a.toList == b.toList)) = false) : Lib.compareBytes a.data.toList b.data.toList = 0 := by
  rw [cb_val, if_neg (by rw [h]; decide), if_pos (by rw [Bool.not_eq_false'] at h2; exact h2)]
theorem nil_size {a : ByteArray} : a.data.toList = [] ↔ a.size = 0 := by
  constructor
  · intro h
    have : a.data.toList.length = 0 := by rw [h]; rfl
    simpa using this
  · intro h
    exact List.eq_nil_of_length_eq_zero (by simpa using h)
theorem acm_val (a b : ByteArray) : acm a.data.toList b.data.toList = if a.size = 0 then (if b.size = 0 then 0 else 1) else if b.size = 0 then -1 else Lib.compareBytes a.data.toList b.data.toList := by
  by_cases h1 : a.size = 0
  · rw [if_pos h1, nil_size.2 h1]
    by_cases h2 : b.size = 0
    · rw [if_pos h2, nil_size.2 h2]; rfl
    · rw [if_neg h2, acm_l fun h => h2 (nil_size.1 h)]
  · rw [if_neg h1]
    by_cases h2 : b.size = 0
    · rw [if_pos h2, nil_size.2 h2, acm_r fun h => h1 (nil_size.1 h)]
    · rw [if_neg h2, acm_ne (fun h => h1 (nil_size.1 h)) (fun h => h2 (nil_size.1 h))]
def endsL (ord : Int) (s t : ByteArray) (a b : Int) : Bool :=
  if ord = 3 then decide (a < b) else if (decide (ord ≠ 0) && !((s.toList == (ByteArray.mk #[]).toList) == (t.toList == (ByteArray.mk #[]).toList))) = true then (t.toList == (ByteArray.mk #[]).toList) else Op.bytesLess s.toList t.toList
def endsM (ord : Int) (s t : ByteArray) (a b : Int) : Bool :=
  if ord = 3 then decide (b < a) else if (decide (ord ≠ 0) && !((s.toList == (ByteArray.mk #[]).toList) == (t.toList == (ByteArray.mk #[]).toList))) = true then (s.toList == (ByteArray.mk #[]).toList) else !(Op.bytesLess s.toList t.toList || s.toList == t.toList)
theorem ecm_ends (ord : Int) (s t : ByteArray) (a b : Int) : ecm ord (ek ord s a) (ek ord t b) = if endsL ord s t a b = true then -1 else if endsM ord s t a b = true then 1 else 0 := by
  unfold ek endsL endsM
  by_cases h3 : ord = 3
  · rw [if_pos h3, if_pos h3, if_pos h3, if_pos h3]
    simp only [ecm, decide_eq_true_eq]
  · rw [if_neg h3, if_neg h3, if_neg h3, if_neg h3]
    simp only [ecm]
    have e1 := @empty_iff s
    have e2 := @empty_iff t
    by_cases h0 : ord = 0
    · rw [if_pos h0, cb_val]
      have : (decide (ord ≠ 0) && !((s.toList == (ByteArray.mk #[]).toList) == (t.toList == (ByteArray.mk #[]).toList))) = false := by simp [h0]
      rw [this]
      simp only [Bool.false_eq_true, if_false]
      by_cases hl : Op.bytesLess s.toList t.toList = true
      · rw [if_pos hl, if_pos hl]
      · rw [if_neg hl, if_neg hl]
        cases (Op.bytesLess s.toList t.toList || s.toList == t.toList) <;> simp
    · rw [if_neg h0, acm_val, cb_val]
      cases hs : (s.toList == (ByteArray.mk #[]).toList) <;> cases ht : (t.toList == (ByteArray.mk #[]).toList)
      · have s0 : s.size ≠ 0 := fun h => by rw [e1.2 h] at hs; cases hs
        have t0 : t.size ≠ 0 := fun h => by rw [e2.2 h] at ht; cases ht
        rw [if_neg s0, if_neg t0]
        simp only [beq_self_eq_true, Bool.not_true, Bool.and_false, Bool.false_eq_true, if_false]
        by_cases hl : Op.bytesLess s.toList t.toList = true
        · rw [if_pos hl, if_pos hl]
        · rw [if_neg hl, if_neg hl]
          cases (Op.bytesLess s.toList t.toList || s.toList == t.toList) <;> simp
      · have s0 : s.size ≠ 0 := fun h => by rw [e1.2 h] at hs; cases hs
        rw [if_neg s0, if_pos (e2.1 ht)]
        simp [h0]
      · have t0 : t.size ≠ 0 := fun h => by rw [e2.2 h] at ht; cases ht
        rw [if_pos (e1.1 hs), if_neg t0]
        simp [h0]
      · rw [if_pos (e1.1 hs), if_pos (e2.1 ht)]
        have hse := nil_size.2 (e1.1 hs)
        have hte := nil_size.2 (e2.1 ht)
        simp [toList_data, hse, hte, Op.bytesLess]


set_option maxHeartbeats 1600000 in
theorem enCmp0 (R : HP) (s t : ByteArray) :
    Tri Try.prog 136 #[(Value.string s), (Value.iface 167 (Value.string t))] R [] (fun v__ post__ => v__ = (vI .i64 (ecm 0 (.t s.data.toList) (.t t.data.toList))) ∧ post__ = []) := by
 refine Tri.into (n := 14) (al := [(Value.string s), (Value.iface 167 (Value.string t))]) func136 rfl ntmps136 rfl rfl fun w F H => ?_
 refine cr fun _ hK1_ => ?_
 refine sv (v := (vI .i64 0)) (x_assign rfl) ?_
 refine wn (hK1_ _ _ ?_)
 refine cr fun _ hK2_ => ?_
 refine sm (Value.iface 167 (Value.string t)) ?_
 refine sv (v := (Value.string t)) (by kernel_rfl) ?_
 refine sv (v := (Value.string t)) (x_assign rfl) ?_
 refine wn (hK2_ _ _ ?_)
 refine C_seq (fun _ hK3_ => ?_)
 refine cr fun _ hK4_ => ?_
 refine sm (Value.string s) ?_
 refine sm (Value.string t) ?_
 refine sv (v := (vB (Op.bytesLess s.toList t.toList))) (x_str rfl rfl rfl (by decide)) ?_
 refine wn (hK4_ _ _ ?_)
 refine C_cond (b := Op.bytesLess s.toList t.toList) rfl (fun c5_t => ?_) (fun c5_f => ?_)
 ·skip
  refine cr fun _ hK6_ => ?_
  refine sv (v := (vI .i64 (-1))) (x_assign rfl) ?_
  refine wn (hK6_ _ _ ?_)
  refine C_ret (X_thenR ?_)
  refine R_any (v := (vI .i64 (-1))) (run_results1 rfl rfl) ?_
  exact ⟨_, _, rfl, ⟨(congrArg (vI .i64) ((by simp only [ecm, if_true]; exact (cb_c1 c5_t).symm) : -1 = ecm 0 (.t s.data.toList) (.t t.data.toList))), rfl⟩, (Same.refl w), H⟩
 ·skip
  refine C_skip (X_then (hK3_ _ _ ?_))
  refine C_seq (fun _ hK7_ => ?_)
  refine cr fun _ hK8_ => ?_
  refine sm (Value.string s) ?_
  refine sm (Value.string t) ?_
  refine sv (v := (vB (!(Op.bytesLess s.toList t.toList || s.toList == t.toList)))) (x_str rfl rfl rfl (by decide)) ?_
  refine wn (hK8_ _ _ ?_)
  refine C_cond (b := !(Op.bytesLess s.toList t.toList || s.toList == t.toList)) rfl (fun c9_t => ?_) (fun c9_f => ?_)
  ·skip
   refine cr fun _ hK10_ => ?_
   refine sv (v := (vI .i64 1)) (x_assign rfl) ?_
   refine wn (hK10_ _ _ ?_)
   refine C_ret (X_thenR ?_)
   refine R_any (v := (vI .i64 1)) (run_results1 rfl rfl) ?_
   exact ⟨_, _, rfl, ⟨(congrArg (vI .i64) ((by simp only [ecm, if_true]; exact (cb_c2 c5_f c9_t).symm) : 1 = ecm 0 (.t s.data.toList) (.t t.data.toList))), rfl⟩, (Same.refl w), H⟩
  ·skip
   refine C_skip (X_then (hK7_ _ _ ?_))
   refine cr fun _ hK11_ => ?_
   refine sv (v := (vI .i64 0)) (x_assign rfl) ?_
   refine wn (hK11_ _ _ ?_)
   refine C_ret ?_
   refine R_any (v := (vI .i64 0)) (run_results1 rfl rfl) ?_
   exact ⟨_, _, rfl, ⟨(congrArg (vI .i64) ((by simp only [ecm, if_true]; exact (cb_c3 c5_f c9_f).symm) : 0 = ecm 0 (.t s.data.toList) (.t t.data.toList))), rfl⟩, (Same.refl w), H⟩

set_option maxHeartbeats 1600000 in
theorem enCmp1 (R : HP) (s t : ByteArray) :
    Tri Try.prog 135 #[(Value.string s), (Value.iface 166 (Value.string t))] R [] (fun v__ post__ => v__ = (vI .i64 (ecm 1 (.t s.data.toList) (.t t.data.toList))) ∧ post__ = []) := by
 refine Tri.into (n := 23) (al := [(Value.string s), (Value.iface 166 (Value.string t))]) func135 rfl ntmps135 rfl rfl fun w F H => ?_
 refine cr fun _ hK1_ => ?_
 refine sv (v := (vI .i64 0)) (x_assign rfl) ?_
 refine wn (hK1_ _ _ ?_)
 refine cr fun _ hK2_ => ?_
 refine sm (Value.iface 166 (Value.string t)) ?_
 refine sv (v := (Value.string t)) (by kernel_rfl) ?_
 refine sv (v := (Value.string t)) (x_assign rfl) ?_
 refine wn (hK2_ _ _ ?_)
 refine C_seq (fun _ hK3_ => ?_)
 refine cr fun _ hK4_ => ?_
 refine sm (Value.string s) ?_
 refine sv (v := (vI .i64 (s.size : Int))) (x_lenT rfl underlying166) ?_
 refine sv (v := (vB (decide ((s.size : Int) = 0)))) (x_bin rfl rfl rfl) ?_
 refine wn (hK4_ _ _ ?_)
 refine C_cond (b := decide ((s.size : Int) = 0)) rfl (fun c5_t => ?_) (fun c5_f => ?_)
 ·have c5_tp : (s.size : Int) = 0 := of_decide_eq_true c5_t
  refine C_seq (fun _ hK6_ => ?_)
  refine cr fun _ hK7_ => ?_
  refine sm (Value.string t) ?_
  refine sv (v := (vI .i64 (t.size : Int))) (x_lenT rfl underlying166) ?_
  refine sv (v := (vB (decide ((t.size : Int) = 0)))) (x_bin rfl rfl rfl) ?_
  refine wn (hK7_ _ _ ?_)
  refine C_cond (b := decide ((t.size : Int) = 0)) rfl (fun c8_t => ?_) (fun c8_f => ?_)
  ·have c8_tp : (t.size : Int) = 0 := of_decide_eq_true c8_t
   refine cr fun _ hK9_ => ?_
   refine sv (v := (vI .i64 0)) (x_assign rfl) ?_
   refine wn (hK9_ _ _ ?_)
   refine C_ret (X_thenR (X_thenR ?_))
   refine R_any (v := (vI .i64 0)) (run_results1 rfl rfl) ?_
   exact ⟨_, _, rfl, ⟨(congrArg (vI .i64) ((by simp only [ecm]; rw [if_neg (by decide), acm_val]; first | (rw [if_pos (by omega), if_pos (by omega)]; done) | (rw [if_pos (by omega), if_neg (by omega)]; done) | (rw [if_neg (by omega), if_pos (by omega)]; done)) : 0 = ecm 1 (.t s.data.toList) (.t t.data.toList))), rfl⟩, (Same.refl w), H⟩
  ·have c8_fp : ¬ ((t.size : Int) = 0) := of_decide_eq_false c8_f
   refine C_skip (X_then (hK6_ _ _ ?_))
   refine cr fun _ hK10_ => ?_
   refine sv (v := (vI .i64 1)) (x_assign rfl) ?_
   refine wn (hK10_ _ _ ?_)
   refine C_ret (X_thenR ?_)
   refine R_any (v := (vI .i64 1)) (run_results1 rfl rfl) ?_
   exact ⟨_, _, rfl, ⟨(congrArg (vI .i64) ((by simp only [ecm]; rw [if_neg (by decide), acm_val]; first | (rw [if_pos (by omega), if_pos (by omega)]; done) | (rw [if_pos (by omega), if_neg (by omega)]; done) | (rw [if_neg (by omega), if_pos (by omega)]; done)) : 1 = ecm 1 (.t s.data.toList) (.t t.data.toList))), rfl⟩, (Same.refl w), H⟩
 ·have c5_fp : ¬ ((s.size : Int) = 0) := of_decide_eq_false c5_f
  refine C_skip (X_then (hK3_ _ _ ?_))
  refine C_seq (fun _ hK11_ => ?_)
  refine cr fun _ hK12_ => ?_
  refine sm (Value.string t) ?_
  refine sv (v := (vI .i64 (t.size : Int))) (x_lenT rfl underlying166) ?_
  refine sv (v := (vB (decide ((t.size : Int) = 0)))) (x_bin rfl rfl rfl) ?_
  refine wn (hK12_ _ _ ?_)
  refine C_cond (b := decide ((t.size : Int) = 0)) rfl (fun c13_t => ?_) (fun c13_f => ?_)
  ·have c13_tp : (t.size : Int) = 0 := of_decide_eq_true c13_t
   refine cr fun _ hK14_ => ?_
   refine sv (v := (vI .i64 (-1))) (x_assign rfl) ?_
   refine wn (hK14_ _ _ ?_)
   refine C_ret (X_thenR ?_)
   refine R_any (v := (vI .i64 (-1))) (run_results1 rfl rfl) ?_
   exact ⟨_, _, rfl, ⟨(congrArg (vI .i64) ((by simp only [ecm]; rw [if_neg (by decide), acm_val]; first | (rw [if_pos (by omega), if_pos (by omega)]; done) | (rw [if_pos (by omega), if_neg (by omega)]; done) | (rw [if_neg (by omega), if_pos (by omega)]; done)) : -1 = ecm 1 (.t s.data.toList) (.t t.data.toList))), rfl⟩, (Same.refl w), H⟩
  ·have c13_fp : ¬ ((t.size : Int) = 0) := of_decide_eq_false c13_f
   refine C_skip (X_then (hK11_ _ _ ?_))
   refine C_seq (fun _ hK15_ => ?_)
   refine cr fun _ hK16_ => ?_
   refine sm (Value.string s) ?_
   refine sm (Value.string t) ?_
   refine sv (v := (vB (Op.bytesLess s.toList t.toList))) (x_str rfl rfl rfl (by decide)) ?_
   refine wn (hK16_ _ _ ?_)
   refine C_cond (b := Op.bytesLess s.toList t.toList) rfl (fun c17_t => ?_) (fun c17_f => ?_)
   ·skip
    refine cr fun _ hK18_ => ?_
    refine sv (v := (vI .i64 (-1))) (x_assign rfl) ?_
    refine wn (hK18_ _ _ ?_)
    refine C_ret (X_thenR ?_)
    refine R_any (v := (vI .i64 (-1))) (run_results1 rfl rfl) ?_
    exact ⟨_, _, rfl, ⟨(congrArg (vI .i64) ((by simp only [ecm]; rw [if_neg (by decide), acm_val]; rw [if_neg (by omega), if_neg (by omega)]; exact (cb_c1 c17_t).symm) : -1 = ecm 1 (.t s.data.toList) (.t t.data.toList))), rfl⟩, (Same.refl w), H⟩
   ·skip
    refine C_skip (X_then (hK15_ _ _ ?_))
    refine C_seq (fun _ hK19_ => ?_)
    refine cr fun _ hK20_ => ?_
    refine sm (Value.string s) ?_
    refine sm (Value.string t) ?_
    refine sv (v := (vB (!(Op.bytesLess s.toList t.toList || s.toList == t.toList)))) (x_str rfl rfl rfl (by decide)) ?_
    refine wn (hK20_ _ _ ?_)
    refine C_cond (b := !(Op.bytesLess s.toList t.toList || s.toList == t.toList)) rfl (fun c21_t => ?_) (fun c21_f => ?_)
    ·skip
     refine cr fun _ hK22_ => ?_
     refine sv (v := (vI .i64 1)) (x_assign rfl) ?_
     refine wn (hK22_ _ _ ?_)
     refine C_ret (X_thenR ?_)
     refine R_any (v := (vI .i64 1)) (run_results1 rfl rfl) ?_
     exact ⟨_, _, rfl, ⟨(congrArg (vI .i64) ((by simp only [ecm]; rw [if_neg (by decide), acm_val]; rw [if_neg (by omega), if_neg (by omega)]; exact (cb_c2 c17_f c21_t).symm) : 1 = ecm 1 (.t s.data.toList) (.t t.data.toList))), rfl⟩, (Same.refl w), H⟩
    ·skip
     refine C_skip (X_then (hK19_ _ _ ?_))
     refine cr fun _ hK23_ => ?_
     refine sv (v := (vI .i64 0)) (x_assign rfl) ?_
     refine wn (hK23_ _ _ ?_)
     refine C_ret ?_
     refine R_any (v := (vI .i64 0)) (run_results1 rfl rfl) ?_
     exact ⟨_, _, rfl, ⟨(congrArg (vI .i64) ((by simp only [ecm]; rw [if_neg (by decide), acm_val]; rw [if_neg (by omega), if_neg (by omega)]; exact (cb_c3 c17_f c21_f).symm) : 0 = ecm 1 (.t s.data.toList) (.t t.data.toList))), rfl⟩, (Same.refl w), H⟩

set_option maxHeartbeats 1600000 in
theorem enCmp3 (R : HP) (a b : Int) (ha : -4611686018427387903 ≤ a ∧ a ≤ 4611686018427387903) (hb : -4611686018427387903 ≤ b ∧ b ≤ 4611686018427387903) :
    Tri Try.prog 138 #[(vI .i64 a), (Value.iface 169 (vI .i64 b))] R [] (fun v__ post__ => v__ = (vI .i64 (ecm 3 (.n a) (.n b))) ∧ post__ = []) := by
 refine Tri.into (n := 16) (al := [(vI .i64 a), (Value.iface 169 (vI .i64 b))]) func138 rfl ntmps138 rfl rfl fun w F H => ?_
 refine cr fun _ hK1_ => ?_
 refine sv (v := (vI .i64 0)) (x_assign rfl) ?_
 refine wn (hK1_ _ _ ?_)
 refine cr fun _ hK2_ => ?_
 refine sm (Value.iface 169 (vI .i64 b)) ?_
 refine sv (v := (vI .i64 b)) (by kernel_rfl) ?_
 refine sv (v := (vI .i64 b)) (x_assign rfl) ?_
 refine wn (hK2_ _ _ ?_)
 refine cr fun _ hK3_ => ?_
 refine sm (vI .i64 a) ?_
 refine sm (vI .i64 b) ?_
 refine sv (v := (vI .i64 (a - b))) (x_bin rfl rfl (ib_sub (IntWalk.i64_in _ (by omega)))) ?_
 refine sv (v := (vI .i64 (a - b))) (x_assign rfl) ?_
 refine wn (hK3_ _ _ ?_)
 refine C_seq (fun _ hK4_ => ?_)
 refine cr fun _ hK5_ => ?_
 refine sm (vI .i64 (a - b)) ?_
 refine sv (v := (vB (decide (a - b < 0)))) (x_bin rfl rfl rfl) ?_
 refine wn (hK5_ _ _ ?_)
 refine C_cond (b := decide (a - b < 0)) rfl (fun c6_t => ?_) (fun c6_f => ?_)
 ·have c6_tp : a - b < 0 := of_decide_eq_true c6_t
  refine cr fun _ hK7_ => ?_
  refine sv (v := (vI .i64 (-1))) (x_assign rfl) ?_
  refine wn (hK7_ _ _ ?_)
  refine C_ret (X_thenR ?_)
  refine R_any (v := (vI .i64 (-1))) (run_results1 rfl rfl) ?_
  exact ⟨_, _, rfl, ⟨(congrArg (vI .i64) ((by simp only [ecm]; split <;> first | omega | (split <;> omega)) : -1 = ecm 3 (.n a) (.n b))), rfl⟩, (Same.refl w), H⟩
 ·have c6_fp : ¬ (a - b < 0) := of_decide_eq_false c6_f
  refine C_skip (X_then (hK4_ _ _ ?_))
  refine C_seq (fun _ hK8_ => ?_)
  refine cr fun _ hK9_ => ?_
  refine sm (vI .i64 (a - b)) ?_
  refine sv (v := (vB (decide (0 < a - b)))) (x_bin rfl rfl rfl) ?_
  refine wn (hK9_ _ _ ?_)
  refine C_cond (b := decide (0 < a - b)) rfl (fun c10_t => ?_) (fun c10_f => ?_)
  ·have c10_tp : 0 < a - b := of_decide_eq_true c10_t
   refine cr fun _ hK11_ => ?_
   refine sv (v := (vI .i64 1)) (x_assign rfl) ?_
   refine wn (hK11_ _ _ ?_)
   refine C_ret (X_thenR ?_)
   refine R_any (v := (vI .i64 1)) (run_results1 rfl rfl) ?_
   exact ⟨_, _, rfl, ⟨(congrArg (vI .i64) ((by simp only [ecm]; split <;> first | omega | (split <;> omega)) : 1 = ecm 3 (.n a) (.n b))), rfl⟩, (Same.refl w), H⟩
  ·have c10_fp : ¬ (0 < a - b) := of_decide_eq_false c10_f
   refine C_skip (X_then (hK8_ _ _ ?_))
   refine cr fun _ hK12_ => ?_
   refine sv (v := (vI .i64 0)) (x_assign rfl) ?_
   refine wn (hK12_ _ _ ?_)
   refine C_ret ?_
   refine R_any (v := (vI .i64 0)) (run_results1 rfl rfl) ?_
   exact ⟨_, _, rfl, ⟨(congrArg (vI .i64) ((by simp only [ecm]; split <;> first | omega | (split <;> omega)) : 0 = ecm 3 (.n a) (.n b))), rfl⟩, (Same.refl w), H⟩

def EVal (ord : Int) (R : HP) (v : Value) (k : EK) : Prop :=
  (ord = 0 ∧ ∃ s : ByteArray, v = .iface 167 (.string s) ∧ k = .t s.data.toList) ∨ (ord = 1 ∧ ∃ s : ByteArray, v = .iface 166 (.string s) ∧ k = .t s.data.toList) ∨
  (ord = 2 ∧ ∃ (x : Value) (A : List Int), v = .iface 168 x ∧ RS R 1 x (List.length A) (bytesV A) ∧ k = .t (u8s A)) ∨ (ord = 3 ∧ ∃ a : Int, v = .iface 169 (.int .i64 a) ∧ (-4611686018427387903 ≤ a ∧ a ≤ 4611686018427387903) ∧ k = .n a)
def EO (ord : Int) : KO EK where
  cm := ecm ord
  Val := EVal ord
  mono := fun s h => by
    rcases h with h | h | ⟨h0, x, A, h1, h2, h3⟩ | h
    · exact .inl h
    · exact .inr (.inl h)
    · exact .inr (.inr (.inl ⟨h0, x, A, h1, h2.mono s, h3⟩))
    · exact .inr (.inr (.inr h))
  one := fun h => by rcases h with ⟨_, s, h, _⟩ | ⟨_, s, h, _⟩ | ⟨_, x, A, h, _⟩ | ⟨_, a, h, _⟩ <;> (subst h; rfl)
  cmp := fun {R v w a b} h1 h2 => by
    rcases h1 with ⟨o1, s, e1, k1⟩ | ⟨o1, s, e1, k1⟩ | ⟨o1, x, A, e1, r1, k1⟩ | ⟨o1, i, e1, r1, k1⟩ <;> rcases h2 with ⟨o2, t, e2, k2⟩ | ⟨o2, t, e2, k2⟩ | ⟨o2, y, B, e2, r2, k2⟩ | ⟨o2, j, e2, r2, k2⟩ <;> first | (exfalso; omega) | skip
    · subst o1; subst e1; subst e2; subst k1; subst k2
      exact ⟨167, .string s, 136, rfl, fun W => by kernel_rfl, cb136, (enCmp0 R s t).mono fun v l h => h, fun W => by kernel_rfl⟩
    · subst o1; subst e1; subst e2; subst k1; subst k2
      exact ⟨166, .string s, 135, rfl, fun W => by kernel_rfl, cb135, (enCmp1 R s t).mono fun v l h => h, fun W => by kernel_rfl⟩
    · subst o1; subst e1; subst e2; subst k1; subst k2
      exact ⟨168, x, 137, rfl, fun W => by kernel_rfl, cb137, (bCmp R x y A B r1 r2).mono fun v l h => h, fun W => by kernel_rfl⟩
    · subst o1; subst e1; subst e2; subst k1; subst k2
      exact ⟨169, .int .i64 i, 138, rfl, fun W => by kernel_rfl, cb138, (enCmp3 R i j r1 r2).mono fun v l h => h, fun W => by kernel_rfl⟩
  refl := ecm_refl ord
  anti := ecm_anti ord
  flip := fun {a b} => by have := ecm_flip ord a b; omega
  trans := ecm_trans ord
end Go.Proofs.Ytlnihndjepjagaa
